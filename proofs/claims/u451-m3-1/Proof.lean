import JvmDerived
import JvmDerived.Pilot.@@N@@Statement
import JvmDerived.Pilot.@@N@@Code
set_option linter.unusedVariables false
set_option linter.unusedSimpArgs false
namespace Jvm.OwnK
open Jvm Sem ClassFile Op Lib Jvm.Stand Jvm.Free Jvm.LawKit Jvm.RoadKit Bundle
/-- where a walk stands: pc, locals, stack, heap, cells and slots made so far -/
abbrev Kt := Nat → Array Slot → List Value → Heap → Nat → Nat → Prop
/-- what a body leaves: the value that it returns, the heap -/
abbrev Qt := Option Value → Heap → Prop
/-- a body's end, as its contract asks it -/
def Out (p : Program) (e : Env) (below : List Frame) (s s1 : State) (f0 : JFrame) (R : Room) (n0 : Nat) (Q : Qt) : Prop :=
  ∃ s2 o, Steps p.tables e below (s1.setTop f0) s2 ∧ s2.status = .running ∧ Ended s2 below o ∧ ∃ v L, o = .returned v ∧ (Q v s2.heap ∧ Fr n0 L) ∧ FrameEnd s o s2 L R.cells R.slots
/-- what doesn't change along a walk, and what K and O mean -/
def Ctx (l : Launch) (R : Room) (n0 : Nat) (Z : State) (own : String) (bytes : ByteArray) (ml : Nat) (nm : String) (rt : Option FieldType) (Q : Qt) (K : Kt) (O : Prop) : Prop :=
  ∃ (p : Program) (e : Env) (s : State) (m : MethodId) (args : Array Value) (below : List Frame) (meth : Method) (c : Code) (s1 : State) (f0 : JFrame),
    p.tables.exec = Jvm.exec ∧ c.code = bytes ∧ Z.Warmed39 s.vm ∧ s.vm.findClass own = some m.cls ∧ c.maxLocals = ml ∧ meth.name = nm ∧ meth.sig.returnType = rt ∧ meth.locks = false ∧
    (∀ pc L S h cl sl, K pc L S h cl sl ↔ ∃ T locs, Stand p l e R s m args below meth c T locs cl sl ∧ T.heap = h ∧ Fr n0 locs ∧ ∀ t, Steps p.tables e below (T.setTop (mkF m pc L S)) t → Steps p.tables e below (s1.setTop f0) t) ∧
    (Out p e below s s1 f0 R n0 Q → O)
/-- a body's contract -/
def Con (l : Launch) (y : MethodName) (bytes : ByteArray) (ml : Nat) (rt : Option FieldType) (rm : Room) (Z : State) (as : Array Value) (h : Heap) (n0 : Nat) (Q : Qt) : Prop :=
  ∀ ws : List Jvm.Cond, MetFree l y (head1 (Jvm.Cond.code y bytes ml rt :: ws) rm) (fun a U => a = as ∧ Z.Warmed39 U.vm ∧ U.heap = h) (fun _ _ _ _ _ => True) (fun _ U o U' => ∃ v L, o = .returned v ∧ (Q v U'.heap ∧ Fr n0 L) ∧ FrameEnd U o U' L rm.cells rm.slots)
theorem Con.mono {l : Launch} {y : MethodName} {bytes : ByteArray} {ml : Nat} {rt : Option FieldType} {rm : Room} {Z : State} {as : Array Value} {h : Heap} {n0 : Nat} {Q Q' : Qt} (K : Con l y bytes ml rt rm Z as h n0 Q) (q : ∀ v h', Q v h' → Q' v h') : Con l y bytes ml rt rm Z as h n0 Q' := by
  intro ws p e ha hc hk s m args below hf happ hP hK
  obtain ⟨n, o, h1, h2, h3, v, L, h4, ⟨h5, h6⟩, h7⟩ := K ws p e ha hc hk s m args below hf happ hP hK
  exact ⟨n, o, h1, h2, h3, v, L, h4, ⟨q _ _ h5, h6⟩, h7⟩
theorem Con.enter {l : Launch} {y : MethodName} {bytes : ByteArray} {ml : Nat} {rt : Option FieldType} {rm : Room} {Z : State} {as : Array Value} {h : Heap} {n0 : Nat} {Q : Qt} {L0 : Array Slot} (hpl : plainFor y = true) (hef : ∀ m, entryFrame m as ml = mkF m 0 L0 [])
    (hb : ∀ (K : Kt) (O : Prop), Ctx l rm n0 Z y.cls bytes ml y.name rt Q K O → K 0 L0 [] h 0 0 → O) : Con l y bytes ml rt rm Z as h n0 Q := by
  intro ws
  refine MetFree.of_bodySF hpl hisR ?_
  intro p e s m args below meth c s1 Bd hml0 hP hK
  obtain ⟨rfl, hZ, hh⟩ := hP
  have X0 : Stand p l e rm s m args below meth c s1 [] 0 0 := Stand.of_body Bd
  have e0 : s1.heap = h := by rw [← hh, Bd.state]; rfl
  exact hb (fun pc L S h cl sl => ∃ T locs, Stand p l e rm s m args below meth c T locs cl sl ∧ T.heap = h ∧ Fr n0 locs ∧ ∀ t, Steps p.tables e below (T.setTop (mkF m pc L S)) t → Steps p.tables e below (s1.setTop (entryFrame m args ml)) t)
    (Out p e below s s1 (entryFrame m args ml) rm n0 Q)
    ⟨p, e, s, m, args, below, meth, c, s1, entryFrame m args ml, Bd.exec, Bd.bytes, hZ, findClass_of_methodNamed Bd.named, hml0, (name_of_methodNamed Bd.named Bd.method).1, Bd.returns, Bd.notSynchronized, fun _ _ _ _ _ _ => Iff.rfl, id⟩
    ⟨s1, [], X0, e0, Fr.nil n0, fun t k => castTop (hef m) k⟩
section Steps
variable {l : Launch} {R : Room} {n0 : Nat} {Z : State} {own : String} {bytes : ByteArray} {ml : Nat} {nm : String} {rt : Option FieldType} {Q : Qt} {K : Kt} {O : Prop} {a0 : Array Value} {pc : Nat} {L : Array Slot} {S rest : List Value} {h : Heap} {cl sl : Nat} {pc' : Nat}
theorem Ctx.pure (C : Ctx l R n0 Z own bytes ml nm rt Q K O) (H : K pc L S h cl sl) {L' : Array Slot} {S' : List Value}
    (f : ∀ (p : Program) (e : Env) (s : State) (m : MethodId) (args : Array Value) (below : List Frame) (meth : Method) (c : Code) (T : State) (locs : List Loc), Stand p l e R s m args below meth c T locs cl sl → p.tables.exec = Jvm.exec → c.code = bytes → Z.Warmed39 s.vm → s.vm.findClass own = some m.cls → T.heap = h →
      ∀ t, Steps p.tables e below (T.setTop (mkF m pc' L' S')) t → Steps p.tables e below (T.setTop (mkF m pc L S)) t) : K pc' L' S' h cl sl := by
  obtain ⟨p, e, s, m, args, below, meth, c, s1, f0, hx, hby, hZ, hown, hml, hnm, hrt, hlk, hK, hO⟩ := C
  obtain ⟨T, locs, X, eT, N, st⟩ := (hK _ _ _ _ _ _).mp H
  exact (hK _ _ _ _ _ _).mpr ⟨T, locs, X, eT, N, fun t k => st t (f p e s m args below meth c T locs X hx hby hZ hown eT t k)⟩
/-- a step that may note something in the tables -/
theorem Ctx.note (C : Ctx l R n0 Z own bytes ml nm rt Q K O) (H : K pc L S h cl sl) {L' : Array Slot} {S' : List Value}
    (f : ∀ (p : Program) (e : Env) (s : State) (m : MethodId) (args : Array Value) (below : List Frame) (meth : Method) (c : Code) (T : State) (locs : List Loc), Stand p l e R s m args below meth c T locs cl sl → p.tables.exec = Jvm.exec → c.code = bytes → Z.Warmed39 s.vm → s.vm.findClass own = some m.cls → c.maxLocals = ml → T.heap = h →
      ∃ T', Stand p l e R s m args below meth c T' locs cl sl ∧ T'.heap = h ∧ ∀ t, Steps p.tables e below (T'.setTop (mkF m pc' L' S')) t → Steps p.tables e below (T.setTop (mkF m pc L S)) t) : K pc' L' S' h cl sl := by
  obtain ⟨p, e, s, m, args, below, meth, c, s1, f0, hx, hby, hZ, hown, hml, hnm, hrt, hlk, hK, hO⟩ := C
  obtain ⟨T, locs, X, eT, N, st⟩ := (hK _ _ _ _ _ _).mp H
  obtain ⟨T', X', eT', st'⟩ := f p e s m args below meth c T locs X hx hby hZ hown hml eT
  exact (hK _ _ _ _ _ _).mpr ⟨T', locs, X', eT', N, fun t k => st t (st' t k)⟩

theorem k_iloadN (C : Ctx l R n0 Z own bytes ml nm rt Q K O) {k : Fin 4} {v : Int32} (H : K pc L (S) h cl sl) (d : decode bytes pc = .ok (.iload_n k, 1)) (hl : L[k.val]? = some (.val (.int v))) (hp : pc + 1 = pc') : K pc' L ((.int v) :: S) h cl sl := by
  subst hp
  exact C.pure H fun p e s m args below meth c T locs X hx hby _ _ _ t k => XS.iloadN X.here hx rfl (hb hby d) hl k
theorem k_iload (C : Ctx l R n0 Z own bytes ml nm rt Q K O) {k : Nat} {v : Int32} (H : K pc L (S) h cl sl) (d : decode bytes pc = .ok (.iload k, 2)) (hl : L[k]? = some (.val (.int v))) (hp : pc + 2 = pc') : K pc' L ((.int v) :: S) h cl sl := by
  subst hp
  exact C.pure H fun p e s m args below meth c T locs X hx hby _ _ _ t k => XS.iload X.here hx rfl (hb hby d) hl k
theorem k_lloadN (C : Ctx l R n0 Z own bytes ml nm rt Q K O) {k : Fin 4} {v : Int64} (H : K pc L (S) h cl sl) (d : decode bytes pc = .ok (.lload_n k, 1)) (hl : L[k.val]? = some (.val (.long v))) (hp : pc + 1 = pc') : K pc' L ((.long v) :: S) h cl sl := by
  subst hp
  exact C.pure H fun p e s m args below meth c T locs X hx hby _ _ _ t k => XS.lloadN X.here hx rfl (hb hby d) hl k
theorem k_lload (C : Ctx l R n0 Z own bytes ml nm rt Q K O) {k : Nat} {v : Int64} (H : K pc L (S) h cl sl) (d : decode bytes pc = .ok (.lload k, 2)) (hl : L[k]? = some (.val (.long v))) (hp : pc + 2 = pc') : K pc' L ((.long v) :: S) h cl sl := by
  subst hp
  exact C.pure H fun p e s m args below meth c T locs X hx hby _ _ _ t k => XS.lload X.here hx rfl (hb hby d) hl k
theorem k_aloadN (C : Ctx l R n0 Z own bytes ml nm rt Q K O) {k : Fin 4} {v : Value} (H : K pc L (S) h cl sl) (d : decode bytes pc = .ok (.aload_n k, 1)) (hl : L[k.val]? = some (.val v)) (hv : v.isRef = true) (hp : pc + 1 = pc') : K pc' L (v :: S) h cl sl := by
  subst hp
  exact C.pure H fun p e s m args below meth c T locs X hx hby _ _ _ t k => XS.aloadN X.here hx rfl (hb hby d) hl hv k
theorem k_aload (C : Ctx l R n0 Z own bytes ml nm rt Q K O) {k : Nat} {v : Value} (H : K pc L (S) h cl sl) (d : decode bytes pc = .ok (.aload k, 2)) (hl : L[k]? = some (.val v)) (hv : v.isRef = true) (hp : pc + 2 = pc') : K pc' L (v :: S) h cl sl := by
  subst hp
  exact C.pure H fun p e s m args below meth c T locs X hx hby _ _ _ t k => XS.aload X.here hx rfl (hb hby d) hl hv k
theorem k_istoreN (C : Ctx l R n0 Z own bytes ml nm rt Q K O) {k : Fin 4} {v : Int32} {L' : Array Slot} (H : K pc L ((.int v) :: rest) h cl sl) (d : decode bytes pc = .ok (.istore_n k, 1)) (hl : storeLocals L k.val (.int v) = some L') (hp : pc + 1 = pc') : K pc' L' (rest) h cl sl := by
  subst hp
  exact C.pure H fun p e s m args below meth c T locs X hx hby _ _ _ t k => XS.istoreN X.here hx rfl (hb hby d) rfl hl k
theorem k_istore (C : Ctx l R n0 Z own bytes ml nm rt Q K O) {k : Nat} {v : Int32} {L' : Array Slot} (H : K pc L ((.int v) :: rest) h cl sl) (d : decode bytes pc = .ok (.istore k, 2)) (hl : storeLocals L k (.int v) = some L') (hp : pc + 2 = pc') : K pc' L' (rest) h cl sl := by
  subst hp
  exact C.pure H fun p e s m args below meth c T locs X hx hby _ _ _ t k => XS.istore X.here hx rfl (hb hby d) rfl hl k
theorem k_lstoreN (C : Ctx l R n0 Z own bytes ml nm rt Q K O) {k : Fin 4} {v : Int64} {L' : Array Slot} (H : K pc L ((.long v) :: rest) h cl sl) (d : decode bytes pc = .ok (.lstore_n k, 1)) (hl : storeLocals L k.val (.long v) = some L') (hp : pc + 1 = pc') : K pc' L' (rest) h cl sl := by
  subst hp
  exact C.pure H fun p e s m args below meth c T locs X hx hby _ _ _ t k => XS.lstoreN X.here hx rfl (hb hby d) rfl hl k
theorem k_lstore (C : Ctx l R n0 Z own bytes ml nm rt Q K O) {k : Nat} {v : Int64} {L' : Array Slot} (H : K pc L ((.long v) :: rest) h cl sl) (d : decode bytes pc = .ok (.lstore k, 2)) (hl : storeLocals L k (.long v) = some L') (hp : pc + 2 = pc') : K pc' L' (rest) h cl sl := by
  subst hp
  exact C.pure H fun p e s m args below meth c T locs X hx hby _ _ _ t k => XS.lstore X.here hx rfl (hb hby d) rfl hl k
theorem k_astoreN (C : Ctx l R n0 Z own bytes ml nm rt Q K O) {k : Fin 4} {v : Value} {L' : Array Slot} (H : K pc L (v :: rest) h cl sl) (d : decode bytes pc = .ok (.astore_n k, 1)) (hv : v.isRef = true) (hl : storeLocals L k.val v = some L') (hp : pc + 1 = pc') : K pc' L' (rest) h cl sl := by
  subst hp
  exact C.pure H fun p e s m args below meth c T locs X hx hby _ _ _ t k => XS.astoreN X.here hx rfl (hb hby d) rfl hv hl k
theorem k_astore (C : Ctx l R n0 Z own bytes ml nm rt Q K O) {k : Nat} {v : Value} {L' : Array Slot} (H : K pc L (v :: rest) h cl sl) (d : decode bytes pc = .ok (.astore k, 2)) (hv : v.isRef = true) (hl : storeLocals L k v = some L') (hp : pc + 2 = pc') : K pc' L' (rest) h cl sl := by
  subst hp
  exact C.pure H fun p e s m args below meth c T locs X hx hby _ _ _ t k => XS.astore X.here hx rfl (hb hby d) rfl hv hl k
theorem k_iconst (C : Ctx l R n0 Z own bytes ml nm rt Q K O) {i : Int} {v : Int32} (H : K pc L (S) h cl sl) (d : decode bytes pc = .ok (.iconst i, 1)) (hv : Int32.ofInt i = v) (hp : pc + 1 = pc') : K pc' L (.int v :: S) h cl sl := by
  subst hp
  exact C.pure H fun p e s m args below meth c T locs X hx hby _ _ _ t k => XS.iconst X.here hx rfl (hb hby d) (by rw [hv]; exact k)
theorem k_bipush (C : Ctx l R n0 Z own bytes ml nm rt Q K O) {i : Int} {v : Int32} (H : K pc L (S) h cl sl) (d : decode bytes pc = .ok (.bipush i, 2)) (hv : (Int8.ofInt i).toInt32 = v) (hp : pc + 2 = pc') : K pc' L (.int v :: S) h cl sl := by
  subst hp
  exact C.pure H fun p e s m args below meth c T locs X hx hby _ _ _ t k => XS.bipush X.here hx rfl (hb hby d) (by rw [hv]; exact k)
theorem k_sipush (C : Ctx l R n0 Z own bytes ml nm rt Q K O) {i : Int} {v : Int32} (H : K pc L (S) h cl sl) (d : decode bytes pc = .ok (.sipush i, 3)) (hv : (Int16.ofInt i).toInt32 = v) (hp : pc + 3 = pc') : K pc' L (.int v :: S) h cl sl := by
  subst hp
  exact C.pure H fun p e s m args below meth c T locs X hx hby _ _ _ t k => XS.sipush X.here hx rfl (hb hby d) (by rw [hv]; exact k)
theorem k_lconst (C : Ctx l R n0 Z own bytes ml nm rt Q K O) {i : Fin 2} {v : Int64} (H : K pc L (S) h cl sl) (d : decode bytes pc = .ok (.lconst i, 1)) (hv : Int64.ofNat i = v) (hp : pc + 1 = pc') : K pc' L (.long v :: S) h cl sl := by
  subst hp
  exact C.pure H fun p e s m args below meth c T locs X hx hby _ _ _ t k => XS.lconst X.here hx rfl (hb hby d) (by rw [hv]; exact k)
theorem k_anull (C : Ctx l R n0 Z own bytes ml nm rt Q K O)  (H : K pc L (S) h cl sl) (d : decode bytes pc = .ok (.aconst_null, 1))  (hp : pc + 1 = pc') : K pc' L (.null :: S) h cl sl := by
  subst hp
  exact C.pure H fun p e s m args below meth c T locs X hx hby _ _ _ t k => XS.aconstNull X.here hx rfl (hb hby d) k
theorem k_iadd (C : Ctx l R n0 Z own bytes ml nm rt Q K O) {x y : Int32} (H : K pc L (.int y :: .int x :: rest) h cl sl) (d : decode bytes pc = .ok (.iadd, 1))  (hp : pc + 1 = pc') : K pc' L (.int (x + y) :: rest) h cl sl := by
  subst hp
  exact C.pure H fun p e s m args below meth c T locs X hx hby _ _ _ t k => XS.iadd X.here hx rfl (hb hby d) rfl k
theorem k_isub (C : Ctx l R n0 Z own bytes ml nm rt Q K O) {x y : Int32} (H : K pc L (.int y :: .int x :: rest) h cl sl) (d : decode bytes pc = .ok (.isub, 1))  (hp : pc + 1 = pc') : K pc' L (.int (x - y) :: rest) h cl sl := by
  subst hp
  exact C.pure H fun p e s m args below meth c T locs X hx hby _ _ _ t k => XS.isub X.here hx rfl (hb hby d) rfl k
theorem k_imul (C : Ctx l R n0 Z own bytes ml nm rt Q K O) {x y : Int32} (H : K pc L (.int y :: .int x :: rest) h cl sl) (d : decode bytes pc = .ok (.imul, 1))  (hp : pc + 1 = pc') : K pc' L (.int (x * y) :: rest) h cl sl := by
  subst hp
  exact C.pure H fun p e s m args below meth c T locs X hx hby _ _ _ t k => XS.imul X.here hx rfl (hb hby d) rfl k
theorem k_iand (C : Ctx l R n0 Z own bytes ml nm rt Q K O) {x y : Int32} (H : K pc L (.int y :: .int x :: rest) h cl sl) (d : decode bytes pc = .ok (.iand, 1))  (hp : pc + 1 = pc') : K pc' L (.int (x &&& y) :: rest) h cl sl := by
  subst hp
  exact C.pure H fun p e s m args below meth c T locs X hx hby _ _ _ t k => XS.iand X.here hx rfl (hb hby d) rfl k
theorem k_ior (C : Ctx l R n0 Z own bytes ml nm rt Q K O) {x y : Int32} (H : K pc L (.int y :: .int x :: rest) h cl sl) (d : decode bytes pc = .ok (.ior, 1))  (hp : pc + 1 = pc') : K pc' L (.int (x ||| y) :: rest) h cl sl := by
  subst hp
  exact C.pure H fun p e s m args below meth c T locs X hx hby _ _ _ t k => XS.ior X.here hx rfl (hb hby d) rfl k
theorem k_ixor (C : Ctx l R n0 Z own bytes ml nm rt Q K O) {x y : Int32} (H : K pc L (.int y :: .int x :: rest) h cl sl) (d : decode bytes pc = .ok (.ixor, 1))  (hp : pc + 1 = pc') : K pc' L (.int (x ^^^ y) :: rest) h cl sl := by
  subst hp
  exact C.pure H fun p e s m args below meth c T locs X hx hby _ _ _ t k => XS.ixor X.here hx rfl (hb hby d) rfl k
theorem k_ishl (C : Ctx l R n0 Z own bytes ml nm rt Q K O) {x y : Int32} (H : K pc L (.int y :: .int x :: rest) h cl sl) (d : decode bytes pc = .ok (.ishl, 1))  (hp : pc + 1 = pc') : K pc' L (.int (x <<< (y &&& 31)) :: rest) h cl sl := by
  subst hp
  exact C.pure H fun p e s m args below meth c T locs X hx hby _ _ _ t k => XS.ishl X.here hx rfl (hb hby d) rfl k
theorem k_ishr (C : Ctx l R n0 Z own bytes ml nm rt Q K O) {x y : Int32} (H : K pc L (.int y :: .int x :: rest) h cl sl) (d : decode bytes pc = .ok (.ishr, 1))  (hp : pc + 1 = pc') : K pc' L (.int (x >>> (y &&& 31)) :: rest) h cl sl := by
  subst hp
  exact C.pure H fun p e s m args below meth c T locs X hx hby _ _ _ t k => XS.ishr X.here hx rfl (hb hby d) rfl k
theorem k_iushr (C : Ctx l R n0 Z own bytes ml nm rt Q K O) {x y : Int32} (H : K pc L (.int y :: .int x :: rest) h cl sl) (d : decode bytes pc = .ok (.iushr, 1))  (hp : pc + 1 = pc') : K pc' L (.int ((x.toUInt32 >>> (y &&& 31).toUInt32).toInt32) :: rest) h cl sl := by
  subst hp
  exact C.pure H fun p e s m args below meth c T locs X hx hby _ _ _ t k => XS.iushr X.here hx rfl (hb hby d) rfl k
theorem k_ladd (C : Ctx l R n0 Z own bytes ml nm rt Q K O) {x y : Int64} (H : K pc L (.long y :: .long x :: rest) h cl sl) (d : decode bytes pc = .ok (.ladd, 1))  (hp : pc + 1 = pc') : K pc' L (.long (x + y) :: rest) h cl sl := by
  subst hp
  exact C.pure H fun p e s m args below meth c T locs X hx hby _ _ _ t k => XS.ladd X.here hx rfl (hb hby d) rfl k
theorem k_lsub (C : Ctx l R n0 Z own bytes ml nm rt Q K O) {x y : Int64} (H : K pc L (.long y :: .long x :: rest) h cl sl) (d : decode bytes pc = .ok (.lsub, 1))  (hp : pc + 1 = pc') : K pc' L (.long (x - y) :: rest) h cl sl := by
  subst hp
  exact C.pure H fun p e s m args below meth c T locs X hx hby _ _ _ t k => XS.lsub X.here hx rfl (hb hby d) rfl k
theorem k_lmul (C : Ctx l R n0 Z own bytes ml nm rt Q K O) {x y : Int64} (H : K pc L (.long y :: .long x :: rest) h cl sl) (d : decode bytes pc = .ok (.lmul, 1))  (hp : pc + 1 = pc') : K pc' L (.long (x * y) :: rest) h cl sl := by
  subst hp
  exact C.pure H fun p e s m args below meth c T locs X hx hby _ _ _ t k => XS.lmul X.here hx rfl (hb hby d) rfl k
theorem k_land (C : Ctx l R n0 Z own bytes ml nm rt Q K O) {x y : Int64} (H : K pc L (.long y :: .long x :: rest) h cl sl) (d : decode bytes pc = .ok (.land, 1))  (hp : pc + 1 = pc') : K pc' L (.long (x &&& y) :: rest) h cl sl := by
  subst hp
  exact C.pure H fun p e s m args below meth c T locs X hx hby _ _ _ t k => XS.land X.here hx rfl (hb hby d) rfl k
theorem k_lor (C : Ctx l R n0 Z own bytes ml nm rt Q K O) {x y : Int64} (H : K pc L (.long y :: .long x :: rest) h cl sl) (d : decode bytes pc = .ok (.lor, 1))  (hp : pc + 1 = pc') : K pc' L (.long (x ||| y) :: rest) h cl sl := by
  subst hp
  exact C.pure H fun p e s m args below meth c T locs X hx hby _ _ _ t k => XS.lor X.here hx rfl (hb hby d) rfl k
theorem k_lxor (C : Ctx l R n0 Z own bytes ml nm rt Q K O) {x y : Int64} (H : K pc L (.long y :: .long x :: rest) h cl sl) (d : decode bytes pc = .ok (.lxor, 1))  (hp : pc + 1 = pc') : K pc' L (.long (x ^^^ y) :: rest) h cl sl := by
  subst hp
  exact C.pure H fun p e s m args below meth c T locs X hx hby _ _ _ t k => XS.lxor X.here hx rfl (hb hby d) rfl k
theorem k_lshl (C : Ctx l R n0 Z own bytes ml nm rt Q K O) {x : Int64} {y : Int32} (H : K pc L (.int y :: .long x :: rest) h cl sl) (d : decode bytes pc = .ok (.lshl, 1))  (hp : pc + 1 = pc') : K pc' L (.long (x <<< (y &&& 0x3f).toInt64) :: rest) h cl sl := by
  subst hp
  exact C.pure H fun p e s m args below meth c T locs X hx hby _ _ _ t k => XS.lshl X.here hx rfl (hb hby d) rfl k
theorem k_lshr (C : Ctx l R n0 Z own bytes ml nm rt Q K O) {x : Int64} {y : Int32} (H : K pc L (.int y :: .long x :: rest) h cl sl) (d : decode bytes pc = .ok (.lshr, 1))  (hp : pc + 1 = pc') : K pc' L (.long (x >>> (y &&& 0x3f).toInt64) :: rest) h cl sl := by
  subst hp
  exact C.pure H fun p e s m args below meth c T locs X hx hby _ _ _ t k => XS.lshr X.here hx rfl (hb hby d) rfl k
theorem k_lushr (C : Ctx l R n0 Z own bytes ml nm rt Q K O) {x : Int64} {y : Int32} (H : K pc L (.int y :: .long x :: rest) h cl sl) (d : decode bytes pc = .ok (.lushr, 1))  (hp : pc + 1 = pc') : K pc' L (.long ((x.toUInt64 >>> (y &&& 0x3f).toInt64.toUInt64).toInt64) :: rest) h cl sl := by
  subst hp
  exact C.pure H fun p e s m args below meth c T locs X hx hby _ _ _ t k => XS.lushr X.here hx rfl (hb hby d) rfl k
theorem k_lcmp (C : Ctx l R n0 Z own bytes ml nm rt Q K O) {x y : Int64} (H : K pc L (.long y :: .long x :: rest) h cl sl) (d : decode bytes pc = .ok (.lcmp, 1))  (hp : pc + 1 = pc') : K pc' L (.int (lcmpW x y) :: rest) h cl sl := by
  subst hp
  exact C.pure H fun p e s m args below meth c T locs X hx hby _ _ _ t k => XS.lcmp X.here hx rfl (hb hby d) rfl k
theorem k_ineg (C : Ctx l R n0 Z own bytes ml nm rt Q K O) {x : Int32} (H : K pc L (.int x :: rest) h cl sl) (d : decode bytes pc = .ok (.ineg, 1))  (hp : pc + 1 = pc') : K pc' L (.int (-x) :: rest) h cl sl := by
  subst hp
  exact C.pure H fun p e s m args below meth c T locs X hx hby _ _ _ t k => XS.ineg X.here hx rfl (hb hby d) rfl k
theorem k_idiv (C : Ctx l R n0 Z own bytes ml nm rt Q K O) {x y : Int32} (H : K pc L (.int y :: .int x :: rest) h cl sl) (d : decode bytes pc = .ok (.idiv, 1)) (hy : y ≠ 0) (hp : pc + 1 = pc') : K pc' L (.int (x / y) :: rest) h cl sl := by
  subst hp
  exact C.pure H fun p e s m args below meth c T locs X hx hby _ _ _ t k => XS.idiv X.here hx rfl (hb hby d) rfl hy k
theorem k_irem (C : Ctx l R n0 Z own bytes ml nm rt Q K O) {x y : Int32} (H : K pc L (.int y :: .int x :: rest) h cl sl) (d : decode bytes pc = .ok (.irem, 1)) (hy : y ≠ 0) (hp : pc + 1 = pc') : K pc' L (.int (x % y) :: rest) h cl sl := by
  subst hp
  exact C.pure H fun p e s m args below meth c T locs X hx hby _ _ _ t k => iremM X hx rfl (hb hby d) rfl hy k
theorem k_ldiv (C : Ctx l R n0 Z own bytes ml nm rt Q K O) {x y : Int64} (H : K pc L (.long y :: .long x :: rest) h cl sl) (d : decode bytes pc = .ok (.ldiv, 1)) (hy : y ≠ 0) (hp : pc + 1 = pc') : K pc' L (.long (x / y) :: rest) h cl sl := by
  subst hp
  exact C.pure H fun p e s m args below meth c T locs X hx hby _ _ _ t k => XS.ldiv X.here hx rfl (hb hby d) rfl hy k
theorem k_i2l (C : Ctx l R n0 Z own bytes ml nm rt Q K O) {x : Int32} (H : K pc L (.int x :: rest) h cl sl) (d : decode bytes pc = .ok (.i2l, 1))  (hp : pc + 1 = pc') : K pc' L (.long (x.toInt64) :: rest) h cl sl := by
  subst hp
  exact C.pure H fun p e s m args below meth c T locs X hx hby _ _ _ t k => XS.i2l X.here hx rfl (hb hby d) rfl k
theorem k_l2i (C : Ctx l R n0 Z own bytes ml nm rt Q K O) {x : Int64} (H : K pc L (.long x :: rest) h cl sl) (d : decode bytes pc = .ok (.l2i, 1))  (hp : pc + 1 = pc') : K pc' L (.int (x.toInt32) :: rest) h cl sl := by
  subst hp
  exact C.pure H fun p e s m args below meth c T locs X hx hby _ _ _ t k => XS.l2i X.here hx rfl (hb hby d) rfl k
theorem k_i2b (C : Ctx l R n0 Z own bytes ml nm rt Q K O) {x : Int32} (H : K pc L (.int x :: rest) h cl sl) (d : decode bytes pc = .ok (.i2b, 1))  (hp : pc + 1 = pc') : K pc' L (.int (x.toInt8.toInt32) :: rest) h cl sl := by
  subst hp
  exact C.pure H fun p e s m args below meth c T locs X hx hby _ _ _ t k => XS.i2b X.here hx rfl (hb hby d) rfl k
theorem k_i2c (C : Ctx l R n0 Z own bytes ml nm rt Q K O) {x : Int32} (H : K pc L (.int x :: rest) h cl sl) (d : decode bytes pc = .ok (.i2c, 1))  (hp : pc + 1 = pc') : K pc' L (.int (x.toUInt32.toUInt16.toUInt32.toInt32) :: rest) h cl sl := by
  subst hp
  exact C.pure H fun p e s m args below meth c T locs X hx hby _ _ _ t k => XS.i2c X.here hx rfl (hb hby d) rfl k
theorem k_i2s (C : Ctx l R n0 Z own bytes ml nm rt Q K O) {x : Int32} (H : K pc L (.int x :: rest) h cl sl) (d : decode bytes pc = .ok (.i2s, 1))  (hp : pc + 1 = pc') : K pc' L (.int (x.toInt16.toInt32) :: rest) h cl sl := by
  subst hp
  exact C.pure H fun p e s m args below meth c T locs X hx hby _ _ _ t k => XS.i2s X.here hx rfl (hb hby d) rfl k
theorem k_dup (C : Ctx l R n0 Z own bytes ml nm rt Q K O) {x : Value} (H : K pc L (x :: rest) h cl sl) (d : decode bytes pc = .ok (.dup, 1)) (hc : x.category = 1) (hp : pc + 1 = pc') : K pc' L (x :: x :: rest) h cl sl := by
  subst hp
  exact C.pure H fun p e s m args below meth c T locs X hx hby _ _ _ t k => XS.dup X.here hx rfl (hb hby d) rfl hc k
theorem k_pop (C : Ctx l R n0 Z own bytes ml nm rt Q K O) {x : Value} (H : K pc L (x :: rest) h cl sl) (d : decode bytes pc = .ok (.pop, 1)) (hc : x.category = 1) (hp : pc + 1 = pc') : K pc' L (rest) h cl sl := by
  subst hp
  exact C.pure H fun p e s m args below meth c T locs X hx hby _ _ _ t k => XS.pop X.here hx rfl (hb hby d) rfl hc k
theorem k_dupX1 (C : Ctx l R n0 Z own bytes ml nm rt Q K O) {x y : Value} (H : K pc L (x :: y :: rest) h cl sl) (d : decode bytes pc = .ok (.dup_x1, 1)) (hc : x.category = 1) (hc' : y.category = 1) (hp : pc + 1 = pc') : K pc' L (x :: y :: x :: rest) h cl sl := by
  subst hp
  exact C.pure H fun p e s m args below meth c T locs X hx hby _ _ _ t k => XS.dupX1 X.here hx rfl (hb hby d) rfl hc hc' k
theorem k_dup2 (C : Ctx l R n0 Z own bytes ml nm rt Q K O) {x y : Value} (H : K pc L (x :: y :: rest) h cl sl) (d : decode bytes pc = .ok (.dup2, 1)) (hc : x.category = 1) (hc' : y.category = 1) (hp : pc + 1 = pc') : K pc' L (x :: y :: x :: y :: rest) h cl sl := by
  subst hp
  exact C.pure H fun p e s m args below meth c T locs X hx hby _ _ _ t k => Jvm.Free.XT.dup2 X.here hx rfl (hb hby d) rfl hc hc' k
theorem k_iinc (C : Ctx l R n0 Z own bytes ml nm rt Q K O) {k : Nat} {i : Int} {x y : Int32} {L' : Array Slot} (H : K pc L (S) h cl sl) (d : decode bytes pc = .ok (.iinc k i, 3)) (hl : L[k]? = some (.val (.int x))) (hv : x + Int32.ofInt i = y) (hl' : storeLocals L k (.int y) = some L') (hp : pc + 3 = pc') : K pc' L' (S) h cl sl := by
  subst hp
  exact C.pure H fun p e s m args below meth c T locs X hx hby _ _ _ t k => XS.iinc X.here hx rfl (hb hby d) hl (by rw [hv]; exact hl') k
theorem k_ifcY (C : Ctx l R n0 Z own bytes ml nm rt Q K O) {cd : ClassFile.Cond} {o : Int} {x : Int32} (H : K pc L (.int x :: rest) h cl sl) (d : decode bytes pc = .ok (.ifCond cd o, 3)) (hc : if_icmp.holds cd x 0 = true) (ho : 0 ≤ (pc : Int) + o) (hp : ((pc : Int) + o).toNat = pc') : K pc' L rest h cl sl :=
  C.pure H fun p e s m args below meth c T locs X hx hby _ _ _ t k => XS.ifYes X.here hx rfl (pc0 := pc) rfl (hb hby d) rfl ((if0 _ _).trans hc) ho hp k
theorem k_ifcN (C : Ctx l R n0 Z own bytes ml nm rt Q K O) {cd : ClassFile.Cond} {o : Int} {x : Int32} (H : K pc L (.int x :: rest) h cl sl) (d : decode bytes pc = .ok (.ifCond cd o, 3)) (hc : if_icmp.holds cd x 0 = false) (hp : pc + 3 = pc') : K pc' L rest h cl sl := by
  subst hp
  exact C.pure H fun p e s m args below meth c T locs X hx hby _ _ _ t k => XS.ifNo X.here hx rfl (hb hby d) rfl ((if0 _ _).trans hc) k
theorem k_icmpY (C : Ctx l R n0 Z own bytes ml nm rt Q K O) {cd : ClassFile.Cond} {o : Int} {x y : Int32} (H : K pc L (.int y :: .int x :: rest) h cl sl) (d : decode bytes pc = .ok (.if_icmp cd o, 3)) (hc : if_icmp.holds cd x y = true) (ho : 0 ≤ (pc : Int) + o) (hp : ((pc : Int) + o).toNat = pc') : K pc' L rest h cl sl :=
  C.pure H fun p e s m args below meth c T locs X hx hby _ _ _ t k => XS.icmpYes X.here hx rfl (pc0 := pc) rfl (hb hby d) rfl hc ho hp k
theorem k_icmpN (C : Ctx l R n0 Z own bytes ml nm rt Q K O) {cd : ClassFile.Cond} {o : Int} {x y : Int32} (H : K pc L (.int y :: .int x :: rest) h cl sl) (d : decode bytes pc = .ok (.if_icmp cd o, 3)) (hc : if_icmp.holds cd x y = false) (hp : pc + 3 = pc') : K pc' L rest h cl sl := by
  subst hp
  exact C.pure H fun p e s m args below meth c T locs X hx hby _ _ _ t k => XS.icmpNo X.here hx rfl (hb hby d) rfl hc k
theorem k_goto (C : Ctx l R n0 Z own bytes ml nm rt Q K O) (H : K pc L S h cl sl) {o : Int} (d : decode bytes pc = .ok (.goto o, 3)) (ho : 0 ≤ (pc : Int) + o) (hp : ((pc : Int) + o).toNat = pc') : K pc' L S h cl sl :=
  C.pure H fun p e s m args below meth c T locs X hx hby _ _ _ t k => XS.goto X.here hx rfl (pc0 := pc) rfl (hb hby d) ho hp k
theorem k_ifnullY (C : Ctx l R n0 Z own bytes ml nm rt Q K O) (H : K pc L (.null :: rest) h cl sl) {o : Int} (d : decode bytes pc = .ok (.ifnull o, 3)) (ho : 0 ≤ (pc : Int) + o) (hp : ((pc : Int) + o).toNat = pc') : K pc' L rest h cl sl :=
  C.pure H fun p e s m args below meth c T locs X hx hby _ _ _ t k => XS.ifnullYes X.here hx rfl (pc0 := pc) rfl (hb hby d) rfl ho hp k
theorem k_ifnullN (C : Ctx l R n0 Z own bytes ml nm rt Q K O) {b : Addr} (H : K pc L (.ref b :: rest) h cl sl) {o : Int} (d : decode bytes pc = .ok (.ifnull o, 3)) (hp : pc + 3 = pc') : K pc' L rest h cl sl := by
  subst hp
  exact C.pure H fun p e s m args below meth c T locs X hx hby _ _ _ t k => XS.ifnullNo X.here hx rfl (hb hby d) rfl k
theorem k_ifnonnullY (C : Ctx l R n0 Z own bytes ml nm rt Q K O) {b : Addr} (H : K pc L (.ref b :: rest) h cl sl) {o : Int} (d : decode bytes pc = .ok (.ifnonnull o, 3)) (ho : 0 ≤ (pc : Int) + o) (hp : ((pc : Int) + o).toNat = pc') : K pc' L rest h cl sl :=
  C.pure H fun p e s m args below meth c T locs X hx hby _ _ _ t k => XS.ifnonnullYes X.here hx rfl (pc0 := pc) rfl (hb hby d) rfl ho hp k
theorem k_ifnonnullN (C : Ctx l R n0 Z own bytes ml nm rt Q K O) (H : K pc L (.null :: rest) h cl sl) {o : Int} (d : decode bytes pc = .ok (.ifnonnull o, 3)) (hp : pc + 3 = pc') : K pc' L rest h cl sl := by
  subst hp
  exact C.pure H fun p e s m args below meth c T locs X hx hby _ _ _ t k => XS.ifnonnullNo X.here hx rfl (hb hby d) rfl k
theorem k_acmp (C : Ctx l R n0 Z own bytes ml nm rt Q K O) {x y : Value} (H : K pc L (y :: x :: rest) h cl sl) {cd : ACond} {o : Int} (d : decode bytes pc = .ok (.if_acmp cd o, 3)) (h1 : x.isRef = true) (h2 : y.isRef = true) {same : Bool} (hq : decide (x = y) = same) (ho : 0 ≤ (pc : Int) + o) (hp : pc' = if acV cd same = true then ((pc : Int) + o).toNat else pc + 3) : K pc' L rest h cl sl :=
  C.pure H fun p e s m args below meth c T locs X hx hby _ _ _ t k => Jvm.RoadKit.acmp X hx rfl h1 h2 (pc0 := pc) rfl (hb hby d) rfl hq ho hp k
theorem k_dupX2 (C : Ctx l R n0 Z own bytes ml nm rt Q K O) {x y z : Value} (H : K pc L (x :: y :: z :: rest) h cl sl) (d : decode bytes pc = .ok (.dup_x2, 1)) (h1 : x.category = 1) (h2 : y.category = 1) (h3 : z.category = 1) (hp : pc + 1 = pc') : K pc' L (x :: y :: z :: x :: rest) h cl sl := by
  subst hp
  refine C.pure H fun p e s m args below meth c T locs X hx hby _ _ _ t k => ?_
  jvm_step X.here [X.here.top, hx, hb hby d, h1, h2, h3]
  exact k
theorem k_ldcI (C : Ctx l R n0 Z own bytes ml nm rt Q K O) (H : K pc L S h cl sl) {i : Nat} {v : Int32} (w : (Cond.constant own i v).before a0 Z = true) (d : decode bytes pc = .ok (.ldc i, 2)) (hp : pc + 2 = pc') : K pc' L (.int v :: S) h cl sl := by
  subst hp
  exact C.pure H fun p e s m args below meth c T locs X hx hby hZ hown _ t k => X.ldcInt hx hown (mvT hZ w) (g := mkF m pc L S) rfl (hb hby d) t k
theorem k_ldcL (C : Ctx l R n0 Z own bytes ml nm rt Q K O) (H : K pc L S h cl sl) {i : Nat} {v : Int64} (w : (Cond.constantLong own i v).before a0 Z = true) (d : decode bytes pc = .ok (.ldc2_w i, 3)) (hp : pc + 3 = pc') : K pc' L (.long v :: S) h cl sl := by
  subst hp
  exact C.pure H fun p e s m args below meth c T locs X hx hby hZ hown _ t k => X.ldc2Long hx hown (mvT hZ w) (g := mkF m pc L S) rfl (hb hby d) t k
theorem k_getFld (C : Ctx l R n0 Z own bytes ml nm rt Q K O) {a : Addr} (H : K pc L (.ref a :: rest) h cl sl) {i : Nat} {O' n d' : String} {v : Value} (w : (Cond.fieldLink own i O' n d').before a0 Z = true) (F : Fld Z h a O' n d' v) (d : decode bytes pc = .ok (.getfield i, 3)) (hp : pc + 3 = pc') : K pc' L (v :: rest) h cl sl := by
  subst hp
  exact C.note H fun p e s m args below meth c T locs X hx hby hZ hown _ eT => getF X hx hZ hown (host := "") (Or.inl w) Via.refl eT F (g := mkF m pc L (.ref a :: rest)) rfl rfl (hb hby d)
theorem k_getFldN (C : Ctx l R n0 Z own bytes ml nm rt Q K O) {a : Addr} (H : K pc L (.ref a :: rest) h cl sl) {i : Nat} {O' n d' host : String} {v : Value} (w : (Cond.fieldLinkNest own i O' n d' host).before a0 Z = true) (F : Fld Z h a O' n d' v) (d : decode bytes pc = .ok (.getfield i, 3)) (hp : pc + 3 = pc') : K pc' L (v :: rest) h cl sl := by
  subst hp
  exact C.note H fun p e s m args below meth c T locs X hx hby hZ hown _ eT => getF X hx hZ hown (Or.inr w) Via.refl eT F (g := mkF m pc L (.ref a :: rest)) rfl rfl (hb hby d)
theorem k_getSta (C : Ctx l R n0 Z own bytes ml nm rt Q K O) (H : K pc L S h cl sl) {i : Nat} {O' n d' : String} {v : Value} (w : (Cond.fieldLink own i O' n d').before a0 Z = true) (F : Sta Z h O' n d' v) (d : decode bytes pc = .ok (.getstatic i, 3)) (hp : pc + 3 = pc') : K pc' L (v :: S) h cl sl := by
  subst hp
  exact C.note H fun p e s m args below meth c T locs X hx hby hZ hown _ eT => getS2 X hx hZ hown (host := "") (Or.inl w) Via.refl eT F (g := mkF m pc L S) rfl (hb hby d)
theorem k_initObj (C : Ctx l R n0 Z own bytes ml nm rt Q K O) {a : Addr} (H : K pc L (.ref a :: rest) h cl sl) {i : Nat} (w1 : (Cond.methodLink own i Lib.objectInit).before a0 Z = true) (w2 : (Cond.instanceMethod Lib.objectInit).before a0 Z = true) (w3 : (Cond.code Lib.objectInit ⟨#[0xb1]⟩ 1 none).before a0 Z = true) (d : decode bytes pc = .ok (.invokespecial i, 3)) (hsz : L.size = ml)
    (hf : 1 ≤ R.frames) (W : Nat) (hW : (rest.map fun v => v.category).sum = W) (hl : W + 12 ≤ R.locals) (hp : pc + 3 = pc') : K pc' L rest h cl sl := by
  subst hp
  exact C.note H fun p e s m args below meth c T locs X hx hby hZ hown hml eT => initO X hx hZ hown w1 w2 w3 eT (g := mkF m pc L (.ref a :: rest)) rfl (hsz.trans hml.symm) rfl (hb hby d) hf (W := W) (by show 2 * 0 + _ ≤ _; omega) hl
theorem k_castYes (C : Ctx l R n0 Z own bytes ml nm rt Q K O) {a : Addr} (H : K pc L (.ref a :: rest) h cl sl) {i : Nat} {C' : String} (w : (Cond.classLink own i C').before a0 Z = true) (F : Ins Z h a C' true) (d : decode bytes pc = .ok (.checkcast i, 3)) (hp : pc + 3 = pc') : K pc' L (.ref a :: rest) h cl sl := by
  subst hp
  exact C.note H fun p e s m args below meth c T locs X hx hby hZ hown _ eT => castY X hx hZ hown w eT F (g := mkF m pc L (.ref a :: rest)) rfl rfl (hb hby d)
theorem k_castNull (C : Ctx l R n0 Z own bytes ml nm rt Q K O) (H : K pc L (.null :: rest) h cl sl) {i : Nat} (d : decode bytes pc = .ok (.checkcast i, 3)) (hp : pc + 3 = pc') : K pc' L (.null :: rest) h cl sl := by
  subst hp
  exact C.pure H fun p e s m args below meth c T locs X hx hby hZ hown _ t k => X.checkcastNull hx (g := mkF m pc L (.null :: rest)) rfl rfl (hb hby d) t k
theorem k_instYes (C : Ctx l R n0 Z own bytes ml nm rt Q K O) {a : Addr} (H : K pc L (.ref a :: rest) h cl sl) {i : Nat} {C' : String} (w : (Cond.classLink own i C').before a0 Z = true) (F : Ins Z h a C' true) (d : decode bytes pc = .ok (.instanceof i, 3)) (hp : pc + 3 = pc') : K pc' L (.int 1 :: rest) h cl sl := by
  subst hp
  exact C.note H fun p e s m args below meth c T locs X hx hby hZ hown _ eT => instY X hx hZ hown w eT F (g := mkF m pc L (.ref a :: rest)) rfl rfl (hb hby d)
theorem k_instNull (C : Ctx l R n0 Z own bytes ml nm rt Q K O) (H : K pc L (.null :: rest) h cl sl) {i : Nat} (d : decode bytes pc = .ok (.instanceof i, 3)) (hp : pc + 3 = pc') : K pc' L (.int 0 :: rest) h cl sl := by
  subst hp
  exact C.pure H fun p e s m args below meth c T locs X hx hby hZ hown _ t k => X.instanceofNull hx (g := mkF m pc L (.null :: rest)) rfl rfl (hb hby d) t k
theorem k_instNot (C : Ctx l R n0 Z own bytes ml nm rt Q K O) {a : Addr} (H : K pc L (.ref a :: rest) h cl sl) {i : Nat} {C' D' : String} (w : (Cond.classLink own i C').before a0 Z = true) (E : Exa Z h a D') (F : ∃ c t, Z.vm.findClass D' = some c ∧ Z.vm.findClass C' = some t ∧ Z.vm.assignable c t = false) (d : decode bytes pc = .ok (.instanceof i, 3)) (hp : pc + 3 = pc') : K pc' L (.int 0 :: rest) h cl sl := by
  subst hp
  exact C.note H fun p e s m args below meth c T locs X hx hby hZ hown _ eT => instNo X hx hZ hown w eT E F (g := mkF m pc L (.ref a :: rest)) rfl rfl (hb hby d)
/-! what writes or makes -/
theorem k_putFld (C : Ctx l R n0 Z own bytes ml nm rt Q K O) {a : Addr} {v : Value} (H : K pc L (v :: .ref a :: rest) h cl sl) {i kk : Nat} {O' n d' C' : String} {ty : FieldType} {old : Value} (w : (Cond.fieldLink own i O' n d').before a0 Z = true) (F : Fld Z h a O' n d' old) (E : Exa Z h a C')
    (Lw : (Cond.lays C' O' n d').before a0 Z = true ∨ ((Cond.laysFinal C' O' n d').before a0 Z = true ∧ own = O' ∧ nm = "<init>")) (wi : (Cond.instantiable C' kk).before a0 Z = true) (hty : parseFieldDescriptor d' = some ty) {v' : Value} (hn : narrow ty v = v') (hf : fits ty v' = true) (g : n0 ≤ a) (d : decode bytes pc = .ok (.putfield i, 3)) (hp : pc + 3 = pc') :
    ∃ h', Wr h h' a (Jvm.RoadKit.slotOf Z O' n d') v' ∧ K pc' L rest h' cl sl := by
  subst hp
  obtain ⟨p, e, s, m, args, below, meth, c, s1, f0, hx, hby, hZ, hown, hml, hnm, hrt, hlk, hK, hO⟩ := C
  obtain ⟨T, locs, X, eT, N, st⟩ := (hK _ _ _ _ _ _).mp H
  obtain ⟨T', h', X', e', W', st'⟩ := putFN X hx hZ hown w Via.refl eT F E (Lw.imp id fun q => ⟨q.1, q.2.1, hnm.trans q.2.2⟩) wi hty hn hf (g := mkF m pc L (v :: .ref a :: rest)) rfl rfl (hb hby d)
  exact ⟨h', W', (hK _ _ _ _ _ _).mpr ⟨T', _, X', e', Fr.snoc X' N g, fun t k => st t (st' t k)⟩⟩
theorem k_newObj (C : Ctx l R n0 Z own bytes ml nm rt Q K O) (H : K pc L S h cl sl) {i n : Nat} {C' : String} (w : (Cond.classLink own i C').before a0 Z = true) (wi : (Cond.instantiable C' n).before a0 Z = true) (wz : (Cond.initialized C').before a0 Z = true) (d : decode bytes pc = .ok (.new i, 3)) (hc : cl + 1 ≤ R.cells) (hl : sl + n ≤ R.slots) (hp : pc + 3 = pc') :
    ∃ h' b, b = h.size ∧ Ext h h' ∧ Exa Z h' b C' ∧ (∀ {O' nm' d' : String} {ty : FieldType}, Laid Z a0 C' O' nm' d' → parseFieldDescriptor d' = some ty → Fld Z h' b O' nm' d' (defaultValue ty)) ∧ K pc' L (.ref b :: S) h' (cl + 1) (sl + n) := by
  subst hp
  obtain ⟨p, e, s, m, args, below, meth, c, s1, f0, hx, hby, hZ, hown, hml, hnm, hrt, hlk, hK, hO⟩ := C
  obtain ⟨T, locs, X, eT, N, st⟩ := (hK _ _ _ _ _ _).mp H
  obtain ⟨T', h', X', e', E', A', D', -, st'⟩ := newO X hx hZ hown w wi wz eT (g := mkF m pc L S) rfl (hb hby d) hc hl
  exact ⟨h', _, rfl, E', A', D', (hK _ _ _ _ _ _).mpr ⟨T', _, X', e', N, fun t k => st t (st' t k)⟩⟩
theorem k_newArr (C : Ctx l R n0 Z own bytes ml nm rt Q K O) {n : Int32} (H : K pc L (.int n :: rest) h cl sl) {aty : ArrayType} (w : (Cond.arrayClass (newarray.typeOf aty)).before a0 Z = true) (d : decode bytes pc = .ok (.newarray aty, 2)) (hn : ¬ n < 0) {cap : Nat} (hcap : n.toNatClampNeg ≤ cap) (hb' : cap * 8 ≤ 536870912) (hc : cl + 1 ≤ R.cells) (hl : sl + cap ≤ R.slots) (hp : pc + 2 = pc') :
    ∃ h' b cA, b = h.size ∧ Ext h h' ∧ Arr Z h' b (newA cA (newarray.typeOf aty) n) (newarray.typeOf aty) ∧ K pc' L (.ref b :: rest) h' (cl + 1) (sl + cap) := by
  subst hp
  obtain ⟨p, e, s, m, args, below, meth, c, s1, f0, hx, hby, hZ, hown, hml, hnm, hrt, hlk, hK, hO⟩ := C
  obtain ⟨T, locs, X, eT, N, st⟩ := (hK _ _ _ _ _ _).mp H
  obtain ⟨T', h', cA, X', e', E', A', st'⟩ := newP X hx hZ w eT (g := mkF m pc L (.int n :: rest)) rfl (hb hby d) rfl hn hcap hb' hc hl
  exact ⟨h', _, cA, rfl, E', A', (hK _ _ _ _ _ _).mpr ⟨T', _, X', e', N, fun t k => st t (st' t k)⟩⟩
/-! the returns -/
theorem k_out_of (C : Ctx l R n0 Z own bytes ml nm rt Q K O) (H : K pc L S h cl sl) {v : Option Value} (hv : rt = none → v = none) (hq : Q v h) (hc : cl ≤ R.cells) (hl : sl ≤ R.slots)
    (f : ∀ (p : Program) (e : Env) (s : State) (m : MethodId) (args : Array Value) (below : List Frame) (meth : Method) (c : Code) (T : State) (locs : List Loc) (fs : List Frame), Stand p l e R s m args below meth c T locs cl sl → p.tables.exec = Jvm.exec → c.code = bytes → meth.sig.returnType = rt →
      (∀ (f : JFrame) (acts : List Action), f.method = m → f.locked = none → f.entered = [] → (doReturn e (T.setTop f) acts v).1 = T.setFrames fs) → Steps p.tables e below (T.setTop (mkF m pc L S)) (T.setFrames fs)) : O := by
  obtain ⟨p, e, s, m, args, below, meth, c, s1, f0, hx, hby, hZ, hown, hml, hnm, hrt, hlk, hK, hO⟩ := C
  obtain ⟨T, locs, X, eT, N, st⟩ := (hK _ _ _ _ _ _).mp H
  obtain ⟨fs, hr, hrun, hended, hW, hsame⟩ := X.leave (v := v) (fun q => hv (hrt.symm.trans q)) hlk
  refine hO ⟨_, _, st _ (f p e s m args below meth c T locs fs X hx hby hrt hr), hrun, hended, v, locs, rfl, ⟨?_, N⟩, ⟨_, rfl⟩, hW, hsame.mono hc hl⟩
  show Q v T.heap
  rw [eT]; exact hq
theorem k_retV (C : Ctx l R n0 Z own bytes ml nm none Q K O) (H : K pc L [] h cl sl) (d : decode bytes pc = .ok (.return_, 1)) (hc : cl ≤ R.cells) (hl : sl ≤ R.slots) (hq : Q none h) : O :=
  k_out_of C H (fun _ => rfl) hq hc hl fun p e s m args below meth c T locs fs X hx hby hrt hr => X.returnOut hx hrt (hb hby d) hr
theorem k_retI (C : Ctx l R n0 Z own bytes ml nm (some .int) Q K O) {z : Int32} (H : K pc L (.int z :: rest) h cl sl) (d : decode bytes pc = .ok (.ireturn, 1)) (hc : cl ≤ R.cells) (hl : sl ≤ R.slots) (hq : Q (some (.int z)) h) : O :=
  k_out_of C H (fun q => nomatch q) hq hc hl fun p e s m args below meth c T locs fs X hx hby hrt hr => retOut X hx hrt (i := .ireturn) rfl (Or.inl ⟨rfl, Or.inl rfl, _, rfl⟩) (hb hby d) hr
theorem k_retJ (C : Ctx l R n0 Z own bytes ml nm (some .long) Q K O) {z : Int64} (H : K pc L (.long z :: rest) h cl sl) (d : decode bytes pc = .ok (.lreturn, 1)) (hc : cl ≤ R.cells) (hl : sl ≤ R.slots) (hq : Q (some (.long z)) h) : O :=
  k_out_of C H (fun q => nomatch q) hq hc hl fun p e s m args below meth c T locs fs X hx hby hrt hr => retOut X hx hrt (i := .lreturn) rfl (Or.inr (Or.inl ⟨rfl, rfl, _, rfl⟩)) (hb hby d) hr
theorem k_retA {t : FieldType} (C : Ctx l R n0 Z own bytes ml nm (some t) Q K O) {v : Value} (H : K pc L (v :: rest) h cl sl) (d : decode bytes pc = .ok (.areturn, 1)) (ht : t.isReference = true) (hv : v.isRef = true) (hc : cl ≤ R.cells) (hl : sl ≤ R.slots) (hq : Q (some v) h) : O :=
  k_out_of C H (fun q => nomatch q) hq hc hl fun p e s m args below meth c T locs fs X hx hby hrt hr => retOut X hx hrt (i := .areturn) (by rcases ref_cases hv with rfl | ⟨a, rfl⟩ <;> cases t <;> first | rfl | cases ht) (Or.inr (Or.inr (Or.inr (Or.inr ⟨rfl, ht, hv⟩)))) (hb hby d) hr
theorem k_retN {t : FieldType} (C : Ctx l R n0 Z own bytes ml nm (some t) Q K O) {z : Int32} (H : K pc L (.int z :: rest) h cl sl) (d : decode bytes pc = .ok (.ireturn, 1)) (ht : t = .boolean ∨ t = .byte ∨ t = .char ∨ t = .short) (hc : cl ≤ R.cells) (hl : sl ≤ R.slots) (hq : Q (some (.int (nar t z))) h) : O :=
  k_out_of C H (fun q => nomatch q) hq hc hl fun p e s m args below meth c T locs fs X hx hby hrt hr => Jvm.RoadKit.retN X hx hrt ht (hb hby d) hr
theorem k_retZ (C : Ctx l R n0 Z own bytes ml nm (some .boolean) Q K O) {z : Int32} (H : K pc L (.int z :: rest) h cl sl) (d : decode bytes pc = .ok (.ireturn, 1)) (hz : z &&& 1 = z) (hc : cl ≤ R.cells) (hl : sl ≤ R.slots) (hq : Q (some (.int z)) h) : O :=
  k_retN C H d (Or.inl rfl) hc hl (by show Q (some (.int (z &&& 1))) h; rw [hz]; exact hq)
/-! the calls -/
theorem k_callSta (C : Ctx l R n0 Z own bytes ml nm rt Q K O) (H : K pc L S h cl sl) {i : Nat} {y : MethodName} {bytes' : ByteArray} {ml' : Nat} {rt' : Option FieldType} {rm : Room} {as : Array Value} {Q' : Qt} (k : Con l y bytes' ml' rt' rm Z as h n0 Q')
    (w1 : (Cond.methodLink own i y).before a0 Z = true) (w2 : (Cond.static y).before a0 Z = true) (w3 : (Cond.initialized y.cls).before a0 Z = true) (w4 : (Cond.code y bytes' ml' rt').before a0 Z = true) (hy : y.cls ≠ "java/lang/invoke/MethodHandle" ∧ y.cls ≠ "java/lang/invoke/VarHandle")
    (d : decode bytes pc = .ok (.invokestatic i, 3)) (hsz : L.size = ml) (argsL rest : List Value) {ps : List FieldType} (hd : parseMethodDescriptor y.desc = some ⟨ps, rt'⟩) (hlen : argsL.length = ps.length) (hS : S = argsL.reverse ++ rest) (has : argsL.toArray = as) (W : Nat) (hW : (rest.map fun v => v.category).sum = W)
    (hfr : rm.frames + 1 ≤ R.frames) (hlo : W + (ml' + 11) + rm.locals ≤ R.locals) (hc : cl + rm.cells ≤ R.cells) (hs : sl + rm.slots ≤ R.slots) (hp : pc + 3 = pc') :
    ∃ v h', Q' v h' ∧ K pc' L (v.toList ++ rest) h' (cl + rm.cells) (sl + rm.slots) := by
  subst hp
  obtain ⟨p, e, s, m, args, below, meth, c, s1, f0, hx, hby, hZ, hown, hml, hnm, hrt, hlk, hK, hO⟩ := C
  obtain ⟨T, locs, X, eT, N, st⟩ := (hK _ _ _ _ _ _).mp H
  obtain ⟨v, _, ⟨T', L', k', n'⟩, -, X', ⟨Lc, ⟨hQ, hF⟩, l', y', z'⟩, st'⟩ := Jvm.LawKit.callS X hx (y := y) hown (mvT hZ w1) (mvT hZ w2) (mvT hZ w3) (mvT hZ w4) hy (backOf (Q := fun v h' L => Q' v h' ∧ Fr n0 L) (W := W) (k []) hZ w4 w3 hfr hlo) (g := mkF m pc L S) rfl (hsz.trans hml.symm) (argsL := argsL) (rest := rest) (lenOf hd hlen) hS (by show 2 * 0 + _ ≤ _; omega) (hb hby d) (fun _ _ => ⟨has, eT, hc, hs⟩)
  dsimp only [Pt.U, Pt.locs, Pt.cells, Pt.slots] at X' l' y' z' st' hQ
  subst l' y' z'
  exact ⟨v, T'.heap, hQ, (hK _ _ _ _ _ _).mpr ⟨T', _, X', rfl, N.app hF, fun t k => st t (st' t k)⟩⟩
theorem k_callCon (C : Ctx l R n0 Z own bytes ml nm rt Q K O) (H : K pc L S h cl sl) {i : Nat} {y : MethodName} {bytes' : ByteArray} {ml' : Nat} {rm : Room} {as : Array Value} {Q' : Qt} (k : Con l y bytes' ml' none rm Z as h n0 Q') (hi : y.name = "<init>")
    (w1 : (Cond.methodLink own i y).before a0 Z = true) (w2 : (Cond.instanceMethod y).before a0 Z = true) (w3 : (Cond.initialized y.cls).before a0 Z = true) (w4 : (Cond.code y bytes' ml' none).before a0 Z = true) (hy : y.cls ≠ "java/lang/invoke/MethodHandle" ∧ y.cls ≠ "java/lang/invoke/VarHandle")
    (d : decode bytes pc = .ok (.invokespecial i, 3)) (hsz : L.size = ml) (a : Addr) (argsL rest : List Value) {ps : List FieldType} (hd : parseMethodDescriptor y.desc = some ⟨ps, none⟩) (hlen : argsL.length = ps.length) (hS : S = argsL.reverse ++ .ref a :: rest) (has : (.ref a :: argsL).toArray = as) (W : Nat) (hW : (rest.map fun v => v.category).sum = W)
    (hfr : rm.frames + 1 ≤ R.frames) (hlo : W + (ml' + 11) + rm.locals ≤ R.locals) (hc : cl + rm.cells ≤ R.cells) (hs : sl + rm.slots ≤ R.slots) (hp : pc + 3 = pc') :
    ∃ v h', Q' v h' ∧ K pc' L (v.toList ++ rest) h' (cl + rm.cells) (sl + rm.slots) := by
  subst hp
  obtain ⟨p, e, s, m, args, below, meth, c, s1, f0, hx, hby, hZ, hown, hml, hnm, hrt, hlk, hK, hO⟩ := C
  obtain ⟨T, locs, X, eT, N, st⟩ := (hK _ _ _ _ _ _).mp H
  obtain ⟨v, _, ⟨T', L', k', n'⟩, -, X', ⟨Lc, ⟨hQ, hF⟩, l', y', z'⟩, st'⟩ := X.specialBack hx (y := y) hi hown (mvT hZ w1) (mvT hZ w2) (mvT hZ w4) hy (backOf (Q := fun v h' L => Q' v h' ∧ Fr n0 L) (W := W) (k []) hZ w4 w3 hfr hlo) (g := mkF m pc L S) rfl (hsz.trans hml.symm) (Steps.refl _) (a := a) (argsL := argsL) (rest := rest) (lenOf hd hlen) hS (by show 2 * 0 + _ ≤ _; omega) (hb hby d) (fun _ _ => ⟨has, eT, hc, hs⟩)
  dsimp only [Pt.U, Pt.locs, Pt.cells, Pt.slots] at X' l' y' z' st' hQ
  subst l' y' z'
  exact ⟨v, T'.heap, hQ, (hK _ _ _ _ _ _).mpr ⟨T', _, X', rfl, N.app hF, fun t k => st t (st'.trans k)⟩⟩
theorem k_callVir (C : Ctx l R n0 Z own bytes ml nm rt Q K O) (H : K pc L S h cl sl) {i : Nat} {y : MethodName} {bytes' : ByteArray} {ml' : Nat} {rt' : Option FieldType} {rm : Room} {as : Array Value} {Q' : Qt} (k : Con l y bytes' ml' rt' rm Z as h n0 Q') {a : Addr} {C' : String} (E : Exa Z h a C')
    (w1 : (Cond.methodLink own i y).before a0 Z = true) (w2 : (Cond.declares y).before a0 Z = true) (w3 : (Cond.selects C' y y).before a0 Z = true) (w4 : (Cond.instanceMethod y).before a0 Z = true) (w5 : (Cond.initialized y.cls).before a0 Z = true) (w6 : (Cond.code y bytes' ml' rt').before a0 Z = true) (hy : y.cls ≠ "java/lang/invoke/MethodHandle" ∧ y.cls ≠ "java/lang/invoke/VarHandle")
    (d : decode bytes pc = .ok (.invokevirtual i, 3)) (hsz : L.size = ml) (argsL rest : List Value) {ps : List FieldType} {rt2 : Option FieldType} (hd : parseMethodDescriptor y.desc = some ⟨ps, rt2⟩) (hlen : argsL.length = ps.length) (hS : S = argsL.reverse ++ .ref a :: rest) (has : (.ref a :: argsL).toArray = as) (W : Nat) (hW : (rest.map fun v => v.category).sum = W)
    (hfr : rm.frames + 1 ≤ R.frames) (hlo : W + (ml' + 11) + rm.locals ≤ R.locals) (hc : cl + rm.cells ≤ R.cells) (hs : sl + rm.slots ≤ R.slots) (hp : pc + 3 = pc') :
    ∃ v h', Q' v h' ∧ K pc' L (v.toList ++ rest) h' (cl + rm.cells) (sl + rm.slots) := by
  subst hp
  obtain ⟨p, e, s, m, args, below, meth, c, s1, f0, hx, hby, hZ, hown, hml, hnm, hrt, hlk, hK, hO⟩ := C
  obtain ⟨T, locs, X, eT, N, st⟩ := (hK _ _ _ _ _ _).mp H
  obtain ⟨cq, kq, qa, qb, qc⟩ := isOf hZ eT E
  obtain ⟨v, _, ⟨T', L', k', n'⟩, -, X', ⟨Lc, ⟨hQ, hF⟩, l', y', z'⟩, st'⟩ := X.virtualBack hx (y := y) (z := y) hown (mvT hZ w1) (mvT hZ w2) (notFace_of_selects (args := #[]) (mvT hZ w3)) (mvT hZ w3) (mvT hZ w4) hy (backOf (Q := fun v h' L => Q' v h' ∧ Fr n0 L) (W := W) (k []) hZ w6 w5 hfr hlo) qa qc (g := mkF m pc L S) rfl (hsz.trans hml.symm) (Steps.refl _) (argsL := argsL) (rest := rest) (lenOf hd hlen) hS (by show 2 * 0 + _ ≤ _; omega) (hb hby d) (fun _ _ => ⟨has, eT, hc, hs⟩)
  dsimp only [Pt.U, Pt.locs, Pt.cells, Pt.slots] at X' l' y' z' st' hQ
  subst l' y' z'
  exact ⟨v, T'.heap, hQ, (hK _ _ _ _ _ _).mpr ⟨T', _, X', rfl, N.app hF, fun t k => st t (st'.trans k)⟩⟩
end Steps
/-- a class whose only superclass is one without a superclass is no subclass of a third, ordinary one -/
theorem noSub {Z : State} {a0 : Array Value} {C S K : String} {n : Nat} (w : (Cond.superclass C S).before a0 Z = true) (wo : (Cond.noSuperclass S).before a0 Z = true) (wk : (Cond.instantiable K n).before a0 Z = true) (h1 : S ≠ K) (h2 : C ≠ K) :
    ∃ c t, Z.vm.findClass C = some c ∧ Z.vm.findClass K = some t ∧ Z.vm.assignable c t = false := by
  obtain ⟨t, kt, g1, g2, g3, g4, -⟩ := Cond.instantiable_spec wk
  obtain ⟨co, ko, o1, o2, o3, -, -⟩ := Cond.noSuperclass_spec wo
  have nsO : NS Z S K := ⟨co, t, o1, g1, fun fuel => by
    have ne := ids_ne o1 g1 h1
    cases fuel with
    | zero => rfl
    | succ f => simp [Vm.isSubclassAux, ne, o2, o3]⟩
  obtain ⟨c, t', h0, g0, n3⟩ := NS.step w nsO h2
  cases g1.symm.trans g0
  obtain ⟨p, k, kp, q1, q2, q3, q4, q5, -, q7⟩ := Cond.superclass_spec h0 w
  have ne := ids_ne h0 g0 h2
  have gi : kt.isInterface = false := by
    cases hi : kt.isInterface with
    | false => rfl
    | true => simp [hi] at g4
  refine ⟨c, t, h0, g1, ?_⟩
  show Z.vm.assignableAux (255 + 1) c t = false
  simp [Vm.assignableAux, ne, q2, g2, q5, g3, gi, Vm.isSubclass, n3]
/-! arrays of ints, bytes, chars: what lies at each place -/
def Ari (Z : State) (h : Heap) (a : Addr) (ty : FieldType) (n : Nat) (f : Nat → Int32) : Prop := ∃ c : Cell, Arr Z h a c ty ∧ c.slots.size = n ∧ n < 2 ^ 31 ∧ ∀ i, i < n → c.slots[i]? = some (.int (f i))
section Arrays
variable {Z : State} {h h' : Heap} {a b : Addr} {ty : FieldType} {n : Nat} {f : Nat → Int32} {sl : Nat} {v : Value} {ws : List Addr}
theorem Ari.lt (F : Ari Z h a ty n f) : a < h.size := by obtain ⟨c, A, -⟩ := F; exact A.lt
theorem Ari.ext (F : Ari Z h a ty n f) (E : Ext h h') : Ari Z h' a ty n f := by obtain ⟨c, A, r⟩ := F; exact ⟨c, A.ext E, r⟩
theorem Ari.other (F : Ari Z h b ty n f) (W : Wr h h' a sl v) (q : b ≠ a) : Ari Z h' b ty n f := by obtain ⟨c, A, r⟩ := F; exact ⟨c, A.other W q, r⟩
theorem Ari.keep (F : Ari Z h a ty n f) (K : Keep h h' ws) (q : a ∉ ws) : Ari Z h' a ty n f := by obtain ⟨c, A, r⟩ := F; exact ⟨c, ⟨K.2.1 a c A.1 q, A.2⟩, r⟩
theorem Ari.congr {g : Nat → Int32} (F : Ari Z h a ty n f) (q : ∀ i, i < n → f i = g i) : Ari Z h a ty n g := by obtain ⟨c, A, r1, r2, r3⟩ := F; exact ⟨c, A, r1, r2, fun i hi => by rw [← q i hi]; exact r3 i hi⟩
theorem Ari.set (F : Ari Z h a ty n f) {i : Nat} {x : Int32} (W : Wr h h' a i (.int x)) : Ari Z h' a ty n (fun k => if k = i then x else f k) := by
  obtain ⟨c, A, r1, r2, r3⟩ := F
  refine ⟨c.setSlot i (.int x), A.same W, by rw [sz_set]; exact r1, r2, fun k hk => ?_⟩
  by_cases q : k = i
  · subst q
    simp [Cell.setSlot, r1, hk]
  · have : i ≠ k := fun z => q z.symm
    simp [Cell.setSlot, q, this, Array.getElem?_setIfInBounds_ne this, r3 k hk]
theorem addN {x y : Int32} {i j : Nat} (hx : x.toInt = i) (hy : y.toInt = j) (h : i + j < 2147483648) : (x + y).toInt = ((i + j : Nat) : Int) := by
  have a := c_iadd x y
  have r := rng32 (x + y)
  omega
theorem toNatClampNeg_of {j : Int32} {i : Nat} (hj : j.toInt = i) : j.toNatClampNeg = i := by rw [Int32.toNatClampNeg, hj]; rfl
theorem inb {j : Int32} {i m : Nat} (hj : j.toInt = i) (hi : i < m) : ¬ (j < 0 ∨ m ≤ j.toNatClampNeg) := by
  rw [toNatClampNeg_of hj, Int32.lt_iff_toInt_lt, hj]
  simp; omega
theorem Ari.ofNew {cA : ClassId} {z : Int32} (A : Arr Z h a (newA cA ty z) ty) (hz : z.toInt = n) (hd : defaultValue ty = .int 0) : Ari Z h a ty n (fun _ => 0) := by
  have hn : z.toNatClampNeg = n := toNatClampNeg_of hz
  refine ⟨_, A, by rw [sz_new, hn], by have := z.toInt_lt; omega, fun i hi => ?_⟩
  simp [newA, hn, hi, hd]
end Arrays
section ArrSteps
variable {l : Launch} {R : Room} {n0 : Nat} {Z : State} {own : String} {bytes : ByteArray} {ml : Nat} {nm : String} {rt : Option FieldType} {Q : Qt} {K : Kt} {O : Prop} {a0 : Array Value} {pc : Nat} {L : Array Slot} {S rest : List Value} {h : Heap} {cl sl : Nat} {pc' : Nat}
theorem k_arrlen (C : Ctx l R n0 Z own bytes ml nm rt Q K O) {a : Addr} (H : K pc L (.ref a :: rest) h cl sl) {ty : FieldType} {n : Nat} {f : Nat → Int32} (F : Ari Z h a ty n f) (d : decode bytes pc = .ok (.arraylength, 1)) (hp : pc + 1 = pc') : K pc' L (.int n.toInt32 :: rest) h cl sl := by
  subst hp
  obtain ⟨c', A, r1, r2, r3⟩ := F
  exact C.pure H fun p e s m args below meth c T locs X hx hby hZ hown eT t k => X.arraylength hx (by rw [eT]; exact A.1) (State.isArrayOf_alike hZ.alike A.2.1) (g := mkF m pc L (.ref a :: rest)) rfl rfl (hb hby d) t (by rw [r1]; exact k)

theorem k_iaload (C : Ctx l R n0 Z own bytes ml nm rt Q K O) {a : Addr} {j : Int32} (H : K pc L (.int j :: .ref a :: rest) h cl sl) {n : Nat} {f : Nat → Int32} (F : Ari Z h a .int n f) {i : Nat} (hj : j.toInt = i) (hi : i < n) (d : decode bytes pc = .ok (.iaload, 1)) (hp : pc + 1 = pc') : K pc' L (.int (f i) :: rest) h cl sl := by
  subst hp
  obtain ⟨c', A, r1, r2, r3⟩ := F
  exact C.pure H fun p e s m args below meth c T locs X hx hby hZ hown eT t k => X.iaload hx (by rw [eT]; exact A.1) (State.isArrayOf_alike hZ.alike A.2.1) A.2.2 (inb hj (r1.symm ▸ hi)) (by rw [toNatClampNeg_of hj]; exact r3 i hi) (g := mkF m pc L (.int j :: .ref a :: rest)) rfl rfl (hb hby d) t k
theorem k_baload (C : Ctx l R n0 Z own bytes ml nm rt Q K O) {a : Addr} {j : Int32} (H : K pc L (.int j :: .ref a :: rest) h cl sl) {n : Nat} {f : Nat → Int32} (F : Ari Z h a .byte n f) {i : Nat} (hj : j.toInt = i) (hi : i < n) (d : decode bytes pc = .ok (.baload, 1)) (hp : pc + 1 = pc') : K pc' L (.int (f i) :: rest) h cl sl := by
  subst hp
  obtain ⟨c', A, r1, r2, r3⟩ := F
  exact C.pure H fun p e s m args below meth c T locs X hx hby hZ hown eT t k => X.baloadBytes hx (by rw [eT]; exact A.1) (State.isArrayOf_alike hZ.alike A.2.1) A.2.2 (inb hj (r1.symm ▸ hi)) (by rw [toNatClampNeg_of hj]; exact r3 i hi) (g := mkF m pc L (.int j :: .ref a :: rest)) rfl rfl (hb hby d) t k
theorem k_caload (C : Ctx l R n0 Z own bytes ml nm rt Q K O) {a : Addr} {j : Int32} (H : K pc L (.int j :: .ref a :: rest) h cl sl) {n : Nat} {f : Nat → Int32} (F : Ari Z h a .char n f) {i : Nat} (hj : j.toInt = i) (hi : i < n) (d : decode bytes pc = .ok (.caload, 1)) (hp : pc + 1 = pc') : K pc' L (.int (f i) :: rest) h cl sl := by
  subst hp
  obtain ⟨c', A, r1, r2, r3⟩ := F
  exact C.pure H fun p e s m args below meth c T locs X hx hby hZ hown eT t k => X.caload hx (by rw [eT]; exact A.1) (State.isArrayOf_alike hZ.alike A.2.1) A.2.2 (inb hj (r1.symm ▸ hi)) (by rw [toNatClampNeg_of hj]; exact r3 i hi) (g := mkF m pc L (.int j :: .ref a :: rest)) rfl rfl (hb hby d) t k
theorem k_iastore (C : Ctx l R n0 Z own bytes ml nm rt Q K O) {a : Addr} {j x : Int32} (H : K pc L (.int x :: .int j :: .ref a :: rest) h cl sl) {n : Nat} {f : Nat → Int32} (F : Ari Z h a .int n f) {i : Nat} (hj : j.toInt = i) (hi : i < n) (g : n0 ≤ a) (d : decode bytes pc = .ok (.iastore, 1)) (hp : pc + 1 = pc') : ∃ h', Wr h h' a i (.int (x)) ∧ Ari Z h' a .int n (fun k => if k = i then x else f k) ∧ K pc' L rest h' cl sl := by
  subst hp
  have F0 := F
  obtain ⟨c', A, r1, r2, r3⟩ := F
  obtain ⟨p, e, s, m, args, below, meth, c, s1, f0, hx, hby, hZ, hown, hml, hnm, hrt, hlk, hK, hO⟩ := C
  obtain ⟨T, locs, X, eT, N, st⟩ := (hK _ _ _ _ _ _).mp H
  obtain ⟨T', h', X', e', W', st'⟩ := stI X hx hZ eT A (inb hj (r1.symm ▸ hi)) (g := mkF m pc L (.int x :: .int j :: .ref a :: rest)) rfl rfl (hb hby d)
  have N' := Fr.snoc X' N g
  rw [toNatClampNeg_of hj] at W'
  exact ⟨h', W', F0.set W', (hK _ _ _ _ _ _).mpr ⟨T', _, X', e', N', fun t k => st t (st' t k)⟩⟩
theorem k_bastore (C : Ctx l R n0 Z own bytes ml nm rt Q K O) {a : Addr} {j x : Int32} (H : K pc L (.int x :: .int j :: .ref a :: rest) h cl sl) {n : Nat} {f : Nat → Int32} (F : Ari Z h a .byte n f) {i : Nat} (hj : j.toInt = i) (hi : i < n) (g : n0 ≤ a) (d : decode bytes pc = .ok (.bastore, 1)) (hp : pc + 1 = pc') : ∃ h', Wr h h' a i (.int (nar .byte x)) ∧ Ari Z h' a .byte n (fun k => if k = i then nar .byte x else f k) ∧ K pc' L rest h' cl sl := by
  subst hp
  have F0 := F
  obtain ⟨c', A, r1, r2, r3⟩ := F
  obtain ⟨p, e, s, m, args, below, meth, c, s1, f0, hx, hby, hZ, hown, hml, hnm, hrt, hlk, hK, hO⟩ := C
  obtain ⟨T, locs, X, eT, N, st⟩ := (hK _ _ _ _ _ _).mp H
  obtain ⟨T', h', X', e', W', st'⟩ := stB X hx hZ eT A (inb hj (r1.symm ▸ hi)) (g := mkF m pc L (.int x :: .int j :: .ref a :: rest)) rfl rfl (hb hby d)
  have N' := Fr.snoc X' N g
  rw [toNatClampNeg_of hj] at W'
  exact ⟨h', W', F0.set W', (hK _ _ _ _ _ _).mpr ⟨T', _, X', e', N', fun t k => st t (st' t k)⟩⟩
theorem k_castore (C : Ctx l R n0 Z own bytes ml nm rt Q K O) {a : Addr} {j x : Int32} (H : K pc L (.int x :: .int j :: .ref a :: rest) h cl sl) {n : Nat} {f : Nat → Int32} (F : Ari Z h a .char n f) {i : Nat} (hj : j.toInt = i) (hi : i < n) (g : n0 ≤ a) (d : decode bytes pc = .ok (.castore, 1)) (hp : pc + 1 = pc') : ∃ h', Wr h h' a i (.int (nar .char x)) ∧ Ari Z h' a .char n (fun k => if k = i then nar .char x else f k) ∧ K pc' L rest h' cl sl := by
  subst hp
  have F0 := F
  obtain ⟨c', A, r1, r2, r3⟩ := F
  obtain ⟨p, e, s, m, args, below, meth, c, s1, f0, hx, hby, hZ, hown, hml, hnm, hrt, hlk, hK, hO⟩ := C
  obtain ⟨T, locs, X, eT, N, st⟩ := (hK _ _ _ _ _ _).mp H
  obtain ⟨T', h', X', e', W', st'⟩ := stC X hx hZ eT A (inb hj (r1.symm ▸ hi)) (g := mkF m pc L (.int x :: .int j :: .ref a :: rest)) rfl rfl (hb hby d)
  have N' := Fr.snoc X' N g
  rw [toNatClampNeg_of hj] at W'
  exact ⟨h', W', F0.set W', (hK _ _ _ _ _ _).mpr ⟨T', _, X', e', N', fun t k => st t (st' t k)⟩⟩
end ArrSteps

/-! arrays of references; clones; copies -/
def Arf (Z : State) (h : Heap) (a : Addr) (k : ClassId) (ty : FieldType) (n : Nat) (f : Nat → Value) : Prop := ∃ c : Cell, Arr Z h a c ty ∧ c.cls = k ∧ c.slots.size = n ∧ n < 2 ^ 31 ∧ ∀ i, i < n → c.slots[i]? = some (f i)
section Refs
variable {Z : State} {h h' : Heap} {a b : Addr} {k : ClassId} {ty : FieldType} {n : Nat} {f : Nat → Value} {sl : Nat} {v : Value} {ws : List Addr}
theorem Arf.lt (F : Arf Z h a k ty n f) : a < h.size := by obtain ⟨c, A, -⟩ := F; exact A.lt
theorem Arf.ext (F : Arf Z h a k ty n f) (E : Ext h h') : Arf Z h' a k ty n f := by obtain ⟨c, A, r⟩ := F; exact ⟨c, A.ext E, r⟩
theorem Arf.other (F : Arf Z h b k ty n f) (W : Wr h h' a sl v) (q : b ≠ a) : Arf Z h' b k ty n f := by obtain ⟨c, A, r⟩ := F; exact ⟨c, A.other W q, r⟩
theorem Arf.keep (F : Arf Z h a k ty n f) (K : Keep h h' ws) (q : a ∉ ws) : Arf Z h' a k ty n f := by obtain ⟨c, A, r⟩ := F; exact ⟨c, ⟨K.2.1 a c A.1 q, A.2⟩, r⟩
theorem Arf.congr (F : Arf Z h a k ty n f) {g : Nat → Value} (q : ∀ i, i < n → f i = g i) : Arf Z h a k ty n g := by obtain ⟨c, A, r0, r1, r2, r3⟩ := F; exact ⟨c, A, r0, r1, r2, fun i hi => by rw [r3 i hi, q i hi]⟩
theorem Arf.set (F : Arf Z h a k ty n f) {i : Nat} {x : Value} (W : Wr h h' a i x) : Arf Z h' a k ty n (fun k => if k = i then x else f k) := by
  obtain ⟨c, A, r0, r1, r2, r3⟩ := F
  refine ⟨c.setSlot i x, A.same W, r0, by rw [sz_set]; exact r1, r2, fun k hk => ?_⟩
  by_cases q : k = i
  · subst q
    simp [Cell.setSlot, r1, hk]
  · have : i ≠ k := fun z => q z.symm
    simp [Cell.setSlot, q, Array.getElem?_setIfInBounds_ne this, r3 k hk]
theorem Arf.ofNew {cA : ClassId} {z : Int32} (A : Arr Z h a (newA cA ty z) ty) (hz : z.toInt = n) (hd : defaultValue ty = .null) : Arf Z h a cA ty n (fun _ => .null) := by
  have hn : z.toNatClampNeg = n := toNatClampNeg_of hz
  refine ⟨_, A, rfl, by rw [sz_new, hn], by have := z.toInt_lt; omega, fun i hi => ?_⟩
  simp [newA, hn, hi, hd]
def lf (l : List Int32) : Nat → Int32 := fun k => l.getD k 0
theorem lf_set (l : List Int32) (i : Nat) (x : Int32) (hi : i < l.length) (k : Nat) : (if k = i then x else lf l k) = lf (l.set i x) k := by
  by_cases q : k = i
  · subst q; simp [lf, List.getD, hi]
  · have : ¬ i = k := fun z => q z.symm
    simp [lf, List.getD, q, List.getElem?_set_ne this]
theorem Ari.neX {g : Nat → Int32} {C : String} {a0 : Array Value} {j : Nat} (F : Ari Z h b ty n g) (E : Exa Z h a C) (wi : (Cond.instantiable C j).before a0 Z = true) : b ≠ a := by
  obtain ⟨c, A, -⟩ := F; exact (ne_arr E wi A).symm
theorem Arf.neX {C : String} {a0 : Array Value} {j : Nat} (F : Arf Z h b k ty n f) (E : Exa Z h a C) (wi : (Cond.instantiable C j).before a0 Z = true) : b ≠ a := by
  obtain ⟨c, A, -⟩ := F; exact (ne_arr E wi A).symm
theorem natInt {n : Nat} (hn : n < 2 ^ 31) : n.toInt32.toInt = n := len_toInt hn
theorem natClamp {n : Nat} (hn : n < 2 ^ 31) : n.toInt32.toNatClampNeg = n := toNatClampNeg_of (natInt hn)
theorem natNeg {n : Nat} (hn : n < 2 ^ 31) : ¬ n.toInt32 < 0 := by rw [Int32.lt_iff_toInt_lt, natInt hn]; exact Int.not_lt.mpr (Int.natCast_nonneg n)
theorem Ari.arv {g : Nat → Int32} (F : Ari Z h a .int n g) : ∃ k, Arv Z h a k .int n.toInt32 ((List.range n).map fun i => .int (g i)) (.int 0) := by
  obtain ⟨c, A, r1, r2, r3⟩ := F
  have e : ∀ i, i < n → ((List.range n).map fun i => (Value.int (g i))).getD i (.int 0) = .int (g i) := fun i hi => by simp [List.getD, hi]
  exact ⟨c.cls, c, A, rfl, by rw [natClamp r2]; exact r1, natNeg r2, fun i hi => by rw [e i (r1 ▸ hi)]; exact r3 i (r1 ▸ hi), fun i hi => by rw [e i (r1 ▸ hi)]; rfl⟩
theorem Ari.of_arv {g : Nat → Int32} {z : Int32} {vs : List Value} {d : Value} (F : Arv Z h a k .int z vs d) (hz : z.toInt = n) (hv : ∀ i, i < n → vs.getD i d = .int (g i)) : Ari Z h a .int n g := by
  obtain ⟨c, A, -, r1, r2, r3, -⟩ := F
  have hn : c.slots.size = n := r1.trans (toNatClampNeg_of hz)
  exact ⟨c, A, hn, by have := z.toInt_lt; omega, fun i hi => by rw [r3 i (hn ▸ hi), hv i hi]⟩
end Refs
section RefSteps
variable {l : Launch} {R : Room} {n0 : Nat} {Z : State} {own : String} {bytes : ByteArray} {ml : Nat} {nm : String} {rt : Option FieldType} {Q : Qt} {K : Kt} {O : Prop} {a0 : Array Value} {pc : Nat} {L : Array Slot} {S rest : List Value} {h : Heap} {cl sl : Nat} {pc' : Nat}
theorem k_newArrE (C : Ctx l R n0 Z own bytes ml nm rt Q K O) {n : Int32} (H : K pc L (.int n :: rest) h cl sl) {aty : ArrayType} (w : (Cond.arrayClass (newarray.typeOf aty)).before a0 Z = true) (d : decode bytes pc = .ok (.newarray aty, 2)) (hn : ¬ n < 0) {cap : Nat} (hcap : n.toNatClampNeg ≤ cap) (hb' : cap * 8 ≤ 536870912) (hc : cl + 1 ≤ R.cells) (hl : sl + cap ≤ R.slots) {ad : String} (had : "[" ++ (newarray.typeOf aty).toString = ad) (hp : pc + 2 = pc') :
    ∃ h' b cA, b = h.size ∧ Ext h h' ∧ Arr Z h' b (newA cA (newarray.typeOf aty) n) (newarray.typeOf aty) ∧ Exa Z h' b ad ∧ K pc' L (.ref b :: rest) h' (cl + 1) (sl + cap) := by
  subst hp
  obtain ⟨p, e, s, m, args, below, meth, c, s1, f0, hx, hby, hZ, hown, hml, hnm, hrt, hlk, hK, hO⟩ := C
  obtain ⟨T, locs, X, eT, N, st⟩ := (hK _ _ _ _ _ _).mp H
  obtain ⟨T', h', cA, X', e', E', A', Q', st'⟩ := newPE X hx hZ w eT (g := mkF m pc L (.int n :: rest)) rfl (hb hby d) rfl hn hcap hb' hc hl had
  exact ⟨h', _, cA, rfl, E', A', Q', (hK _ _ _ _ _ _).mpr ⟨T', _, X', e', N, fun t k => st t (st' t k)⟩⟩
theorem k_newRefA (C : Ctx l R n0 Z own bytes ml nm rt Q K O) {n : Int32} (H : K pc L (.int n :: rest) h cl sl) {i : Nat} {C' : String} {ty : FieldType} (hC : (FieldType.array ty).toString = C') (w1 : (Cond.classLink own i C').before a0 Z = true) (w2 : (Cond.arrayOver (.array ty)).before a0 Z = true) (d : decode bytes pc = .ok (.anewarray i, 3)) (hn : ¬ n < 0) {cap : Nat} (hcap : n.toNatClampNeg ≤ cap) (hb' : cap * 8 ≤ 536870912) (hc : cl + 1 ≤ R.cells) (hl : sl + cap ≤ R.slots) (hp : pc + 3 = pc') :
    ∃ h' b cA, b = h.size ∧ Ext h h' ∧ Arr Z h' b (newA cA (.array ty) n) (.array ty) ∧ OvrA Z cA ty C' ∧ K pc' L (.ref b :: rest) h' (cl + 1) (sl + cap) := by
  subst hp
  obtain ⟨p, e, s, m, args, below, meth, c, s1, f0, hx, hby, hZ, hown, hml, hnm, hrt, hlk, hK, hO⟩ := C
  obtain ⟨T, locs, X, eT, N, st⟩ := (hK _ _ _ _ _ _).mp H
  obtain ⟨T', h', cA, X', e', E', A', -, O', st'⟩ := newRA X hx hZ hown hC w1 w2 eT (g := mkF m pc L (.int n :: rest)) rfl (hb hby d) rfl hn hcap hb' hc hl rfl
  exact ⟨h', _, cA, rfl, E', A', O', (hK _ _ _ _ _ _).mpr ⟨T', _, X', e', N, fun t k => st t (st' t k)⟩⟩
theorem k_newRef (C : Ctx l R n0 Z own bytes ml nm rt Q K O) {n : Int32} (H : K pc L (.int n :: rest) h cl sl) {i : Nat} {C' : String} (w1 : (Cond.classLink own i C').before a0 Z = true) (w2 : (Cond.arrayOver (.object C')).before a0 Z = true) (d : decode bytes pc = .ok (.anewarray i, 3)) (hn : ¬ n < 0) {cap : Nat} (hcap : n.toNatClampNeg ≤ cap) (hb' : cap * 8 ≤ 536870912) (hc : cl + 1 ≤ R.cells) (hl : sl + cap ≤ R.slots) (hp : pc + 3 = pc') :
    ∃ h' b cA, b = h.size ∧ Ext h h' ∧ Arr Z h' b (newA cA (.object C') n) (.object C') ∧ Ovr Z cA C' ∧ K pc' L (.ref b :: rest) h' (cl + 1) (sl + cap) := by
  subst hp
  obtain ⟨p, e, s, m, args, below, meth, c, s1, f0, hx, hby, hZ, hown, hml, hnm, hrt, hlk, hK, hO⟩ := C
  obtain ⟨T, locs, X, eT, N, st⟩ := (hK _ _ _ _ _ _).mp H
  obtain ⟨T', h', cA, X', e', E', A', O', st'⟩ := newR X hx hZ hown w1 w2 eT (g := mkF m pc L (.int n :: rest)) rfl (hb hby d) rfl hn hcap hb' hc hl
  exact ⟨h', _, cA, rfl, E', A', O', (hK _ _ _ _ _ _).mpr ⟨T', _, X', e', N, fun t k => st t (st' t k)⟩⟩
theorem k_arflen (C : Ctx l R n0 Z own bytes ml nm rt Q K O) {a : Addr} (H : K pc L (.ref a :: rest) h cl sl) {k : ClassId} {ty : FieldType} {n : Nat} {f : Nat → Value} (F : Arf Z h a k ty n f) (d : decode bytes pc = .ok (.arraylength, 1)) (hp : pc + 1 = pc') : K pc' L (.int n.toInt32 :: rest) h cl sl := by
  subst hp
  obtain ⟨c', A, r0, r1, r2, r3⟩ := F
  exact C.pure H fun p e s m args below meth c T locs X hx hby hZ hown eT t k => X.arraylength hx (by rw [eT]; exact A.1) (State.isArrayOf_alike hZ.alike A.2.1) (g := mkF m pc L (.ref a :: rest)) rfl rfl (hb hby d) t (by rw [r1]; exact k)
theorem k_aaload (C : Ctx l R n0 Z own bytes ml nm rt Q K O) {a : Addr} {j : Int32} (H : K pc L (.int j :: .ref a :: rest) h cl sl) {k : ClassId} {ty : FieldType} {n : Nat} {f : Nat → Value} (F : Arf Z h a k ty n f) (hty : ty.isReference = true) {i : Nat} (hj : j.toInt = i) (hi : i < n) {v : Value} (hv : f i = v) (d : decode bytes pc = .ok (.aaload, 1)) (hp : pc + 1 = pc') : K pc' L (v :: rest) h cl sl := by
  subst hp hv
  obtain ⟨c', A, r0, r1, r2, r3⟩ := F
  exact C.pure H fun p e s m args below meth c T locs X hx hby hZ hown eT t k => X.aaload hx (by rw [eT]; exact A.1) (State.isArrayOf_alike hZ.alike A.2.1) hty A.2.2 (inb hj (r1.symm ▸ hi)) (by rw [toNatClampNeg_of hj]; exact r3 i hi) (g := mkF m pc L (.int j :: .ref a :: rest)) rfl rfl (hb hby d) t k
theorem k_aastore (C : Ctx l R n0 Z own bytes ml nm rt Q K O) {a : Addr} {j : Int32} {v : Value} (H : K pc L (v :: .int j :: .ref a :: rest) h cl sl) {k : ClassId} {ty : FieldType} {n : Nat} {f : Nat → Value} (F : Arf Z h a k ty n f) (hty : ty.isReference = true) (Sv : v = .null ∨ (∃ C', Ovr Z k C' ∧ ∃ y, v = .ref y ∧ Ins Z h y C' true) ∨ (∃ C' t', OvrA Z k t' C' ∧ ∃ y, v = .ref y ∧ Ins Z h y C' true)) {i : Nat} (hj : j.toInt = i) (hi : i < n) (g : n0 ≤ a) (d : decode bytes pc = .ok (.aastore, 1)) (hp : pc + 1 = pc') :
    ∃ h', Wr h h' a i v ∧ Arf Z h' a k ty n (fun k => if k = i then v else f k) ∧ K pc' L rest h' cl sl := by
  subst hp
  have F0 := F
  obtain ⟨c', A, r0, r1, r2, r3⟩ := F
  have Sx : Sto Z h a v := by
    rcases Sv with rfl | ⟨C', O', y, rfl, I⟩ | ⟨C', t', O', y, rfl, I⟩
    · exact Or.inl rfl
    · exact Sto.ofV A r0 O' I
    · exact Sto.ofVA A r0 O' I
  obtain ⟨p, e, s, m, args, below, meth, c, s1, f0, hx, hby, hZ, hown, hml, hnm, hrt, hlk, hK, hO⟩ := C
  obtain ⟨T, locs, X, eT, N, st⟩ := (hK _ _ _ _ _ _).mp H
  obtain ⟨T', h', X', e', W', st'⟩ := stR X hx hZ eT A (inb hj (r1.symm ▸ hi)) hty Sx (g := mkF m pc L (v :: .int j :: .ref a :: rest)) rfl rfl (hb hby d)
  have N' := Fr.snoc X' N g
  rw [toNatClampNeg_of hj] at W'
  exact ⟨h', W', F0.set W', (hK _ _ _ _ _ _).mpr ⟨T', _, X', e', N', fun t k => st t (st' t k)⟩⟩
theorem k_cloneI (C : Ctx l R n0 Z own bytes ml nm rt Q K O) {a : Addr} (H : K pc L (.ref a :: rest) h cl sl) {i : Nat} {n : Nat} {f : Nat → Int32} (F : Ari Z h a .int n f) (E : Exa Z h a "[I")
    (w1 : (Cond.methodLink own i ⟨"[I", "clone", "()Ljava/lang/Object;"⟩).before a0 Z = true) (w2 : (Cond.sameMethod "[I" "java/lang/Object" "clone" "()Ljava/lang/Object;").before a0 Z = true) (w3 : (Cond.native ⟨"java/lang/Object", "clone", "()Ljava/lang/Object;"⟩).before a0 Z = true)
    (w4 : (Cond.instanceMethod ⟨"java/lang/Object", "clone", "()Ljava/lang/Object;"⟩).before a0 Z = true) (w5 : (Cond.selects "[I" ⟨"[I", "clone", "()Ljava/lang/Object;"⟩ ⟨"java/lang/Object", "clone", "()Ljava/lang/Object;"⟩).before a0 Z = true) (w6 : (Cond.castable "[I" "java/lang/Cloneable").before a0 Z = true)
    (d : decode bytes pc = .ok (.invokevirtual i, 3)) (hsz : L.size = ml) (hf : 1 ≤ R.frames) (W : Nat) (hW : (rest.map fun v => v.category).sum = W) (hl : W + 14 ≤ R.locals) (hc : cl + 1 ≤ R.cells) (hs : sl + n ≤ R.slots) (hp : pc + 3 = pc') :
    ∃ h' b, b = h.size ∧ Ext h h' ∧ Ari Z h' b .int n f ∧ Exa Z h' b "[I" ∧ K pc' L (.ref b :: rest) h' (cl + 1) (sl + n) := by
  subst hp
  obtain ⟨c', A, r1, r2, r3⟩ := F
  have G : FitC Z c' := fitC_of A fun j hj v hv => by
    rw [r3 j (r1 ▸ hj)] at hv
    cases hv; rfl
  obtain ⟨p, e, s, m, args, below, meth, c, s1, f0, hx, hby, hZ, hown, hml, hnm, hrt, hlk, hK, hO⟩ := C
  obtain ⟨T, locs, X, eT, N, st⟩ := (hK _ _ _ _ _ _).mp H
  obtain ⟨T', h', X', e', E', A', Q', st'⟩ := cloneA X hx hZ hown w1 w2 w3 w4 w5 w6 eT A E G (g := mkF m pc L (.ref a :: rest)) rfl (hsz.trans hml.symm) rfl (hb hby d) hf (W := W) (by show 2 * 0 + _ ≤ _; omega) hl (cap := n) (Nat.le_of_eq r1) hc hs
  exact ⟨h', _, rfl, E', ⟨_, A', r1, r2, r3⟩, Q', (hK _ _ _ _ _ _).mpr ⟨T', _, X', e', N, fun t k => st t (st' t k)⟩⟩
theorem k_copyI (C : Ctx l R n0 Z own bytes ml nm rt Q K O) {a b : Addr} {zs zd zn : Int32} (H : K pc L (.int zn :: .int zd :: .ref b :: .int zs :: .ref a :: rest) h cl sl) {i : Nat} {n m : Nat} {f g : Nat → Int32} (A : Ari Z h a .int n f) (B : Ari Z h b .int m g) {sp dp nn : Nat} (h1 : zs.toInt = sp) (h2 : zd.toInt = dp) (h3 : zn.toInt = nn) (h4 : sp + nn ≤ n) (h5 : dp + nn ≤ m) (ge : n0 ≤ b)
    (w1 : (Cond.methodLink own i Jvm.Stand.acN).before a0 Z = true) (w2 : (Cond.native Jvm.Stand.acN).before a0 Z = true) (w3 : (Cond.static Jvm.Stand.acN).before a0 Z = true) (w4 : (Cond.initialized "java/lang/System").before a0 Z = true)
    (d : decode bytes pc = .ok (.invokestatic i, 3)) (hsz : L.size = ml) (hf : 1 ≤ R.frames) (W : Nat) (hW : (rest.map fun v => v.category).sum = W) (hl : W + (nativeFrameWords "java/lang/System" "arraycopy" 5 + 11) ≤ R.locals) (hp : pc + 3 = pc') :
    ∃ h', Keep h h' [b] ∧ Ari Z h' b .int m (fun k => if dp ≤ k ∧ k < dp + nn then f (sp + (k - dp)) else g k) ∧ K pc' L rest h' cl sl := by
  subst hp
  have lA : n < 2 ^ 31 := by obtain ⟨_, _, _, r, _⟩ := A; exact r
  have lB : m < 2 ^ 31 := by obtain ⟨_, _, _, r, _⟩ := B; exact r
  obtain ⟨k1, VA⟩ := A.arv
  obtain ⟨k2, VB⟩ := B.arv
  have c1 := toNatClampNeg_of h1
  have c2 := toNatClampNeg_of h2
  have c3 := toNatClampNeg_of h3
  have neg : ∀ {z : Int32} {q : Nat}, z.toInt = q → ¬ z < 0 := fun e => by rw [Int32.lt_iff_toInt_lt, e]; exact Int.not_lt.mpr (Int.natCast_nonneg _)
  obtain ⟨p, e, s, m', args, below, meth, c, s1, f0, hx, hby, hZ, hown, hml, hnm, hrt, hlk, hK, hO⟩ := C
  obtain ⟨T, locs, X, eT, N, st⟩ := (hK _ _ _ _ _ _).mp H
  obtain ⟨T', h', L', X', e', N', K', V', st'⟩ := cpA X hx hZ hown w1 w2 w3 w4 eT VA VB (Or.inl ⟨rfl, rfl⟩) (neg h1) (neg h2) (neg h3) (by rw [c1, c3, natClamp lA]; exact h4) (by rw [c2, c3, natClamp lB]; exact h5) rfl (by rw [c2, c3]; simpa using h5) N ge (g := mkF m' pc L (.int zn :: .int zd :: .ref b :: .int zs :: .ref a :: rest)) rfl (hsz.trans hml.symm) rfl (hb hby d) hf (W := W) (by show 2 * 0 + _ ≤ _; omega) hl
  refine ⟨h', K', Ari.of_arv V' (natInt lB) (fun j hj => ?_), (hK _ _ _ _ _ _).mpr ⟨T', _, X', e', N', fun t k => st t (st' t k)⟩⟩
  rw [c1, c2, c3]
  by_cases q1 : j < dp
  · have : ¬ (dp ≤ j ∧ j < dp + nn) := by omega
    rw [if_neg this]
    have x3 : j < min dp m := by omega
    simp [List.getD, List.getElem?_append, q1, hj, x3]
  · by_cases q2 : j < dp + nn
    · have : dp ≤ j ∧ j < dp + nn := by omega
      rw [if_pos this]
      have x1 : sp + (j - dp) < n := by omega
      have x2 : j - dp < nn := by omega
      have x3 : min dp m = dp := by omega
      simp [List.getD, List.getElem?_append, q1, x1, x2, x3]
    · have : ¬ (dp ≤ j ∧ j < dp + nn) := by omega
      rw [if_neg this]
      have x3 : min dp m = dp := by omega
      have x4 : ¬ j - dp < nn := by omega
      have x5 : dp + nn + (j - dp - nn) = j := by omega
      simp [List.getD, List.getElem?_append, q1, x3, x4, x5, hj]
theorem k_callPri (C : Ctx l R n0 Z own bytes ml nm rt Q K O) (H : K pc L S h cl sl) {i : Nat} {y : MethodName} {bytes' : ByteArray} {ml' : Nat} {rt' : Option FieldType} {rm : Room} {as : Array Value} {Q' : Qt} (k : Con l y bytes' ml' rt' rm Z as h n0 Q') {a : Addr} {C' : String} (E : Exa Z h a C')
    (w1 : (Cond.methodLink own i y).before a0 Z = true) (w2 : (Cond.instanceMethod y).before a0 Z = true) (w3 : (Cond.selects y.cls y y).before a0 Z = true) (w4 : (Cond.privateMethod y).before a0 Z = true) (w5 : (Cond.initialized y.cls).before a0 Z = true) (w6 : (Cond.code y bytes' ml' rt').before a0 Z = true) (hy : y.cls ≠ "java/lang/invoke/MethodHandle" ∧ y.cls ≠ "java/lang/invoke/VarHandle")
    (d : decode bytes pc = .ok (.invokevirtual i, 3)) (hsz : L.size = ml) (argsL rest : List Value) {ps : List FieldType} {rt2 : Option FieldType} (hd : parseMethodDescriptor y.desc = some ⟨ps, rt2⟩) (hlen : argsL.length = ps.length) (hS : S = argsL.reverse ++ .ref a :: rest) (has : (.ref a :: argsL).toArray = as) (W : Nat) (hW : (rest.map fun v => v.category).sum = W)
    (hfr : rm.frames + 1 ≤ R.frames) (hlo : W + (ml' + 11) + rm.locals ≤ R.locals) (hc : cl + rm.cells ≤ R.cells) (hs : sl + rm.slots ≤ R.slots) (hp : pc + 3 = pc') :
    ∃ v h', Q' v h' ∧ K pc' L (v.toList ++ rest) h' (cl + rm.cells) (sl + rm.slots) := by
  subst hp
  obtain ⟨p, e, s, m, args, below, meth, c, s1, f0, hx, hby, hZ, hown, hml, hnm, hrt, hlk, hK, hO⟩ := C
  obtain ⟨T, locs, X, eT, N, st⟩ := (hK _ _ _ _ _ _).mp H
  obtain ⟨cq, q1, q2⟩ := E.cell
  obtain ⟨v, _, ⟨T', L', k', n'⟩, -, X', ⟨Lc, ⟨hQ, hF⟩, l', y', z'⟩, st'⟩ := X.privateBack hx (y := y) hown (mvT hZ w1) (mvT hZ w2) (mvT hZ w3) (Cond.privateMethod_at (mvP hZ w4 (args := #[]))) (mvT hZ w6) hy (backOf (Q := fun v h' L => Q' v h' ∧ Fr n0 L) (W := W) (k []) hZ w6 w5 hfr hlo) (g := mkF m pc L S) rfl (hsz.trans hml.symm) (Steps.refl _) (a := a) (by rw [eT]; exact q1) q2 (argsL := argsL) (rest := rest) (lenOf hd hlen) hS (by show 2 * 0 + _ ≤ _; omega) (hb hby d) (fun _ _ => ⟨has, eT, hc, hs⟩)
  dsimp only [Pt.U, Pt.locs, Pt.cells, Pt.slots] at X' l' y' z' st' hQ
  subst l' y' z'
  exact ⟨v, T'.heap, hQ, (hK _ _ _ _ _ _).mpr ⟨T', _, X', rfl, N.app hF, fun t k => st t (st'.trans k)⟩⟩
theorem k_callInt (C : Ctx l R n0 Z own bytes ml nm rt Q K O) (H : K pc L S h cl sl) {i cn : Nat} {xi y : MethodName} {bytes' : ByteArray} {ml' : Nat} {rt' : Option FieldType} {rm : Room} {as : Array Value} {Q' : Qt} (k : Con l y bytes' ml' rt' rm Z as h n0 Q') {a : Addr} {C' : String} (E : Exa Z h a C')
    (w1 : (Cond.methodLink own i xi).before a0 Z = true) (w2 : (Cond.declares xi).before a0 Z = true) (w3 : (Cond.interfaceMethod xi.cls xi.cls xi.name xi.desc).before a0 Z = true) (w3' : ((Cond.interfaceMethod xi.cls xi.cls xi.name xi.desc).onTables && (Cond.interfaceMethod xi.cls xi.cls xi.name xi.desc).keepsFace) = true) (w4 : (Cond.selects C' xi y).before a0 Z = true) (w5 : (Cond.instanceMethod y).before a0 Z = true) (w6 : (Cond.publicMethod y).before a0 Z = true) (w7 : (Cond.unhidden C' xi.name xi.desc).before a0 Z = true) (w8 : (Cond.castable C' xi.cls).before a0 Z = true) (w9 : (Cond.initialized y.cls).before a0 Z = true) (wc : (Cond.code y bytes' ml' rt').before a0 Z = true) (hy : xi.cls ≠ "java/lang/invoke/MethodHandle" ∧ xi.cls ≠ "java/lang/invoke/VarHandle")
    (d : decode bytes pc = .ok (.invokeinterface i cn, 5)) (hsz : L.size = ml) (argsL rest : List Value) {ps : List FieldType} {rt2 : Option FieldType} (hd : parseMethodDescriptor xi.desc = some ⟨ps, rt2⟩) (hlen : argsL.length = ps.length) (hS : S = argsL.reverse ++ .ref a :: rest) (has : (.ref a :: argsL).toArray = as) (W : Nat) (hW : (rest.map fun v => v.category).sum = W)
    (hfr : rm.frames + 1 ≤ R.frames) (hlo : W + (ml' + 11) + rm.locals ≤ R.locals) (hc : cl + rm.cells ≤ R.cells) (hs : sl + rm.slots ≤ R.slots) (hp : pc + 5 = pc') :
    ∃ v h', Q' v h' ∧ K pc' L (v.toList ++ rest) h' (cl + rm.cells) (sl + rm.slots) := by
  subst hp
  obtain ⟨p, e, s, m, args, below, meth, c, s1, f0, hx, hby, hZ, hown, hml, hnm, hrt, hlk, hK, hO⟩ := C
  obtain ⟨T, locs, X, eT, N, st⟩ := (hK _ _ _ _ _ _).mp H
  obtain ⟨cq, kq, qa, qb, qc⟩ := isOf hZ eT E
  obtain ⟨v, _, ⟨T', L', k', n'⟩, -, X', ⟨Lc, ⟨hQ, hF⟩, l', y', z'⟩, st'⟩ := X.interfaceBack hx (xi := xi) (y := y) hown (mvT hZ w1) (mvT hZ w2) (mvT hZ w3 w3') (mvT hZ w4) (mvT hZ w5) (mvT hZ w6) (mvT hZ w7) (mvT hZ w8) hy (backOf (Q := fun v h' L => Q' v h' ∧ Fr n0 L) (W := W) (k []) hZ wc w9 hfr hlo) qa qb qc (g := mkF m pc L S) rfl (hsz.trans hml.symm) (Steps.refl _) (argsL := argsL) (rest := rest) (lenOf hd hlen) hS (by show 2 * 0 + _ ≤ _; omega) (hb hby d) (fun _ _ => ⟨has, eT, hc, hs⟩)
  dsimp only [Pt.U, Pt.locs, Pt.cells, Pt.slots] at X' l' y' z' st' hQ
  subst l' y' z'
  exact ⟨v, T'.heap, hQ, (hK _ _ _ _ _ _).mpr ⟨T', _, X', rfl, N.app hF, fun t k => st t (st'.trans k)⟩⟩
end RefSteps
end Jvm.OwnK
namespace Jvm.OwnK
open Jvm Jvm.ClassFile Sem Op Lib Jvm.Free Jvm.Stand Jvm.RoadKit
section WarmSteps
variable {l : Launch} {R : Room} {n0 : Nat} {Z : State} {own : String} {bytes : ByteArray} {ml : Nat} {nm : String} {rt : Option FieldType} {Q : Qt} {K : Kt} {O : Prop} {a0 : Array Value} {pc : Nat} {L : Array Slot} {S rest : List Value} {h : Heap} {cl sl : Nat} {pc' : Nat}
/-! entries that the sheet takes as resolved (fieldRef, methodRef) -/
theorem fldReady {p : Program} {l : Launch} {e : Env} {R : Room} {s : State} {m : MethodId} {args : Array Value} {below : List Frame} {meth : Method} {c : Code} {T : State} {locs : List Loc} {cells slots : Nat} (X : Stand p l e R s m args below meth c T locs cells slots) {Z : State} {a0 : Array Value} (hZ : Z.Warmed39 s.vm) {own O' n d' : String} {i : Nat} (hown : s.vm.findClass own = some m.cls) (w : (Cond.fieldRef own i O' n d').before a0 Z = true) {cf j : Nat} {k : Class} {f : Field} (h2 : Z.fieldFound? O' n d' = some (cf, k, j, f)) : T.vm.fieldReady m.cls i cf f := by
  have hT : Z.Warmed39 T.vm := wtrans hZ X.warmed
  have w' : (Cond.fieldRef own i O' n d').before a0 (Z.setVm T.vm) = true := Cond.fieldRef_warmed39 hT w
  obtain ⟨c1, k1, j1, f1, hi, hr⟩ := Cond.fieldRef_spec (s := Z.setVm T.vm) (cur := m.cls) (by show T.vm.findClass own = _; rw [X.warmed.alike.findClass]; exact hown) w'
  obtain ⟨k', hi', -⟩ := State.fieldFound?_setVm (s := Z) hT.alike h2
  cases hi.symm.trans hi'
  exact hr
theorem k_getFldR (C : Ctx l R n0 Z own bytes ml nm rt Q K O) {a : Addr} (H : K pc L (.ref a :: rest) h cl sl) {i : Nat} {O' n d' : String} {v : Value} (w : (Cond.fieldRef own i O' n d').before a0 Z = true) (F : Fld Z h a O' n d' v) (d : decode bytes pc = .ok (.getfield i, 3)) (hp : pc + 3 = pc') : K pc' L (v :: rest) h cl sl := by
  subst hp
  refine C.pure H fun p e s m args below meth c T locs X hx hby hZ hown eT t k => ?_
  obtain ⟨cell, cf, kk, j, f, h1, h2, h3, h4, -, -, h7⟩ := F
  have hr := fldReady X hZ hown w h2
  jvm_step X.here [hx, hb hby d, getfield.wp_ready (e := e) (s := T) (f := mkF m pc L (.ref a :: rest)) X.here.top hr h3 rfl (by rw [eT]; exact h1) h4 h7]
  exact k
theorem k_putFldR (C : Ctx l R n0 Z own bytes ml nm rt Q K O) {a : Addr} {v : Value} (H : K pc L (v :: .ref a :: rest) h cl sl) {i kk : Nat} {O' n d' C' : String} {ty : FieldType} {old : Value} (w : (Cond.fieldRef own i O' n d').before a0 Z = true) (F : Fld Z h a O' n d' old) (E : Exa Z h a C')
    (Lw : (Cond.lays C' O' n d').before a0 Z = true) (wi : (Cond.instantiable C' kk).before a0 Z = true) (hty : parseFieldDescriptor d' = some ty) (hn : narrow ty v = v) (hf : fits ty v = true) (g : n0 ≤ a) (d : decode bytes pc = .ok (.putfield i, 3)) (hp : pc + 3 = pc') :
    ∃ h', Wr h h' a (Jvm.RoadKit.slotOf Z O' n d') v ∧ K pc' L rest h' cl sl := by
  subst hp
  obtain ⟨p, e, s, m, args, below, meth, c, s1, f0, hx, hby, hZ, hown, hml, hnm, hrt, hlk, hK, hO⟩ := C
  obtain ⟨T, locs, X, eT, N, st⟩ := (hK _ _ _ _ _ _).mp H
  obtain ⟨cell, cf, k, j, f, h1, h2, h3, h4, h5, -, h7⟩ := F
  have hr := fldReady X hZ hown w h2
  obtain ⟨cell', kc, e1, e2, e3, -⟩ := E
  obtain ⟨c1, k1, cf1, kf1, i1, f1, a1, a2, a3, -, a5, -, a6, -⟩ := Cond.lays_spec Lw
  obtain ⟨c2, k2, i1', i2', i3', -⟩ := Cond.instantiable_spec wi
  cases h1.symm.trans e1
  cases h2.symm.trans a3
  cases e2.symm.trans a1
  cases e2.symm.trans i1'
  cases a2.symm.trans i2'
  have ht := (State.fieldFound?_type h2 hty).2
  have q0 : Z.slotType? cell.cls cell.vm f.slot = some ty := by
    simp only [State.slotType?, a2, Option.bind_eq_bind, Option.bind_some, i3']
    cases hq : cell.vm <;> first | (rw [hq] at h5; exact Bool.noConfusion h5) | (rw [a6, ht])
  have hT : Z.Warmed39 T.vm := wtrans hZ X.warmed
  have hfit : T.fitsSlot cell.cls cell.vm f.slot v = true := by
    have q1 : Z.fitsSlot cell.cls cell.vm f.slot v = true := by simp [State.fitsSlot, q0, hf]
    rw [← State.fitsSlot_setVm hT.alike] at q1; exact q1
  have hlt := (Array.getElem?_eq_some_iff.mp h7).1
  have es : Jvm.RoadKit.slotOf Z O' n d' = f.slot := by simp [Jvm.RoadKit.slotOf, h2]
  obtain ⟨X', st'⟩ := X.putfieldReady hx hr h3 (Or.inl a5) (by rw [eT]; exact h1) h4 hlt (by rw [ht]; exact hn) hfit (g := mkF m pc L (v :: .ref a :: rest)) rfl rfl (hb hby d)
  rw [es]
  exact ⟨(T.setCell a (cell.setSlot f.slot v)).heap, ⟨cell, h1, h5, hlt, by rw [← eT]; rfl⟩, (hK _ _ _ _ _ _).mpr ⟨_, _, X', rfl, Fr.snoc X' N g, fun t k => st t (st' t k)⟩⟩
theorem k_callPriR (C : Ctx l R n0 Z own bytes ml nm rt Q K O) (H : K pc L S h cl sl) {i kk : Nat} {y : MethodName} {bytes' : ByteArray} {ml' : Nat} {rt' : Option FieldType} {rm : Room} {as : Array Value} {Q' : Qt} (k : Con l y bytes' ml' rt' rm Z as h n0 Q') {a : Addr} {C' : String} (E : Exa Z h a C')
    (w1 : (Cond.methodRef own i y).before a0 Z = true) (w2 : (Cond.instanceMethod y).before a0 Z = true) (w3 : (Cond.instantiable y.cls kk).before a0 Z = true) (w4 : (Cond.privateMethod y).before a0 Z = true) (w5 : (Cond.initialized y.cls).before a0 Z = true) (w6 : (Cond.code y bytes' ml' rt').before a0 Z = true) (hy : y.cls ≠ "java/lang/invoke/MethodHandle" ∧ y.cls ≠ "java/lang/invoke/VarHandle")
    (d : decode bytes pc = .ok (.invokevirtual i, 3)) (hsz : L.size = ml) (argsL rest : List Value) {ps : List FieldType} {rt2 : Option FieldType} (hd : parseMethodDescriptor y.desc = some ⟨ps, rt2⟩) (hlen : argsL.length = ps.length) (hS : S = argsL.reverse ++ .ref a :: rest) (has : (.ref a :: argsL).toArray = as) (W : Nat) (hW : (rest.map fun v => v.category).sum = W)
    (hfr : rm.frames + 1 ≤ R.frames) (hlo : W + (ml' + 11) + rm.locals ≤ R.locals) (hc : cl + rm.cells ≤ R.cells) (hs : sl + rm.slots ≤ R.slots) (hp : pc + 3 = pc') :
    ∃ v h', Q' v h' ∧ K pc' L (v.toList ++ rest) h' (cl + rm.cells) (sl + rm.slots) := by
  subst hp hS
  obtain ⟨p, e, s, m, args, below, meth, c, s1, f0, hx, hby, hZ, hown, hml, hnm, hrt, hlk, hK, hO⟩ := C
  obtain ⟨T, locs, X, eT, N, st⟩ := (hK _ _ _ _ _ _).mp H
  obtain ⟨cell, q1, q2⟩ := E.cell
  have hT : Z.Warmed39 T.vm := wtrans hZ X.warmed
  obtain ⟨_, _, hnZ, -, -, -⟩ := Cond.instanceMethod_spec w2
  obtain ⟨mS, _, hnS, -, -, -⟩ := Cond.instanceMethod_spec (mvT (args := args) hZ w2)
  obtain ⟨mk, methM, hnamed, hmethM, hstM, habM⟩ := Cond.instanceMethod_spec (mvT (s := T) (args := args) hT w2)
  obtain ⟨methM', cM, hmethM', -, -, -, -, -, -, hsigM⟩ := Cond.code_spec hnamed (mvT (s := T) (args := args) hT w6)
  cases hmethM.symm.trans hmethM'
  have hpriv : T.PrivateAt y := Cond.privateMethod_at (mvP (s := T) hT w4 (args := #[]))
  have hsel : selectMethod e.platform T.vm cell.cls mk = .method mk := selectMethod_private hmethM (hpriv mk methM hnamed hmethM)
  obtain ⟨cI, kI, f1, f2, -, f4, -⟩ := Cond.instantiable_spec (mvT (s := T) (args := args) hT w3)
  have hcl : mk.cls = cI := Option.some.inj ((findClass_of_methodNamed hnamed).symm.trans f1)
  have hni : kI.isInterface = false := by cases hq : kI.isInterface <;> simp_all
  subst hcl
  have eqm : mk = mS := Option.some.inj (hnamed.symm.trans (X.named hnS))
  subst eqm
  have wT : (Cond.methodRef own i y).before args T = true := (Cond.methodRef_warmed39 hT hnZ hy w1 :)
  obtain ⟨m', c', g1, g2, g3, g4⟩ := Cond.methodRef_named e (s := T) (cur := m.cls) (by rw [X.warmed.alike.findClass]; exact hown) wT
  cases g1.symm.trans (State.methodFound?_of_named hnamed hy)
  cases g3.symm.trans f1
  obtain ⟨kx, hkx, hnx⟩ := className_of_methodNamed hnamed
  cases f2.symm.trans hkx
  have hpoly : signaturePolymorphic kI methM = false := by simp [signaturePolymorphic, hnx, hy.1, hy.2]
  have step : ∀ target, (∀ acts, Steps p.tables e below (doInvoke e (T.setTop (mkF m pc L rest)) acts mk (.ref a :: argsL).toArray).1 target) → Steps p.tables e below (T.setTop (mkF m pc L (argsL.reverse ++ .ref a :: rest))) target := by
    intro target hrest
    jvm_step X.here [hx, hb hby d, invokevirtual.wp_named (e := e) (s := T) (f := mkF m pc L (argsL.reverse ++ .ref a :: rest)) (r := mk) (m := mk) (c' := mk.cls) (k := kI) (k' := kI) (mk := kI) (rmeth := methM) (meth := methM) (a := a) (args := argsL) (rest := rest) (cell := cell) X.here.top g4 f2 hni g2 f2 hmethM hpoly hstM (lenOf hd hlen _ hsigM) rfl (by rw [eT]; exact q1) q2 hsel hmethM habM f2 hni]
    exact hrest
  obtain ⟨v, ⟨T', L', k', n'⟩, X', ⟨Lc, ⟨hQ, hF⟩, l', y', z'⟩, st'⟩ := (backOf (Q := fun v h' L => Q' v h' ∧ Fr n0 L) (W := W) (k []) hZ w6 w5 hfr hlo) m meth c ⟨T, locs, cl, sl⟩ (mkF m pc L rest) (.invokevirtual i) mk (.ref a :: argsL).toArray X rfl (hsz.trans hml.symm) (hb hby d) (by show 2 * 0 + (rest.map fun v => v.category).sum ≤ W; omega) hnamed ⟨has, eT, hc, hs⟩
  dsimp only [Pt.U, Pt.locs, Pt.cells, Pt.slots] at X' l' y' z' st' hQ
  subst l' y' z'
  exact ⟨v, T'.heap, hQ, (hK _ _ _ _ _ _).mpr ⟨T', _, X', rfl, N.app hF, fun t k => st t (step _ (fun acts => by rw [doInvoke_state]; exact st'.trans k))⟩⟩
theorem Arf.arv {Z : State} {h : Heap} {a : Addr} {k : ClassId} {ty : FieldType} {n : Nat} {f : Nat → Value} (F : Arf Z h a k ty n f) (hv : ∀ i, i < n → fits ty (f i) = true) : Arv Z h a k ty n.toInt32 ((List.range n).map f) .null := by
  obtain ⟨c, A, r0, r1, r2, r3⟩ := F
  have e : ∀ i, i < n → ((List.range n).map f).getD i .null = f i := fun i hi => by simp [List.getD, hi]
  exact ⟨c, A, r0, by rw [natClamp r2]; exact r1, natNeg r2, fun i hi => by rw [e i (r1 ▸ hi)]; exact r3 i (r1 ▸ hi), fun i hi => by rw [e i (r1 ▸ hi)]; exact hv i (r1 ▸ hi)⟩
theorem k_copyR0 (C : Ctx l R n0 Z own bytes ml nm rt Q K O) {a : Addr} {zs zd : Int32} (H : K pc L (.int 0 :: .int zd :: .ref a :: .int zs :: .ref a :: rest) h cl sl) {i : Nat} {n : Nat} {k : ClassId} {ty : FieldType} {f : Nat → Value} (A : Arf Z h a k ty n f) (hty : refKind ty = true) (hv : ∀ i, i < n → fits ty (f i) = true) {sp dp : Nat} (h1 : zs.toInt = sp) (h2 : zd.toInt = dp) (h4 : sp ≤ n) (h5 : dp ≤ n) (ge : n0 ≤ a)
    (w1 : (Cond.methodLink own i Jvm.Stand.acN).before a0 Z = true) (w2 : (Cond.native Jvm.Stand.acN).before a0 Z = true) (w3 : (Cond.static Jvm.Stand.acN).before a0 Z = true) (w4 : (Cond.initialized "java/lang/System").before a0 Z = true)
    (d : decode bytes pc = .ok (.invokestatic i, 3)) (hsz : L.size = ml) (hf : 1 ≤ R.frames) (W : Nat) (hW : (rest.map fun v => v.category).sum = W) (hl : W + (nativeFrameWords "java/lang/System" "arraycopy" 5 + 11) ≤ R.locals) (hp : pc + 3 = pc') :
    ∃ h', Keep h h' [a] ∧ Arf Z h' a k ty n f ∧ K pc' L rest h' cl sl := by
  subst hp
  have VA := A.arv hv
  have lA : n < 2 ^ 31 := by obtain ⟨_, _, _, _, r, _⟩ := A; exact r
  have c1 := toNatClampNeg_of h1
  have c2 := toNatClampNeg_of h2
  have c3 : (0 : Int32).toNatClampNeg = 0 := rfl
  have neg : ∀ {z : Int32} {q : Nat}, z.toInt = q → ¬ z < 0 := fun e => by rw [Int32.lt_iff_toInt_lt, e]; exact Int.not_lt.mpr (Int.natCast_nonneg _)
  obtain ⟨p, e, s, m', args, below, meth, c, s1, f0, hx, hby, hZ, hown, hml, hnm, hrt, hlk, hK, hO⟩ := C
  obtain ⟨T, locs, X, eT, N, st⟩ := (hK _ _ _ _ _ _).mp H
  obtain ⟨T', h', L', X', e', N', K', V', st'⟩ := cpA X hx hZ hown w1 w2 w3 w4 eT VA VA (us := []) (Or.inr ⟨hty, hty, trivial⟩) (neg h1) (neg h2) (by decide) (by rw [c1, c3, natClamp lA]; exact h4) (by rw [c2, c3, natClamp lA]; exact h5) rfl (by rw [c2, c3]; simpa using h5) N ge (g := mkF m' pc L (.int 0 :: .int zd :: .ref a :: .int zs :: .ref a :: rest)) rfl (hsz.trans hml.symm) rfl (hb hby d) hf (W := W) (by show 2 * 0 + (rest.map fun v => v.category).sum ≤ W; omega) hl
  refine ⟨h', K', ?_, (hK _ _ _ _ _ _).mpr ⟨T', _, X', e', N', fun t k => st t (st' t k)⟩⟩
  obtain ⟨c', A', r0, r1, r2, r3, -⟩ := V'
  have hn : c'.slots.size = n := r1.trans (natClamp lA)
  exact ⟨c', A', r0, hn, lA, fun j hj => by rw [r3 j (hn ▸ hj), c2, c3]; simp [List.getD, hj]⟩
theorem linkUp {args : Array Value} {s : State} {cls : String} {x : MethodName} {index d c : Nat} {ck ok : Class} {meth : Method} {mf : MethodId} (hd : s.vm.findClass cls = some d) (hc : s.vm.findClass x.cls = some c) (hck : s.vm.classes[c]? = some ck) (hvi : ck.isInterface = true) (hnone : ck.findMethod x.name x.desc = none) (hf : s.methodFound? x.cls x.name x.desc = some mf) (hok : s.vm.classes[mf.cls]? = some ok) (hm : ok.methods[mf.idx]? = some meth)
    (hx : x.cls ≠ "java/lang/invoke/MethodHandle" ∧ x.cls ≠ "java/lang/invoke/VarHandle") (hcn : x.name ≠ "clone") (h : (Cond.methodLink cls index x).before args s = true) (pl : Platform) (hpl : pl.magicAccessors = ({} : Platform).magicAccessors) : ∃ ci, s.vm.MethodLinksFF pl d index ci c mf ∧ s.rightAt d index (.method mf) = true := by
  obtain ⟨k1, hk1, hname⟩ := Vm.findClass_spec hc
  cases hck.symm.trans hk1
  have hpoly : ∀ y, signaturePolymorphic ck y = false := fun y => by simp [signaturePolymorphic, hname, hx.1, hx.2]
  have hmeth : s.vm.method? mf = some meth := by simp [Vm.method?, hok, hm]
  have hff := State.faceFind_of_found hc hck hvi hpoly hnone hf
  simp only [Cond.before, Cond.holds, Cond.value, hd, hc, hf] at h
  obtain ⟨⟨ci, via⟩, hme⟩ : ∃ me, s.memberEntry? cls index = some me := by
    cases q : s.memberEntry? cls index with
    | none => simp [q] at h
    | some me => exact ⟨me, rfl⟩
  obtain ⟨linked, hcl⟩ : ∃ z, s.classLinks cls ci x.cls = some z := by
    cases q : s.classLinks cls ci x.cls with
    | none => simp [hme, q] at h
    | some z => exact ⟨z, rfl⟩
  obtain ⟨dk, hdk⟩ : ∃ z, s.vm.classes[d]? = some z := by
    cases q : s.vm.classes[d]? with
    | none => simp [hme, hcl, q] at h
    | some z => exact ⟨z, rfl⟩
  simp only [hme, hcl, hdk, hck, hok, hmeth, Option.bind_eq_bind, Option.bind_some, Option.pure_def, beq_iff_eq, bne_iff_ne, ne_eq, Option.some.injEq, Bool.and_eq_true, Option.isNone_iff_eq_none, Bool.or_eq_true] at h
  obtain ⟨⟨⟨⟨⟨⟨⟨rfl, hnm⟩, hopen⟩, hvia⟩, -⟩, -⟩, hml⟩, hacc⟩ := h
  have hpl2 : s.vm.Plain meth.accessFlags mf.cls ok c d dk := by
    rcases hacc with q | ⟨⟨-, q⟩, -⟩
    · simpa [Vm.Plain, plainAccess, or_assoc, and_assoc] using q
    · exact (hcn q).elim
  rw [hvi] at hvia
  subst hvia
  obtain ⟨cr, hcr, hlinks⟩ := State.classLinks_spec hd hcl pl hpl
  cases hc.symm.trans hcr
  obtain ⟨cp, hcp, hnames⟩ := State.names_spec hnm
  obtain ⟨dk', cf, hdk', hcf, rfl⟩ := State.poolOf?_spec hd hcp
  cases hdk.symm.trans hdk'
  obtain ⟨ci', nt, hent, hnt, -⟩ := namesOf?_method hnames
  obtain ⟨rfl, hent2⟩ : ci' = ci ∧ cf.constantPool[index]? = some (.interfaceMethodref ci nt) := by
    rcases hent with q | q <;> simp [State.memberEntry?, hcp, q] at hme
    exact ⟨hme, hme ▸ q⟩
  obtain ⟨dk2, cf2, nm2, z2, b1, b2, b3, b4, b5⟩ := hlinks.here
  cases hdk.symm.trans b1
  cases hcf.symm.trans b2
  have hne : ci' ≠ index := fun q => by subst q; simp [ConstantPool.className?, hent2] at b4
  exact ⟨ci', ⟨dk, cf, nt, x.name, x.desc, ck, ok, meth, hdk, hcf, hent2, hnt, hlinks, hne, hck, hvi, hpoly, hnone, hff, hok, hm, b3.trans hml.symm, hpl2, State.openOr_spec hd hdk hopen⟩, by simp [State.rightAt, hdk, hcf, hnames, hf]⟩
theorem k_callIntUp (C : Ctx l R n0 Z own bytes ml nm rt Q K O) (H : K pc L S h cl sl) {i cn : Nat} {J : String} {xi y : MethodName} {bytes' : ByteArray} {ml' : Nat} {rt' : Option FieldType} {rm : Room} {as : Array Value} {Q' : Qt} (k : Con l y bytes' ml' rt' rm Z as h n0 Q') {a : Addr} {C' : String} (E : Exa Z h a C')
    (w1 : (Cond.methodLink own i xi).before a0 Z = true) (w2 : (Cond.declares ⟨J, xi.name, xi.desc⟩).before a0 Z = true) (w3 : (Cond.interfaceMethod xi.cls J xi.name xi.desc).before a0 Z = true) (w4 : (Cond.selects C' xi y).before a0 Z = true) (w5 : (Cond.instanceMethod y).before a0 Z = true) (w6 : (Cond.publicMethod y).before a0 Z = true) (w7 : (Cond.unhidden C' xi.name xi.desc).before a0 Z = true) (w8 : (Cond.castable C' xi.cls).before a0 Z = true) (w9 : (Cond.initialized y.cls).before a0 Z = true) (wc : (Cond.code y bytes' ml' rt').before a0 Z = true) (hy : xi.cls ≠ "java/lang/invoke/MethodHandle" ∧ xi.cls ≠ "java/lang/invoke/VarHandle") (hxo : xi.cls ≠ J) (hcn : xi.name ≠ "clone")
    (d : decode bytes pc = .ok (.invokeinterface i cn, 5)) (hsz : L.size = ml) (argsL rest : List Value) {ps : List FieldType} {rt2 : Option FieldType} (hd : parseMethodDescriptor xi.desc = some ⟨ps, rt2⟩) (hlen : argsL.length = ps.length) (hS : S = argsL.reverse ++ .ref a :: rest) (has : (.ref a :: argsL).toArray = as) (W : Nat) (hW : (rest.map fun v => v.category).sum = W)
    (hfr : rm.frames + 1 ≤ R.frames) (hlo : W + (ml' + 11) + rm.locals ≤ R.locals) (hc : cl + rm.cells ≤ R.cells) (hs : sl + rm.slots ≤ R.slots) (hp : pc + 5 = pc') :
    ∃ v h', Q' v h' ∧ K pc' L (v.toList ++ rest) h' (cl + rm.cells) (sl + rm.slots) := by
  subst hp hS
  obtain ⟨p, e, s, m, args, below, meth, c, s1, f0, hx, hby, hZ, hown, hml, hnm, hrt, hlk, hK, hO⟩ := C
  obtain ⟨T, locs, X, eT, N, st⟩ := (hK _ _ _ _ _ _).mp H
  obtain ⟨cq, kq, qa, qb, cell, qc1, qc2, qc3⟩ := isOf hZ eT E
  have hpl : e.platform.magicAccessors = ({} : Platform).magicAccessors := by rw [X.admits.platform]
  obtain ⟨r0, r, hn, hrm, hstR, hsigR⟩ := Cond.declares_spec (mvT (args := args) hZ w2)
  obtain ⟨cL, kL0, r1, hcL0, hkL0, hiL0, hfound0, hn10⟩ := Cond.interfaceMethod_spec w3
  have hcL : s.vm.findClass xi.cls = some cL := by rw [hZ.alike.findClass]; exact hcL0
  obtain ⟨kL, hkL, heL⟩ := hZ.alike.2.2 _ _ hkL0
  have hiL : kL.isInterface = true := by rw [heL]; exact hiL0
  have hfound : s.methodFound? xi.cls xi.name xi.desc = some r1 := (State.methodFound?_setVm (s := Z) hZ.alike xi.cls xi.name xi.desc).trans hfound0
  have hn1 : s.methodNamed? ⟨J, xi.name, xi.desc⟩ = some r1 := by
    have q : (Z.setVm s.vm).methodNamed? ⟨J, xi.name, xi.desc⟩ = some r1 := by rw [State.methodNamed?_setVm hZ.alike]; exact hn10
    exact q
  cases hn.symm.trans hn1
  obtain ⟨ok, hok, hokn⟩ := className_of_methodNamed hn
  have hmO : ok.methods[r0.idx]? = some r := by simpa [Vm.method?, hok] using hrm
  obtain ⟨kL', hkL', hnameL⟩ := Vm.findClass_spec hcL
  cases hkL.symm.trans hkL'
  have hnone : kL.findMethod xi.name xi.desc = none := by
    cases hj : kL.findMethod xi.name xi.desc with
    | none => rfl
    | some j =>
      have hz : (kL.methods[j]?).isSome := by
        obtain ⟨hlt, -, -⟩ := Array.findIdx?_eq_some_iff_getElem.mp hj
        simp [hlt]
      have h2 := State.methodFound?_declared hcL hkL (fun y => by simp [signaturePolymorphic, hnameL, hy.1, hy.2]) hj hz
      have e2 : r0.cls = cL := by rw [Option.some.inj (hfound.symm.trans h2)]
      rw [e2] at hok
      cases hkL.symm.trans hok
      exact (hxo (hnameL.symm.trans hokn)).elim
  obtain ⟨ci, hl, hright⟩ := linkUp hown hcL hkL hiL hnone hfound hok hmO hy hcn (mvT (args := args) hZ w1) e.platform hpl
  have hE : s.MethodEntryUp e T.vm m.cls i cL r0 ci := State.methodEntryFF X.warmed hl hright
  obtain ⟨hnameR, hdescR⟩ := name_of_methodNamed hn hrm
  obtain ⟨mk, methM, hnamed, hmethM, -, habM⟩ := Cond.instanceMethod_spec (mvT (args := args) hZ w5)
  obtain ⟨c2, r2, m2, q1, q2, q3, q4, -⟩ := Cond.selects_spec (mvT (args := args) hZ w4)
  cases qa.symm.trans q1
  cases hfound.symm.trans q2
  cases hnamed.symm.trans q3
  have hselP : selectMethod e.platform s.vm cell.cls r0 = .method mk := by rw [Launch.admits_selectMethod X.admits, qc2]; exact q4
  have hpubM : hasFlag methM.accessFlags Acc.public_ = true := Cond.publicMethod_spec hnamed hmethM (mvT (args := args) hZ w6)
  have hway : ((cell.cls :: s.vm.superclasses cell.cls).any fun k => (declaredIn s.vm r.name r.desc k).any fun (_, z) => z.isPrivate || z.isStatic) = false := by
    rw [hnameR, hdescR, qc2]; exact Cond.unhidden_spec qa (mvT (args := args) hZ w7)
  obtain ⟨c3, t3, v1, v2, v3⟩ := Cond.castable_spec (mvT (args := args) hZ w8)
  cases qa.symm.trans v1
  cases hcL.symm.trans v2
  obtain ⟨dk, cfile, nt, _, _, ck, _, _, hd1, hcf, hcp, -, -, -, hck, hvia, -⟩ := hl.here
  cases hkL.symm.trans hck
  have alike := hE.warmed.alike
  obtain ⟨dk2, hdk2, hres⟩ := hE.classReady
  obtain ⟨dk3, hdk3, hed⟩ := alike.2.2 _ _ hd1
  cases hdk2.symm.trans hdk3
  obtain ⟨ck2, hck2, hec⟩ := alike.2.2 _ _ hck
  obtain ⟨kc2, hkc2, -⟩ := alike.2.2 _ _ (show s.vm.classes[cell.cls]? = some kq by rw [qc2]; exact qb)
  have X1 := X.noted hE.warmed
  have step : ∀ target, (∀ acts, Steps p.tables e below (doInvoke e ((T.setVm (T.vm.calledUp m.cls ci i cL r0)).setTop (mkF m pc L rest)) acts mk (.ref a :: argsL).toArray).1 target) → Steps p.tables e below (T.setTop (mkF m pc L (argsL.reverse ++ .ref a :: rest))) target := by
    intro target hrest
    jvm_step X.here [hx, hb hby d, invokeinterface.wp_coldFace (e := e) (s := T) (s₀ := s) (f := mkF m pc L (argsL.reverse ++ .ref a :: rest)) (count := cn) X.here.top X.warmed hE hd1 hcf (Or.inr hcp) hck hvia,
      invokeinterface.wp_ready (e := e) (s := T.setVm (T.vm.calledUp m.cls ci i cL r0)) (f := mkF m pc L (argsL.reverse ++ .ref a :: rest)) (count := cn) (r := r) (meth := methM) (m := mk) (args := argsL) (rest := rest) (cell := cell) (kcell := kc2) (ck := dk2) (nk := ck2) (cf := cfile) (ci := ci) (nt := nt) (named := cL)
        X.here.top hE.ready (by show (T.vm.calledUp m.cls ci i cL r0).method? r0 = some r; rw [alike.method?]; exact hrm) hstR (lenOf hd hlen _ hsigR) rfl qc1 (fun z hz => by rw [hz] at qc3; cases qc3) hkc2 hdk2 (by rw [hed]; exact hcf) hcp hres hck2 (by rw [hec]; exact hvia)
        (by show (T.vm.calledUp m.cls ci i cL r0).assignable cell.cls cL = true; rw [alike.assignable, qc2]; exact v3)
        (by show selectMethod e.platform (T.vm.calledUp m.cls ci i cL r0) cell.cls r0 = .method mk; rw [alike.selectMethod]; exact hselP)
        (by show (T.vm.calledUp m.cls ci i cL r0).method? mk = some methM; rw [alike.method?]; exact hmethM)
        (Or.inr (Or.inr (by show ((cell.cls :: (T.vm.calledUp m.cls ci i cL r0).superclasses cell.cls).any fun k => (declaredIn (T.vm.calledUp m.cls ci i cL r0) r.name r.desc k).any fun (_, y) => y.isPrivate || y.isStatic) = false; simp only [alike.superclasses, alike.declaredIn]; exact hway)))
        (Or.inl hpubM) habM]
    exact hrest
  obtain ⟨v, ⟨T', L', k', n'⟩, X', ⟨Lc, ⟨hQ, hF⟩, l', y', z'⟩, st'⟩ := (backOf (Q := fun v h' L => Q' v h' ∧ Fr n0 L) (W := W) (k []) hZ wc w9 hfr hlo) m meth c ⟨T.setVm (T.vm.calledUp m.cls ci i cL r0), locs, cl, sl⟩ (mkF m pc L rest) (.invokeinterface i cn) mk (.ref a :: argsL).toArray X1 rfl (hsz.trans hml.symm) (hb hby d) (by show 2 * 0 + (rest.map fun v => v.category).sum ≤ W; omega) (X1.named hnamed) ⟨has, eT, hc, hs⟩
  dsimp only [Pt.U, Pt.locs, Pt.cells, Pt.slots] at X' l' y' z' st' hQ
  subst l' y' z'
  exact ⟨v, T'.heap, hQ, (hK _ _ _ _ _ _).mpr ⟨T', _, X', rfl, N.app hF, fun t k => st t (step _ (fun acts => by rw [doInvoke_state]; exact st'.trans k))⟩⟩
theorem k_eqSelf (C : Ctx l R n0 Z own bytes ml nm rt Q K O) {a : Addr} (H : K pc L (.ref a :: .ref a :: rest) h cl sl) {i : Nat} {C' : String} (E : Exa Z h a C') {y : MethodName} (hy : y = ⟨"java/lang/Object", "equals", "(Ljava/lang/Object;)Z"⟩) {bytes' : ByteArray} (w1 : (Cond.methodLink own i y).before a0 Z = true) (w3 : (Cond.selects C' y y).before a0 Z = true) (w4 : (Cond.instanceMethod y).before a0 Z = true) (wc : (Cond.code y bytes' 2 (some .boolean)).before a0 Z = true)
    (d0 : decode bytes' 0 = .ok (.aload_n 0, 1)) (d1 : decode bytes' 1 = .ok (.aload_n 1, 1)) (d2 : decode bytes' 2 = .ok (.if_acmp .ne 7, 3)) (d5 : decode bytes' 5 = .ok (.iconst 1, 1)) (d6 : decode bytes' 6 = .ok (.goto 4, 3)) (d10 : decode bytes' 10 = .ok (.ireturn, 1))
    (d : decode bytes pc = .ok (.invokevirtual i, 3)) (hsz : L.size = ml) (hf : 1 ≤ R.frames) (W : Nat) (hW : (rest.map fun v => v.category).sum = W) (hl : W + 13 ≤ R.locals) (hp : pc + 3 = pc') : K pc' L (.int 1 :: rest) h cl sl := by
  subst hp
  have hd : parseMethodDescriptor y.desc = some ⟨[.object "java/lang/Object"], some .boolean⟩ := by rw [hy]; decide
  refine C.note H fun p e s m args below meth c T locs X hx hby hZ hown hml eT => ?_
  obtain ⟨cq, kq, qa, qb, cell, qc1, qc2, qc3⟩ := isOf hZ eT E
  obtain ⟨mk, methM, hnamed, hmethM, hstM, habM⟩ := Cond.instanceMethod_spec (mvT (args := args) hZ w4)
  obtain ⟨methM', cM, hmethM', hcM, hbM, hlM, hretM, hlockM, -, hsigM⟩ := Cond.code_spec hnamed (mvT (args := args) hZ wc)
  cases hmethM.symm.trans hmethM'
  obtain ⟨c2, r2, m2, q1, q2, q3, q4, kP, hkP, hkPi⟩ := Cond.selects_spec (mvT (args := args) hZ w3)
  cases qa.symm.trans q1
  cases hnamed.symm.trans q3
  have hnot : y.cls ≠ "java/lang/invoke/MethodHandle" ∧ y.cls ≠ "java/lang/invoke/VarHandle" := by rw [hy]; decide
  cases (State.methodFound?_of_named hnamed hnot).symm.trans q2
  have hsel : selectMethod e.platform s.vm cell.cls mk = .method mk := by rw [Launch.admits_selectMethod X.admits, qc2]; exact q4
  have hpar : ([.ref a] : List Value).length = methM.sig.parameters.length := lenOf hd rfl _ hsigM
  obtain ⟨vm', X', st'⟩ := X.invokevirtual hx hown (mvT (args := args) hZ w1) hnamed hmethM hstM hkP hkPi hnot (a := a) (cell := cell) qc1 (fun z hz => by rw [hz] at qc3; cases qc3) hsel hmethM habM hkP hkPi (g := mkF m pc L (.ref a :: .ref a :: rest)) rfl (argsL := [.ref a]) (rest := rest) hpar rfl (hb hby d)
  refine ⟨_, X', eT, fun t kk => st' t fun acts => ?_⟩
  obtain ⟨kx, hkx, hnx⟩ := className_of_methodNamed hnamed
  obtain ⟨hnN, hnD⟩ := name_of_methodNamed hnamed hmethM
  have alike := X'.warmed.alike
  have hm' : (T.setVm vm').vm.method? mk = some methM := by rw [alike.method?]; exact hmethM
  have hplain : (T.setVm vm').plainMethod mk := by
    intro k hk
    obtain ⟨k2, hk2, he2⟩ := alike.2.2 _ _ hkx
    cases hk.symm.trans hk2
    have hk1 : vm'.classes[mk.cls]? = some k := hk
    have hmm : k.methods[mk.idx]? = some methM := by simpa [Vm.method?, hk1] using hm'
    have hkn : k.name = "java/lang/Object" := by rw [he2]; show kx.name = _; rw [hnx, hy]
    simp only [rowless, hmm, hkn, hnN, hnD, hy]
    decide +kernel
  have hroom := X'.notFull (g := mkF m pc L rest) (vars := cM.maxLocals) (hsz.trans hml.symm) hf (by rw [hlM]; show 2 * 0 + (rest.map fun v => v.category).sum + (2 + 11) ≤ R.locals; omega)
  show Steps p.tables e below (doInvoke e ((T.setVm vm').setTop (mkF m pc L rest)) acts mk #[.ref a, .ref a]).1 t
  rw [doInvoke_enter (g := mkF m pc L rest) X'.here.top acts hm' hcM hlockM hroom]
  have hU := At.enter (g := mkF m pc L rest) X'.here #[.ref a, .ref a] hm' hcM hplain
  have hfU := frames_entered (s := T.setVm vm') (g := mkF m pc L rest) X'.here.top (.java (entryFrame mk #[.ref a, .ref a] cM.maxLocals))
  have hback := setFrames_entered (s := T.setVm vm') (g := mkF m pc L rest) X'.here.top (.java (entryFrame mk #[.ref a, .ref a] cM.maxLocals))
  have hcodeU : (((T.setVm vm').setTop (mkF m pc L rest)).pushFrame (.java (entryFrame mk #[.ref a, .ref a] cM.maxLocals))).code? m = some c := by
    have := X'.here.code; rw [State.code?_eq] at this ⊢; simpa [State.pushFrame, State.setFrames] using this
  have hmU : (((T.setVm vm').setTop (mkF m pc L rest)).pushFrame (.java (entryFrame mk #[.ref a, .ref a] cM.maxLocals))).vm.method? mk = some methM := by simpa [State.pushFrame, State.setFrames] using hm'
  rw [hlM] at hU hfU hback hcodeU hmU ⊢
  generalize ((T.setVm vm').setTop (mkF m pc L rest)).pushFrame (.java (entryFrame mk #[.ref a, .ref a] 2)) = U at hU hfU hback hcodeU hmU ⊢
  show Steps p.tables e below (U.setTop { method := mk, pc := 0, locals := #[.val (.ref a), .val (.ref a)], stack := [], locked := none }) t
  jvm_step hU [hx, hbM, d0, Value.isRef]
  jvm_step hU [hx, hbM, d1, Value.isRef]
  jvm_step hU [hx, hbM, d2, Value.isRef]
  refine ⟨some a, rfl, some a, rfl, ?_⟩
  rw [if_neg (by simp [if_acmp.holds])]
  jvm_step hU [hx, hbM, d5]
  jvm_step hU [hx, hbM, d6]
  jvm_step hU [hx, hbM, d10, hmU]
  refine ⟨.boolean, hretM, fun acts' => ?_⟩
  rw [doReturn_leave (g := mkF m pc L rest) (meth := methM) (cg := c) (ig := .invokevirtual i) (len := 3) acts' hfU hmU hlockM rfl rfl hcodeU (hb hby d), hback, State.setTop_setTop]
  exact kk
end WarmSteps

/-! k_more steps: fields seen through a subclass, the Class object, an empty copy -/
section PromSteps
variable {l : Launch} {R : Room} {n0 : Nat} {Z : State} {own : String} {bytes : ByteArray} {ml : Nat} {nm : String} {rt : Option FieldType} {Q : Qt} {K : Kt} {O : Prop} {a0 : Array Value} {pc : Nat} {L : Array Slot} {S rest : List Value} {h : Heap} {cl sl : Nat} {pc' : Nat}
theorem k_more (C : Ctx l R n0 Z own bytes ml nm rt Q K O) (H : K pc L S h cl sl) {cl' sl' : Nat} (hc : cl ≤ cl') (hl : sl ≤ sl') : K pc L S h cl' sl' := by
  obtain ⟨p, e, s, m, args, below, meth, c, s1, f0, hx, hby, hZ, hown, hml, hnm, hrt, hlk, hK, hO⟩ := C
  obtain ⟨T, locs, X, eT, N, st⟩ := (hK _ _ _ _ _ _).mp H
  exact (hK _ _ _ _ _ _).mpr ⟨T, locs, X.mono hc hl, eT, N, st⟩
theorem k_getFldV (C : Ctx l R n0 Z own bytes ml nm rt Q K O) {a : Addr} (H : K pc L (.ref a :: rest) h cl sl) {i : Nat} {R0 O' n d' : String} {v : Value} (w : (Cond.fieldLink own i R0 n d').before a0 Z = true) (ws : (Cond.sameField R0 O' n d').before a0 Z = true) (F : Fld Z h a O' n d' v) (d : decode bytes pc = .ok (.getfield i, 3)) (hp : pc + 3 = pc') : K pc' L (v :: rest) h cl sl := by
  subst hp
  exact C.note H fun p e s m args below meth c T locs X hx hby hZ hown _ eT => getF X hx hZ hown (host := "") (Or.inl w) (Via.of ws) eT F (g := mkF m pc L (.ref a :: rest)) rfl rfl (hb hby d)
theorem k_putFldV (C : Ctx l R n0 Z own bytes ml nm rt Q K O) {a : Addr} {v : Value} (H : K pc L (v :: .ref a :: rest) h cl sl) {i kk : Nat} {R0 O' n d' C' : String} {ty : FieldType} {old : Value} (w : (Cond.fieldLink own i R0 n d').before a0 Z = true) (ws : (Cond.sameField R0 O' n d').before a0 Z = true) (F : Fld Z h a O' n d' old) (E : Exa Z h a C')
    (Lw : (Cond.lays C' O' n d').before a0 Z = true) (wi : (Cond.instantiable C' kk).before a0 Z = true) (hty : parseFieldDescriptor d' = some ty) {v' : Value} (hn : narrow ty v = v') (hf : fits ty v' = true) (g : n0 ≤ a) (d : decode bytes pc = .ok (.putfield i, 3)) (hp : pc + 3 = pc') :
    ∃ h', Wr h h' a (Jvm.RoadKit.slotOf Z O' n d') v' ∧ K pc' L rest h' cl sl := by
  subst hp
  obtain ⟨p, e, s, m, args, below, meth, c, s1, f0, hx, hby, hZ, hown, hml, hnm, hrt, hlk, hK, hO⟩ := C
  obtain ⟨T, locs, X, eT, N, st⟩ := (hK _ _ _ _ _ _).mp H
  obtain ⟨T', h', X', e', W', st'⟩ := putFN X hx hZ hown w (Via.of ws) eT F E (Or.inl Lw) wi hty hn hf (g := mkF m pc L (v :: .ref a :: rest)) rfl rfl (hb hby d)
  exact ⟨h', W', (hK _ _ _ _ _ _).mpr ⟨T', _, X', e', Fr.snoc X' N g, fun t k => st t (st' t k)⟩⟩
theorem k_getCls (C : Ctx l R n0 Z own bytes ml nm rt Q K O) {a : Addr} (H : K pc L (.ref a :: rest) h cl sl) {i : Nat} {C' : String}
    (w1 : (Cond.methodLink own i ⟨"java/lang/Object", "getClass", "()Ljava/lang/Class;"⟩).before a0 Z = true) (w2 : (Cond.declares ⟨"java/lang/Object", "getClass", "()Ljava/lang/Class;"⟩).before a0 Z = true) (w3 : (Cond.noSuperclass "java/lang/Object").before a0 Z = true) (w4 : (Cond.selects C' ⟨"java/lang/Object", "getClass", "()Ljava/lang/Class;"⟩ ⟨"java/lang/Object", "getClass", "()Ljava/lang/Class;"⟩).before a0 Z = true)
    (w5 : (Cond.instanceMethod ⟨"java/lang/Object", "getClass", "()Ljava/lang/Class;"⟩).before a0 Z = true) (w6 : (Cond.native ⟨"java/lang/Object", "getClass", "()Ljava/lang/Class;"⟩).before a0 Z = true) (E : Exa Z h a C') {mr : Addr} (M : Mir Z C' mr)
    (d : decode bytes pc = .ok (.invokevirtual i, 3)) (hsz : L.size = ml) (hf : 1 ≤ R.frames) (W : Nat) (hW : (rest.map fun v => v.category).sum = W) (hl : W + (nativeFrameWords "java/lang/Object" "getClass" 1 + 11) ≤ R.locals) (hp : pc + 3 = pc') : K pc' L (.ref mr :: rest) h cl sl := by
  subst hp
  exact C.note H fun p e s m args below meth c T locs X hx hby hZ hown hml eT => gcls X hx hZ hown w1 w2 w3 w4 w5 w6 eT E M (g := mkF m pc L (.ref a :: rest)) rfl (hsz.trans hml.symm) rfl (hb hby d) hf (W := W) (by show 2 * 0 + (rest.map fun v => v.category).sum ≤ W; omega) hl
theorem k_ldcCls (C : Ctx l R n0 Z own bytes ml nm rt Q K O) (H : K pc L S h cl sl) {i : Nat} {C' : String} (w : (Cond.classLink own i C').before a0 Z = true) {mr : Addr} (M : Mir Z C' mr) (d : decode bytes pc = .ok (.ldc i, 2)) (hp : pc + 2 = pc') : K pc' L (.ref mr :: S) h cl sl := by
  subst hp
  refine C.note H fun p e s m args below meth c T locs X hx hby hZ hown _ eT => ?_
  obtain ⟨cc, kc, m1, m2, m3, -⟩ := M
  obtain ⟨k', q, ek⟩ := hZ.alike.2.2 _ _ m2
  have f : s.vm.findClass C' = some cc := by rw [hZ.alike.findClass]; exact m1
  have mm : k'.mirror = some mr := by rw [ek]; exact m3
  have hev : (Term.mirror C').eval args s none [] s = some (.ref mr) := by simp [Term.eval, f, q, mm]
  obtain ⟨vm', X', st'⟩ := X.ldcMirror hx hown (mv hZ w) hev (g := mkF m pc L S) rfl (hb hby d)
  exact ⟨_, X', eT, st'⟩
theorem k_copyR00 (C : Ctx l R n0 Z own bytes ml nm rt Q K O) {a b : Addr} (H : K pc L (.int 0 :: .int 0 :: .ref b :: .int 0 :: .ref a :: rest) h cl sl) {i : Nat} {k k2 : ClassId} {ty ty2 : FieldType} {f f2 : Nat → Value} (A : Arf Z h a k ty 0 f) (B : Arf Z h b k2 ty2 0 f2) (hty : refKind ty = true) (hty2 : refKind ty2 = true) (ge : n0 ≤ b)
    (w1 : (Cond.methodLink own i Jvm.Stand.acN).before a0 Z = true) (w2 : (Cond.native Jvm.Stand.acN).before a0 Z = true) (w3 : (Cond.static Jvm.Stand.acN).before a0 Z = true) (w4 : (Cond.initialized "java/lang/System").before a0 Z = true)
    (d : decode bytes pc = .ok (.invokestatic i, 3)) (hsz : L.size = ml) (hf : 1 ≤ R.frames) (W : Nat) (hW : (rest.map fun v => v.category).sum = W) (hl : W + (nativeFrameWords "java/lang/System" "arraycopy" 5 + 11) ≤ R.locals) (hp : pc + 3 = pc') :
    ∃ h', Keep h h' [b] ∧ Arf Z h' b k2 ty2 0 f2 ∧ K pc' L rest h' cl sl := by
  subst hp
  have VA := A.arv (fun i hi => absurd hi (Nat.not_lt_zero i))
  have VB := B.arv (fun i hi => absurd hi (Nat.not_lt_zero i))
  obtain ⟨p, e, s, m', args, below, meth, c, s1, f0, hx, hby, hZ, hown, hml, hnm, hrt, hlk, hK, hO⟩ := C
  obtain ⟨T, locs, X, eT, N, st⟩ := (hK _ _ _ _ _ _).mp H
  obtain ⟨T', h', L', X', e', N', K', V', st'⟩ := cpA X hx hZ hown w1 w2 w3 w4 eT VA VB (us := []) (Or.inr ⟨hty, hty2, trivial⟩) (by decide) (by decide) (by decide) (by decide) (by decide) rfl (by show (0 : Int32).toNatClampNeg + (0 : Int32).toNatClampNeg ≤ ([] : List Value).length; decide) N ge (g := mkF m' pc L (.int 0 :: .int 0 :: .ref b :: .int 0 :: .ref a :: rest)) rfl (hsz.trans hml.symm) rfl (hb hby d) hf (W := W) (by show 2 * 0 + (rest.map fun v => v.category).sum ≤ W; omega) hl
  refine ⟨h', K', ?_, (hK _ _ _ _ _ _).mpr ⟨T', _, X', e', N', fun t k => st t (st' t k)⟩⟩
  obtain ⟨c', A', r0, r1, r2, r3, -⟩ := V'
  exact ⟨c', A', r0, r1.trans (by decide), by decide, fun j hj => absurd hj (Nat.not_lt_zero j)⟩
end PromSteps
end Jvm.OwnK
namespace Jvm.Pilot.@@N@@
open Jvm Jvm.ClassFile Sem Op Lib Jvm.Free Jvm.Stand Jvm.LawKit Jvm.RoadKit Bundle Jvm.OwnK Jvm.Pilot.@@N@@.Jvm.D
def own_Ls (Z : State) (h : Heap) (n0 : Nat) (D l : Addr) : Prop := Exa Z h l "java/util/ArrayList" ∧ Fld Z h l "java/util/ArrayList" "size" "I" (.int 0) ∧ Fld Z h l "java/util/ArrayList" "elementData" "[Ljava/lang/Object;" (.ref D) ∧ (∃ m : Int32, Fld Z h l "java/util/AbstractList" "modCount" "I" (.int m)) ∧ n0 ≤ l
/-- a promise that is not resolved: its list is empty -/
def own_Un (Z : State) (h : Heap) (n0 : Nat) (D b : Addr) : Prop := n0 ≤ b ∧ Exa Z h b "com/example/sealer/sealer/Promise" ∧ Fld Z h b "com/example/sealer/sealer/Promise" "resolved" "Z" (.int 0) ∧ (∃ u : Value, Fld Z h b "com/example/sealer/sealer/Promise" "value" "Ljava/lang/Object;" u) ∧ ∃ l : Addr, Fld Z h b "com/example/sealer/sealer/Promise" "steps" "Ljava/util/List;" (.ref l) ∧ own_Ls Z h n0 D l
/-- a promise that is resolved with v -/
def own_Do (Z : State) (h : Heap) (b : Addr) (v : Value) : Prop := Exa Z h b "com/example/sealer/sealer/Promise" ∧ Fld Z h b "com/example/sealer/sealer/Promise" "resolved" "Z" (.int 1) ∧ Fld Z h b "com/example/sealer/sealer/Promise" "value" "Ljava/lang/Object;" v
def own_NP (Z : State) (C : String) : Prop := C ≠ "com/example/sealer/sealer/Promise" ∧ ∃ c t, Z.vm.findClass C = some c ∧ Z.vm.findClass "com/example/sealer/sealer/Promise" = some t ∧ Z.vm.assignable c t = false
def own_Leaf (Z : State) (h : Heap) (n0 : Nat) (D : Addr) (v : Value) : Prop := v = .null ∨ (∃ a C, v = .ref a ∧ Exa Z h a C ∧ own_NP Z C) ∨ (∃ a, v = .ref a ∧ own_Un Z h n0 D a)
def own_Res (Z : State) (h : Heap) (n0 : Nat) (D : Addr) : Nat → Value → Value → Prop
  | 0, v, r => v = r ∧ own_Leaf Z h n0 D v
  | n + 1, v, r => ∃ a v', v = .ref a ∧ own_Do Z h a v' ∧ v'.isRef = true ∧ own_Res Z h n0 D n v' r
theorem own_r0 {Z : State} {h : Heap} {n0 : Nat} {D : Addr} {v : Value} (L : own_Leaf Z h n0 D v) : own_Res Z h n0 D 0 v v := ⟨rfl, L⟩
theorem own_rS {Z : State} {h : Heap} {n0 n : Nat} {D a : Addr} {v r : Value} (d : own_Do Z h a v) (hv : v.isRef = true) (R : own_Res Z h n0 D n v r) : own_Res Z h n0 D (n + 1) (.ref a) r := ⟨a, v, rfl, d, hv, R⟩
theorem own_rleaf {Z : State} {h : Heap} {n0 : Nat} {D : Addr} : ∀ {n : Nat} {v r : Value}, own_Res Z h n0 D n v r → own_Leaf Z h n0 D r
  | 0, _, _, q => q.1 ▸ q.2
  | _ + 1, _, _, ⟨_, _, _, _, _, q⟩ => own_rleaf q
/-- what a step leaves of the promises other than b -/
def own_Sv (Z : State) (n0 : Nat) (D b : Addr) (h h' : Heap) : Prop := h.size ≤ h'.size ∧ (∀ (a : Addr) (c : Cell), a < n0 → h[a]? = some c → h'[a]? = some c) ∧ (∀ (a : Addr) (C : String), Exa Z h a C → Exa Z h' a C) ∧ (∀ c, c ≠ b → own_Un Z h n0 D c → own_Un Z h' n0 D c) ∧ (∀ c w, c ≠ b → own_Do Z h c w → own_Do Z h' c w)
theorem own_sv1 {Z : State} {n0 : Nat} {D b : Addr} {h h' : Heap} (K : Keep h h' [b]) (E : Exa Z h b "com/example/sealer/sealer/Promise") (g : n0 ≤ b) : own_Sv Z n0 D b h h' := by
  refine ⟨K.1, fun a c la q => K.2.1 a c q (ninS (Nat.ne_of_lt (Nat.lt_of_lt_of_le la g)) nin0), fun a C q => q.keep K, fun c hc U => ?_, fun c w hc d => ⟨d.1.keep K, d.2.1.keep K (ninS hc nin0), d.2.2.keep K (ninS hc nin0)⟩⟩
  obtain ⟨n1, x, f1, ⟨u, f2⟩, l, f3, xl, f4, f5, ⟨m, f6⟩, nl⟩ := U
  have nb : l ∉ [b] := ninS (xl.ne E (by decide)) nin0
  exact ⟨n1, x.keep K, f1.keep K (ninS hc nin0), ⟨u, f2.keep K (ninS hc nin0)⟩, l, f3.keep K (ninS hc nin0), xl.keep K, f4.keep K nb, f5.keep K nb, ⟨m, f6.keep K nb⟩, nl⟩
theorem own_sv2 {Z : State} {n0 : Nat} {D b p : Addr} {h h' : Heap} {m' : Int32} (K : Keep h h' [b, p]) (E : Exa Z h b "com/example/sealer/sealer/Promise") (Ep : Exa Z h p "java/util/ArrayList") (g : n0 ≤ b) (gp : n0 ≤ p) (q4 : Fld Z h' p "java/util/ArrayList" "size" "I" (.int 0)) (q5 : Fld Z h' p "java/util/ArrayList" "elementData" "[Ljava/lang/Object;" (.ref D)) (q6 : Fld Z h' p "java/util/AbstractList" "modCount" "I" (.int m')) : own_Sv Z n0 D b h h' := by
  have np : ∀ {c}, Exa Z h c "com/example/sealer/sealer/Promise" → c ≠ b → c ∉ [b, p] := fun x hc => ninS hc (ninS (x.ne Ep (by decide)) nin0)
  refine ⟨K.1, fun a c la q => K.2.1 a c q (ninS (Nat.ne_of_lt (Nat.lt_of_lt_of_le la g)) (ninS (Nat.ne_of_lt (Nat.lt_of_lt_of_le la gp)) nin0)), fun a C q => q.keep K, fun c hc U => ?_, fun c w hc d => ⟨d.1.keep K, d.2.1.keep K (np d.1 hc), d.2.2.keep K (np d.1 hc)⟩⟩
  obtain ⟨n1, x, f1, ⟨u, f2⟩, l, f3, xl, f4, f5, ⟨m, f6⟩, nl⟩ := U
  refine ⟨n1, x.keep K, f1.keep K (np x hc), ⟨u, f2.keep K (np x hc)⟩, l, f3.keep K (np x hc), xl.keep K, ?_⟩
  by_cases q : l = p
  · subst q; exact ⟨q4, q5, ⟨m', q6⟩, nl⟩
  · have nb : l ∉ [b, p] := ninS (xl.ne E (by decide)) (ninS q nin0)
    exact ⟨f4.keep K nb, f5.keep K nb, ⟨m, f6.keep K nb⟩, nl⟩
theorem own_unE {Z : State} {n0 : Nat} {D b : Addr} {h h' : Heap} (U : own_Un Z h n0 D b) (E : Ext h h') : own_Un Z h' n0 D b := by
  obtain ⟨n1, x, f1, ⟨u, f2⟩, l, f3, xl, f4, f5, ⟨m, f6⟩, nl⟩ := U
  exact ⟨n1, x.ext E, f1.ext E, ⟨u, f2.ext E⟩, l, f3.ext E, xl.ext E, f4.ext E, f5.ext E, ⟨m, f6.ext E⟩, nl⟩
theorem own_unL {Z : State} {n0 : Nat} {D b : Addr} {h : Heap} (U : own_Un Z h n0 D b) : b < h.size := U.2.1.lt
theorem own_leafS {Z : State} {n0 : Nat} {D b : Addr} {h h' : Heap} {v : Value} (S : own_Sv Z n0 D b h h') (hv : v ≠ .ref b) (L : own_Leaf Z h n0 D v) : own_Leaf Z h' n0 D v := by
  rcases L with rfl | ⟨a, C, rfl, E, N⟩ | ⟨a, rfl, U⟩
  · exact Or.inl rfl
  · exact Or.inr (Or.inl ⟨a, C, rfl, S.2.2.1 _ _ E, N⟩)
  · exact Or.inr (Or.inr ⟨a, rfl, S.2.2.2.1 _ (fun q => hv (congrArg Value.ref q)) U⟩)
theorem own_arfS {Z : State} {n0 n : Nat} {D b a : Addr} {h h' : Heap} {k : ClassId} {ty : FieldType} {f : Nat → Value} (S : own_Sv Z n0 D b h h') (la : a < n0) (A : Arf Z h a k ty n f) : Arf Z h' a k ty n f := by
  obtain ⟨c, A, r⟩ := A; exact ⟨c, ⟨S.2.1 _ _ la A.1, A.2⟩, r⟩
theorem own_k0 {h h' : Heap} (K : Keep h h' []) : Ext h h' := ⟨K.1, fun a c q => K.2.1 a c q nin0⟩
theorem own_extk {h h1 h2 : Heap} {ws : List Addr} (E : Ext h h1) (K : Keep h1 h2 ws) (q : ∀ x ∈ ws, h.size ≤ x) : Ext h h2 :=
  ⟨Nat.le_trans E.1 K.1, fun a c e => K.2.1 a c (E.2 a c e) fun z => Nat.not_lt.mpr (q a z) (Array.getElem?_eq_some_iff.mp e).1⟩
theorem own_extT {h h1 h2 : Heap} (E : Ext h h1) (F : Ext h1 h2) : Ext h h2 := ⟨Nat.le_trans E.1 F.1, fun a c e => F.2 a c (E.2 a c e)⟩
theorem own_extR (h : Heap) : Ext h h := ⟨Nat.le_refl _, fun _ _ q => q⟩
theorem own_stak {Z : State} {h h' : Heap} {C n d C' : String} {v : Value} {a : Addr} (F : Sta Z h C n d v) (K : Keep h h' [a]) (E : Exa Z h a C') : Sta Z h' C n d v := by
  obtain ⟨cf, i, k, f, st, cell, h1, h2, h3, h4, h5, h6, h7⟩ := F
  obtain ⟨cell', k', e1, -, -, e4, -⟩ := E
  refine ⟨cf, i, k, f, st, cell, h1, h2, h3, h4, K.2.1 _ _ h5 (ninS (fun q => ?_) nin0), h6, h7⟩
  rw [q, e1] at h5
  cases h5
  rw [e4] at h6; cases h6
theorem own_nar {s : String} {v : Value} (hv : v.isRef = true) : narrow (.object s) v = v := by rcases ref_cases hv with rfl | ⟨_, rfl⟩ <;> rfl
theorem own_fit {s : String} {v : Value} (hv : v.isRef = true) : fits (.object s) v = true := by rcases ref_cases hv with rfl | ⟨_, rfl⟩ <;> rfl
theorem own_ci (v : Int32) (h1 : ¬ v < (-128 : Int32)) (h2 : ¬ (127 : Int32) < v) : ∃ i : Nat, (v + (128 : Int32)).toInt = i ∧ i < 256 := by
  rw [Int32.lt_iff_toInt_lt] at h1 h2
  have e1 : (-128 : Int32).toInt = -128 := by decide
  have e2 : (127 : Int32).toInt = 127 := by decide
  have e3 : (128 : Int32).toInt = 128 := by decide
  have a := c_iadd v 128
  have r := rng32 (v + 128)
  refine ⟨(v + (128 : Int32)).toInt.toNat, ?_, ?_⟩ <;> omega
theorem own_ch (a : Int32) : ¬ (255 : Int32) < nar .char ((a &&& (255 : Int32)).toUInt32.toUInt16.toUInt32.toInt32) := by
  have h := c_and a 255 (by decide)
  have e : (255 : Int32).toInt = 255 := by decide
  have i1 := c_i2c (a &&& 255)
  have i2 := c_i2c (a &&& 255).toUInt32.toUInt16.toUInt32.toInt32
  show ¬ (255 : Int32) < ((a &&& (255 : Int32)).toUInt32.toUInt16.toUInt32.toInt32).toUInt32.toUInt16.toUInt32.toInt32
  rw [Int32.lt_iff_toInt_lt]
  omega
theorem own_k3 (x : Int32) : (x &&& (3 : Int32)) = 0 ∨ (x &&& (3 : Int32)) = 1 ∨ (x &&& (3 : Int32)) = 2 ∨ (x &&& (3 : Int32)) = 3 := by
  have h := c_and x 3 (by decide)
  have e : (3 : Int32).toInt = 3 := by decide
  have k : (x &&& (3 : Int32)).toInt = 0 ∨ (x &&& (3 : Int32)).toInt = 1 ∨ (x &&& (3 : Int32)).toInt = 2 ∨ (x &&& (3 : Int32)).toInt = 3 := by omega
  exact k.imp (fun q => Int32.toInt_inj.mp q) (Or.imp (fun q => Int32.toInt_inj.mp q) (Or.imp (fun q => Int32.toInt_inj.mp q) (fun q => Int32.toInt_inj.mp q)))
theorem dabc_0 : decode jdk_22_method_1_code 0 = .ok (.aload_n 0, 1) := by decide +kernel
theorem dabc_1 : decode jdk_22_method_1_code 1 = .ok (.invokespecial 1, 3) := by decide +kernel
theorem dabc_4 : decode jdk_22_method_1_code 4 = .ok (.return_, 1) := by decide +kernel
theorem pl_abc : plainFor (⟨"java/util/AbstractCollection", "<init>", "()V"⟩ : MethodName) = true := plainFor_of_name (by first | (simp [plainName, overriddenIn]; done) | decide +kernel)
theorem ef_abc (mm : MethodId) (l1 : Addr) : entryFrame mm #[(.ref l1)] 1 = mkF mm 0 #[.val (.ref l1)] [] := by first | (simp [entryFrame, mkF, argsToLocals, Value.category]; done) | rfl
set_option maxRecDepth 65536 in
set_option maxHeartbeats 40000000 in
theorem rmabc (l : Launch) (Z : State) (a0 : Array Value) (hw : ∀ d ∈ tables_1, d.before a0 Z = true) (l1 : Addr) (h0 : Heap) (n0 : Nat)  :
    Con l (⟨"java/util/AbstractCollection", "<init>", "()V"⟩ : MethodName) jdk_22_method_1_code 1 none ({ frames := 1, cells := 0, slots := 0, locals := 12 } : Room) Z #[(.ref l1)] h0 n0 (fun o h => o = none ∧ h0 = h) := by
  refine Con.enter pl_abc (fun mm => ef_abc mm l1) ?_
  intro K O C H
  replace H := k_aloadN C H dabc_0 rfl rfl (pc' := 1) rfl
  replace H := k_initObj C H (hw _ (List.mem_of_getElem? (i := 27) rfl)) (hw _ (List.mem_of_getElem? (i := 7) rfl)) (hw _ (List.mem_of_getElem? (i := 8) rfl)) dabc_1 rfl (by decide) 0 rfl (by decide) (pc' := 4) rfl
  exact k_retV C H dabc_4 (by decide) (by decide) ⟨rfl, rfl⟩
theorem dabl_0 : decode jdk_39_method_1_code 0 = .ok (.aload_n 0, 1) := by decide +kernel
theorem dabl_1 : decode jdk_39_method_1_code 1 = .ok (.invokespecial 1, 3) := by decide +kernel
theorem dabl_4 : decode jdk_39_method_1_code 4 = .ok (.aload_n 0, 1) := by decide +kernel
theorem dabl_5 : decode jdk_39_method_1_code 5 = .ok (.iconst 0, 1) := by decide +kernel
theorem dabl_6 : decode jdk_39_method_1_code 6 = .ok (.putfield 7, 3) := by decide +kernel
theorem dabl_9 : decode jdk_39_method_1_code 9 = .ok (.return_, 1) := by decide +kernel
theorem pdabl_0 : parseMethodDescriptor "()V" = some ⟨[], none⟩ := by decide +kernel
theorem pl_abl : plainFor (⟨"java/util/AbstractList", "<init>", "()V"⟩ : MethodName) = true := plainFor_of_name (by first | (simp [plainName, overriddenIn]; done) | decide +kernel)
theorem ef_abl (mm : MethodId) (l1 : Addr) : entryFrame mm #[(.ref l1)] 1 = mkF mm 0 #[.val (.ref l1)] [] := by first | (simp [entryFrame, mkF, argsToLocals, Value.category]; done) | rfl
set_option maxRecDepth 65536 in
set_option maxHeartbeats 40000000 in
theorem rmabl (l : Launch) (Z : State) (a0 : Array Value) (hw : ∀ d ∈ tables_1, d.before a0 Z = true) (l1 : Addr) (h0 : Heap) (n0 : Nat) (X_l1 : Exa Z h0 l1 "java/util/ArrayList") (F_l1_size : Fld Z h0 l1 "java/util/ArrayList" "size" "I" (.int (0 : Int32))) (F_l1_elementData : Fld Z h0 l1 "java/util/ArrayList" "elementData" "[Ljava/lang/Object;" .null) (F_l1_modCount : Fld Z h0 l1 "java/util/AbstractList" "modCount" "I" (.int (0 : Int32))) (n_l1 : n0 ≤ l1) :
    Con l (⟨"java/util/AbstractList", "<init>", "()V"⟩ : MethodName) jdk_39_method_1_code 1 none ({ frames := 2, cells := 0, slots := 0, locals := 24 } : Room) Z #[(.ref l1)] h0 n0 (fun o h => o = none ∧ Keep h0 h [l1] ∧ Fld Z h l1 "java/util/ArrayList" "size" "I" (.int (0 : Int32)) ∧ Fld Z h l1 "java/util/ArrayList" "elementData" "[Ljava/lang/Object;" .null ∧ Fld Z h l1 "java/util/AbstractList" "modCount" "I" (.int (0 : Int32))) := by
  refine Con.enter pl_abl (fun mm => ef_abl mm l1) ?_
  intro K O C H
  have KK : Keep h0 h0 [l1] := Keep.refl h0 _
  replace H := k_aloadN C H dabl_0 rfl rfl (pc' := 1) rfl
  replace H := k_callCon C H (rmabc l Z a0 hw l1 h0 n0) rfl (hw _ (List.mem_of_getElem? (i := 21) rfl)) (hw _ (List.mem_of_getElem? (i := 22) rfl)) (hw _ (List.mem_of_getElem? (i := 25) rfl)) (hw _ (List.mem_of_getElem? (i := 26) rfl)) (by decide) dabl_1 rfl l1 [] [] pdabl_0 rfl rfl rfl 0 rfl (by decide) (by decide) (by decide) (by decide) (pc' := 4) rfl
  obtain ⟨_, _, ⟨rfl, rfl⟩, H⟩ := H
  replace H : K 4 #[.val (.ref l1)] [] h0 0 0 := H
  replace H := k_aloadN C H dabl_4 rfl rfl (pc' := 5) rfl
  replace H := k_iconst C H (v := 0) dabl_5 rfl (pc' := 6) rfl
  replace H := k_putFld C H (hw _ (List.mem_of_getElem? (i := 28) rfl)) F_l1_modCount X_l1 (Or.inl (hw _ (List.mem_of_getElem? (i := 29) rfl))) (hw _ (List.mem_of_getElem? (i := 10) rfl)) (ty := .int) (by decide) (v' := (.int (0 : Int32))) rfl rfl n_l1 dabl_6 (pc' := 9) rfl
  obtain ⟨j1, W_j1, H⟩ := H
  replace X_l1 := X_l1.wr W_j1
  replace F_l1_size := F_l1_size.other W_j1 (Or.inr (slot_ne (Or.inl (hw _ (List.mem_of_getElem? (i := 95) rfl))) (Or.inl (hw _ (List.mem_of_getElem? (i := 29) rfl))) (by decide) (t := .int) (t' := .int) (by decide) (by decide)))
  replace F_l1_elementData := F_l1_elementData.other W_j1 (Or.inr (slot_ne (Or.inl (hw _ (List.mem_of_getElem? (i := 32) rfl))) (Or.inl (hw _ (List.mem_of_getElem? (i := 29) rfl))) (by decide) (t := (.array (.object "java/lang/Object"))) (t' := .int) (by decide) (by decide)))
  replace F_l1_modCount := F_l1_modCount.same W_j1
  replace KK := KK.wr W_j1 (Or.inl (List.mem_of_getElem? (i := 0) rfl))
  exact k_retV C H dabl_9 (by decide) (by decide) ⟨rfl, KK, F_l1_size, F_l1_elementData, F_l1_modCount⟩
theorem dali_0 : decode jdk_38_method_2_code 0 = .ok (.aload_n 0, 1) := by decide +kernel
theorem dali_1 : decode jdk_38_method_2_code 1 = .ok (.invokespecial 1, 3) := by decide +kernel
theorem dali_4 : decode jdk_38_method_2_code 4 = .ok (.aload_n 0, 1) := by decide +kernel
theorem dali_5 : decode jdk_38_method_2_code 5 = .ok (.getstatic 39, 3) := by decide +kernel
theorem dali_8 : decode jdk_38_method_2_code 8 = .ok (.putfield 9, 3) := by decide +kernel
theorem dali_11 : decode jdk_38_method_2_code 11 = .ok (.return_, 1) := by decide +kernel
theorem pdali_0 : parseMethodDescriptor "()V" = some ⟨[], none⟩ := by decide +kernel
theorem pl_ali : plainFor (⟨"java/util/ArrayList", "<init>", "()V"⟩ : MethodName) = true := plainFor_of_name (by first | (simp [plainName, overriddenIn]; done) | decide +kernel)
theorem ef_ali (mm : MethodId) (l1 : Addr) : entryFrame mm #[(.ref l1)] 1 = mkF mm 0 #[.val (.ref l1)] [] := by first | (simp [entryFrame, mkF, argsToLocals, Value.category]; done) | rfl
set_option maxRecDepth 65536 in
set_option maxHeartbeats 40000000 in
theorem rmali (l : Launch) (Z : State) (a0 : Array Value) (hw : ∀ d ∈ tables_1, d.before a0 Z = true) (l1 : Addr) (h0 : Heap) (n0 : Nat) (D : Addr) (S_D : Sta Z h0 "java/util/ArrayList" "DEFAULTCAPACITY_EMPTY_ELEMENTDATA" "[Ljava/lang/Object;" (.ref D)) (X_l1 : Exa Z h0 l1 "java/util/ArrayList") (F_l1_size : Fld Z h0 l1 "java/util/ArrayList" "size" "I" (.int (0 : Int32))) (F_l1_elementData : Fld Z h0 l1 "java/util/ArrayList" "elementData" "[Ljava/lang/Object;" .null) (F_l1_modCount : Fld Z h0 l1 "java/util/AbstractList" "modCount" "I" (.int (0 : Int32))) (n_l1 : n0 ≤ l1) :
    Con l (⟨"java/util/ArrayList", "<init>", "()V"⟩ : MethodName) jdk_38_method_2_code 1 none ({ frames := 3, cells := 0, slots := 0, locals := 36 } : Room) Z #[(.ref l1)] h0 n0 (fun o h => o = none ∧ Keep h0 h [l1] ∧ Fld Z h l1 "java/util/ArrayList" "size" "I" (.int (0 : Int32)) ∧ Fld Z h l1 "java/util/ArrayList" "elementData" "[Ljava/lang/Object;" (.ref D) ∧ Fld Z h l1 "java/util/AbstractList" "modCount" "I" (.int (0 : Int32))) := by
  refine Con.enter pl_ali (fun mm => ef_ali mm l1) ?_
  intro K O C H
  have KK : Keep h0 h0 [l1] := Keep.refl h0 _
  replace H := k_aloadN C H dali_0 rfl rfl (pc' := 1) rfl
  have X_l0 := X_l1
  replace H := k_callCon C H (rmabl l Z a0 hw l1 h0 n0 X_l1 F_l1_size F_l1_elementData F_l1_modCount n_l1) rfl (hw _ (List.mem_of_getElem? (i := 15) rfl)) (hw _ (List.mem_of_getElem? (i := 16) rfl)) (hw _ (List.mem_of_getElem? (i := 19) rfl)) (hw _ (List.mem_of_getElem? (i := 20) rfl)) (by decide) dali_1 rfl l1 [] [] pdali_0 rfl rfl rfl 0 rfl (by decide) (by decide) (by decide) (by decide) (pc' := 4) rfl
  obtain ⟨_, j2, ⟨rfl, K_j2, F_l1_size', F_l1_elementData', F_l1_modCount'⟩, H⟩ := H
  replace H : K 4 #[.val (.ref l1)] [] j2 0 0 := H
  replace X_l1 := X_l1.keep K_j2
  replace KK := KK.trans K_j2 (allS (Or.inl (List.mem_of_getElem? (i := 0) rfl)) all0)
  replace F_l1_size := F_l1_size'
  clear F_l1_size'
  replace F_l1_elementData := F_l1_elementData'
  clear F_l1_elementData'
  replace F_l1_modCount := F_l1_modCount'
  clear F_l1_modCount'
  replace S_D := own_stak S_D K_j2 X_l0
  replace H := k_aloadN C H dali_4 rfl rfl (pc' := 5) rfl
  replace H := k_getSta C H (hw _ (List.mem_of_getElem? (i := 30) rfl)) S_D dali_5 (pc' := 8) rfl
  replace H := k_putFld C H (hw _ (List.mem_of_getElem? (i := 31) rfl)) F_l1_elementData X_l1 (Or.inl (hw _ (List.mem_of_getElem? (i := 32) rfl))) (hw _ (List.mem_of_getElem? (i := 10) rfl)) (ty := (.array (.object "java/lang/Object"))) (by decide) (v' := (.ref D)) rfl rfl n_l1 dali_8 (pc' := 11) rfl
  obtain ⟨j3, W_j3, H⟩ := H
  replace X_l1 := X_l1.wr W_j3
  replace F_l1_size := F_l1_size.other W_j3 (Or.inr (slot_ne (Or.inl (hw _ (List.mem_of_getElem? (i := 95) rfl))) (Or.inl (hw _ (List.mem_of_getElem? (i := 32) rfl))) (by decide) (t := .int) (t' := (.array (.object "java/lang/Object"))) (by decide) (by decide)))
  replace F_l1_elementData := F_l1_elementData.same W_j3
  replace F_l1_modCount := F_l1_modCount.other W_j3 (Or.inr (slot_ne (Or.inl (hw _ (List.mem_of_getElem? (i := 29) rfl))) (Or.inl (hw _ (List.mem_of_getElem? (i := 32) rfl))) (by decide) (t := .int) (t' := (.array (.object "java/lang/Object"))) (by decide) (by decide)))
  replace KK := KK.wr W_j3 (Or.inl (List.mem_of_getElem? (i := 0) rfl))
  exact k_retV C H dali_11 (by decide) (by decide) ⟨rfl, KK, F_l1_size, F_l1_elementData, F_l1_modCount⟩
theorem dpri_0 : decode prog_29_method_1_code 0 = .ok (.aload_n 0, 1) := by decide +kernel
theorem dpri_1 : decode prog_29_method_1_code 1 = .ok (.invokespecial 1, 3) := by decide +kernel
theorem dpri_4 : decode prog_29_method_1_code 4 = .ok (.aload_n 0, 1) := by decide +kernel
theorem dpri_5 : decode prog_29_method_1_code 5 = .ok (.new 7, 3) := by decide +kernel
theorem dpri_8 : decode prog_29_method_1_code 8 = .ok (.dup, 1) := by decide +kernel
theorem dpri_9 : decode prog_29_method_1_code 9 = .ok (.invokespecial 9, 3) := by decide +kernel
theorem dpri_12 : decode prog_29_method_1_code 12 = .ok (.putfield 10, 3) := by decide +kernel
theorem dpri_15 : decode prog_29_method_1_code 15 = .ok (.return_, 1) := by decide +kernel
theorem pdpri_0 : parseMethodDescriptor "()V" = some ⟨[], none⟩ := by decide +kernel
theorem pl_pri : plainFor (⟨"com/example/sealer/sealer/Promise", "<init>", "()V"⟩ : MethodName) = true := plainFor_of_name (by first | (simp [plainName, overriddenIn]; done) | decide +kernel)
theorem ef_pri (mm : MethodId) (b1 : Addr) : entryFrame mm #[(.ref b1)] 1 = mkF mm 0 #[.val (.ref b1)] [] := by first | (simp [entryFrame, mkF, argsToLocals, Value.category]; done) | rfl
set_option maxRecDepth 65536 in
set_option maxHeartbeats 40000000 in
theorem rmpri (l : Launch) (Z : State) (a0 : Array Value) (hw : ∀ d ∈ tables_1, d.before a0 Z = true) (b1 : Addr) (h0 : Heap) (n0 : Nat) (D : Addr) (Z0 : n0 ≤ h0.size) (S_D : Sta Z h0 "java/util/ArrayList" "DEFAULTCAPACITY_EMPTY_ELEMENTDATA" "[Ljava/lang/Object;" (.ref D)) (X_b1 : Exa Z h0 b1 "com/example/sealer/sealer/Promise") (F_b1_value : Fld Z h0 b1 "com/example/sealer/sealer/Promise" "value" "Ljava/lang/Object;" .null) (F_b1_resolved : Fld Z h0 b1 "com/example/sealer/sealer/Promise" "resolved" "Z" (.int (0 : Int32))) (F_b1_steps : Fld Z h0 b1 "com/example/sealer/sealer/Promise" "steps" "Ljava/util/List;" .null) (n_b1 : n0 ≤ b1) :
    Con l (⟨"com/example/sealer/sealer/Promise", "<init>", "()V"⟩ : MethodName) prog_29_method_1_code 1 none ({ frames := 4, cells := 1, slots := 3, locals := 50 } : Room) Z #[(.ref b1)] h0 n0 (fun o h => o = none ∧ Keep h0 h [b1] ∧ own_Un Z h n0 D b1) := by
  refine Con.enter pl_pri (fun mm => ef_pri mm b1) ?_
  intro K O C H
  have KK : Keep h0 h0 [b1] := Keep.refl h0 _
  replace H := k_aloadN C H dpri_0 rfl rfl (pc' := 1) rfl
  replace H := k_initObj C H (hw _ (List.mem_of_getElem? (i := 6) rfl)) (hw _ (List.mem_of_getElem? (i := 7) rfl)) (hw _ (List.mem_of_getElem? (i := 8) rfl)) dpri_1 rfl (by decide) 0 rfl (by decide) (pc' := 4) rfl
  replace H := k_aloadN C H dpri_4 rfl rfl (pc' := 5) rfl
  replace H := k_newObj C H (hw _ (List.mem_of_getElem? (i := 9) rfl)) (hw _ (List.mem_of_getElem? (i := 10) rfl)) (hw _ (List.mem_of_getElem? (i := 11) rfl)) dpri_5 (by decide) (by decide) (pc' := 8) rfl
  obtain ⟨h_l1, l1, g_l1, E_l1, X_l1, D_l1, H⟩ := H
  replace H : K 8 #[.val (.ref b1)] [(.ref l1), (.ref b1)] h_l1 1 3 := H
  have ne_b1_l1 : b1 ≠ l1 := Nat.ne_of_lt (Nat.lt_of_lt_of_le X_b1.lt (Nat.le_of_eq g_l1.symm))
  have n_l1 : n0 ≤ l1 := Nat.le_trans Z0 (Nat.le_of_eq g_l1.symm)
  have s_l1 : h0.size ≤ l1 := Nat.le_trans KK.1 (Nat.le_of_eq g_l1.symm)
  replace X_b1 := X_b1.ext E_l1
  replace F_b1_value := F_b1_value.ext E_l1
  replace F_b1_resolved := F_b1_resolved.ext E_l1
  replace F_b1_steps := F_b1_steps.ext E_l1
  replace KK := KK.ext E_l1
  have Z_h_l1 : n0 ≤ h_l1.size := Nat.le_trans Z0 E_l1.1
  have F_l1_size : Fld Z h_l1 l1 "java/util/ArrayList" "size" "I" (.int (0 : Int32)) := D_l1 (Or.inl (hw _ (List.mem_of_getElem? (i := 95) rfl))) (ty := .int) (by decide)
  have F_l1_elementData : Fld Z h_l1 l1 "java/util/ArrayList" "elementData" "[Ljava/lang/Object;" .null := D_l1 (Or.inl (hw _ (List.mem_of_getElem? (i := 32) rfl))) (ty := (.array (.object "java/lang/Object"))) (by decide)
  have F_l1_modCount : Fld Z h_l1 l1 "java/util/AbstractList" "modCount" "I" (.int (0 : Int32)) := D_l1 (Or.inl (hw _ (List.mem_of_getElem? (i := 29) rfl))) (ty := .int) (by decide)
  replace H := k_dup C H dpri_8 rfl (pc' := 9) rfl
  replace S_D := S_D.ext E_l1
  replace H := k_callCon C H (rmali l Z a0 hw l1 h_l1 n0 D S_D X_l1 F_l1_size F_l1_elementData F_l1_modCount n_l1) rfl (hw _ (List.mem_of_getElem? (i := 12) rfl)) (hw _ (List.mem_of_getElem? (i := 13) rfl)) (hw _ (List.mem_of_getElem? (i := 11) rfl)) (hw _ (List.mem_of_getElem? (i := 14) rfl)) (by decide) dpri_9 rfl l1 [] [(.ref l1), (.ref b1)] pdpri_0 rfl rfl rfl 2 rfl (by decide) (by decide) (by decide) (by decide) (pc' := 12) rfl
  obtain ⟨_, j4, ⟨rfl, K_j4, F_l1_size', F_l1_elementData', F_l1_modCount'⟩, H⟩ := H
  replace H : K 12 #[.val (.ref b1)] [(.ref l1), (.ref b1)] j4 1 3 := H
  replace X_b1 := X_b1.keep K_j4
  replace F_b1_value := F_b1_value.keep K_j4 (ninS ne_b1_l1 nin0)
  replace F_b1_resolved := F_b1_resolved.keep K_j4 (ninS ne_b1_l1 nin0)
  replace F_b1_steps := F_b1_steps.keep K_j4 (ninS ne_b1_l1 nin0)
  replace X_l1 := X_l1.keep K_j4
  replace KK := KK.trans K_j4 (allS (Or.inr s_l1) all0)
  have Z_j4 : n0 ≤ j4.size := Nat.le_trans Z_h_l1 K_j4.1
  replace F_l1_size := F_l1_size'
  clear F_l1_size'
  replace F_l1_elementData := F_l1_elementData'
  clear F_l1_elementData'
  replace F_l1_modCount := F_l1_modCount'
  clear F_l1_modCount'
  replace H := k_putFld C H (hw _ (List.mem_of_getElem? (i := 33) rfl)) F_b1_steps X_b1 (Or.inl (hw _ (List.mem_of_getElem? (i := 34) rfl))) (hw _ (List.mem_of_getElem? (i := 1) rfl)) (ty := (.object "java/util/List")) (by decide) (v' := (.ref l1)) rfl rfl n_b1 dpri_12 (pc' := 15) rfl
  obtain ⟨j5, W_j5, H⟩ := H
  replace X_b1 := X_b1.wr W_j5
  replace F_b1_value := F_b1_value.other W_j5 (Or.inr (slot_ne (Or.inl (hw _ (List.mem_of_getElem? (i := 55) rfl))) (Or.inl (hw _ (List.mem_of_getElem? (i := 34) rfl))) (by decide) (t := (.object "java/lang/Object")) (t' := (.object "java/util/List")) (by decide) (by decide)))
  replace F_b1_resolved := F_b1_resolved.other W_j5 (Or.inr (slot_ne (Or.inl (hw _ (List.mem_of_getElem? (i := 57) rfl))) (Or.inl (hw _ (List.mem_of_getElem? (i := 34) rfl))) (by decide) (t := .boolean) (t' := (.object "java/util/List")) (by decide) (by decide)))
  replace F_b1_steps := F_b1_steps.same W_j5
  replace X_l1 := X_l1.wr W_j5
  replace F_l1_size := F_l1_size.other W_j5 (Or.inl (Ne.symm ne_b1_l1))
  replace F_l1_elementData := F_l1_elementData.other W_j5 (Or.inl (Ne.symm ne_b1_l1))
  replace F_l1_modCount := F_l1_modCount.other W_j5 (Or.inl (Ne.symm ne_b1_l1))
  replace KK := KK.wr W_j5 (Or.inl (List.mem_of_getElem? (i := 0) rfl))
  have Z_j5 : n0 ≤ j5.size := by rw [W_j5.size]; exact Z_j4
  exact k_retV C H dpri_15 (by decide) (by decide) ⟨rfl, KK, n_b1, X_b1, F_b1_resolved, ⟨_, F_b1_value⟩, l1, F_b1_steps, X_l1, F_l1_size, F_l1_elementData, ⟨_, F_l1_modCount⟩, n_l1⟩
theorem dnum_0 : decode jdk_18_method_1_code 0 = .ok (.aload_n 0, 1) := by decide +kernel
theorem dnum_1 : decode jdk_18_method_1_code 1 = .ok (.invokespecial 1, 3) := by decide +kernel
theorem dnum_4 : decode jdk_18_method_1_code 4 = .ok (.return_, 1) := by decide +kernel
theorem pl_num : plainFor (⟨"java/lang/Number", "<init>", "()V"⟩ : MethodName) = true := plainFor_of_name (by first | (simp [plainName, overriddenIn]; done) | decide +kernel)
theorem ef_num (mm : MethodId) (b1 : Addr) : entryFrame mm #[(.ref b1)] 1 = mkF mm 0 #[.val (.ref b1)] [] := by first | (simp [entryFrame, mkF, argsToLocals, Value.category]; done) | rfl
set_option maxRecDepth 65536 in
set_option maxHeartbeats 40000000 in
theorem rmnum (l : Launch) (Z : State) (a0 : Array Value) (hw : ∀ d ∈ tables_1, d.before a0 Z = true) (b1 : Addr) (h0 : Heap) (n0 : Nat)  :
    Con l (⟨"java/lang/Number", "<init>", "()V"⟩ : MethodName) jdk_18_method_1_code 1 none ({ frames := 1, cells := 0, slots := 0, locals := 12 } : Room) Z #[(.ref b1)] h0 n0 (fun o h => o = none ∧ h0 = h) := by
  refine Con.enter pl_num (fun mm => ef_num mm b1) ?_
  intro K O C H
  replace H := k_aloadN C H dnum_0 rfl rfl (pc' := 1) rfl
  replace H := k_initObj C H (hw _ (List.mem_of_getElem? (i := 110) rfl)) (hw _ (List.mem_of_getElem? (i := 7) rfl)) (hw _ (List.mem_of_getElem? (i := 8) rfl)) dnum_1 rfl (by decide) 0 rfl (by decide) (pc' := 4) rfl
  exact k_retV C H dnum_4 (by decide) (by decide) ⟨rfl, rfl⟩
theorem dint_0 : decode jdk_33_method_23_code 0 = .ok (.aload_n 0, 1) := by decide +kernel
theorem dint_1 : decode jdk_33_method_23_code 1 = .ok (.invokespecial 202, 3) := by decide +kernel
theorem dint_4 : decode jdk_33_method_23_code 4 = .ok (.aload_n 0, 1) := by decide +kernel
theorem dint_5 : decode jdk_33_method_23_code 5 = .ok (.iload_n 1, 1) := by decide +kernel
theorem dint_6 : decode jdk_33_method_23_code 6 = .ok (.putfield 205, 3) := by decide +kernel
theorem dint_9 : decode jdk_33_method_23_code 9 = .ok (.return_, 1) := by decide +kernel
theorem pdint_0 : parseMethodDescriptor "()V" = some ⟨[], none⟩ := by decide +kernel
theorem pl_int : plainFor (⟨"java/lang/Integer", "<init>", "(I)V"⟩ : MethodName) = true := plainFor_of_name (by first | (simp [plainName, overriddenIn]; done) | decide +kernel)
theorem ef_int (mm : MethodId) (b1 : Addr) (i1 : Int32) : entryFrame mm #[(.ref b1), (.int i1)] 2 = mkF mm 0 #[.val (.ref b1), .val (.int i1)] [] := by first | (simp [entryFrame, mkF, argsToLocals, Value.category]; done) | rfl
set_option maxRecDepth 65536 in
set_option maxHeartbeats 40000000 in
theorem rmint (l : Launch) (Z : State) (a0 : Array Value) (hw : ∀ d ∈ tables_1, d.before a0 Z = true) (b1 : Addr) (i1 : Int32) (h0 : Heap) (n0 : Nat) (u1 : Value) (X_b1 : Exa Z h0 b1 "java/lang/Integer") (F_b1_value : Fld Z h0 b1 "java/lang/Integer" "value" "I" u1) (n_b1 : n0 ≤ b1) :
    Con l (⟨"java/lang/Integer", "<init>", "(I)V"⟩ : MethodName) jdk_33_method_23_code 2 none ({ frames := 2, cells := 0, slots := 0, locals := 24 } : Room) Z #[(.ref b1), (.int i1)] h0 n0 (fun o h => o = none ∧ Keep h0 h [b1]) := by
  refine Con.enter pl_int (fun mm => ef_int mm b1 i1) ?_
  intro K O C H
  have KK : Keep h0 h0 [b1] := Keep.refl h0 _
  replace H := k_aloadN C H dint_0 rfl rfl (pc' := 1) rfl
  replace H := k_callCon C H (rmnum l Z a0 hw b1 h0 n0) rfl (hw _ (List.mem_of_getElem? (i := 104) rfl)) (hw _ (List.mem_of_getElem? (i := 105) rfl)) (hw _ (List.mem_of_getElem? (i := 108) rfl)) (hw _ (List.mem_of_getElem? (i := 109) rfl)) (by decide) dint_1 rfl b1 [] [] pdint_0 rfl rfl rfl 0 rfl (by decide) (by decide) (by decide) (by decide) (pc' := 4) rfl
  obtain ⟨_, _, ⟨rfl, rfl⟩, H⟩ := H
  replace H : K 4 #[.val (.ref b1), .val (.int i1)] [] h0 0 0 := H
  replace H := k_aloadN C H dint_4 rfl rfl (pc' := 5) rfl
  replace H := k_iloadN C H dint_5 rfl (pc' := 6) rfl
  replace H := k_putFld C H (hw _ (List.mem_of_getElem? (i := 111) rfl)) F_b1_value X_b1 (Or.inr ⟨(hw _ (List.mem_of_getElem? (i := 112) rfl)), rfl, rfl⟩) (hw _ (List.mem_of_getElem? (i := 99) rfl)) (ty := .int) (by decide) (v' := (.int i1)) rfl rfl n_b1 dint_6 (pc' := 9) rfl
  obtain ⟨j6, W_j6, H⟩ := H
  replace X_b1 := X_b1.wr W_j6
  replace F_b1_value := F_b1_value.same W_j6
  replace KK := KK.wr W_j6 (Or.inl (List.mem_of_getElem? (i := 0) rfl))
  exact k_retV C H dint_9 (by decide) (by decide) ⟨rfl, KK⟩
theorem dval_0 : decode jdk_33_method_22_code 0 = .ok (.iload_n 0, 1) := by decide +kernel
theorem dval_1 : decode jdk_33_method_22_code 1 = .ok (.bipush (-128), 2) := by decide +kernel
theorem dval_3 : decode jdk_33_method_22_code 3 = .ok (.if_icmp .lt 20, 3) := by decide +kernel
theorem dval_6 : decode jdk_33_method_22_code 6 = .ok (.iload_n 0, 1) := by decide +kernel
theorem dval_7 : decode jdk_33_method_22_code 7 = .ok (.getstatic 191, 3) := by decide +kernel
theorem dval_10 : decode jdk_33_method_22_code 10 = .ok (.if_icmp .gt 13, 3) := by decide +kernel
theorem dval_13 : decode jdk_33_method_22_code 13 = .ok (.getstatic 195, 3) := by decide +kernel
theorem dval_16 : decode jdk_33_method_22_code 16 = .ok (.iload_n 0, 1) := by decide +kernel
theorem dval_17 : decode jdk_33_method_22_code 17 = .ok (.sipush 128, 3) := by decide +kernel
theorem dval_20 : decode jdk_33_method_22_code 20 = .ok (.iadd, 1) := by decide +kernel
theorem dval_21 : decode jdk_33_method_22_code 21 = .ok (.aaload, 1) := by decide +kernel
theorem dval_22 : decode jdk_33_method_22_code 22 = .ok (.areturn, 1) := by decide +kernel
theorem dval_23 : decode jdk_33_method_22_code 23 = .ok (.new 1, 3) := by decide +kernel
theorem dval_26 : decode jdk_33_method_22_code 26 = .ok (.dup, 1) := by decide +kernel
theorem dval_27 : decode jdk_33_method_22_code 27 = .ok (.iload_n 0, 1) := by decide +kernel
theorem dval_28 : decode jdk_33_method_22_code 28 = .ok (.invokespecial 199, 3) := by decide +kernel
theorem dval_31 : decode jdk_33_method_22_code 31 = .ok (.areturn, 1) := by decide +kernel
theorem pdval_0 : parseMethodDescriptor "(I)V" = some ⟨[.int], none⟩ := by decide +kernel
theorem pl_val : plainFor (⟨"java/lang/Integer", "valueOf", "(I)Ljava/lang/Integer;"⟩ : MethodName) = true := plainFor_of_name (by first | (simp [plainName, overriddenIn]; done) | decide +kernel)
theorem ef_val (mm : MethodId) (i1 : Int32) : entryFrame mm #[(.int i1)] 1 = mkF mm 0 #[.val (.int i1)] [] := by first | (simp [entryFrame, mkF, argsToLocals, Value.category]; done) | rfl
set_option maxRecDepth 65536 in
set_option maxHeartbeats 40000000 in
theorem rmval (l : Launch) (Z : State) (a0 : Array Value) (hw : ∀ d ∈ tables_1, d.before a0 Z = true) (i1 : Int32) (h0 : Heap) (n0 : Nat) (aC : Addr) (kC : ClassId) (fC : Nat → Value) (Z0 : n0 ≤ h0.size) (S_H : Sta Z h0 "java/lang/Integer$IntegerCache" "high" "I" (.int (127 : Int32))) (S_C : Sta Z h0 "java/lang/Integer$IntegerCache" "cache" "[Ljava/lang/Integer;" (.ref aC)) (AC : Arf Z h0 aC kC (.object "java/lang/Integer") 256 fC) (BC : ∀ i, i < 256 → ∃ b : Addr, fC i = .ref b ∧ Exa Z h0 b "java/lang/Integer") :
    Con l (⟨"java/lang/Integer", "valueOf", "(I)Ljava/lang/Integer;"⟩ : MethodName) jdk_33_method_22_code 1 (some (.object "java/lang/Integer")) ({ frames := 3, cells := 1, slots := 1, locals := 38 } : Room) Z #[(.int i1)] h0 n0 (fun o h => ∃ b : Addr, o = some (.ref b) ∧ Keep h0 h [] ∧ Exa Z h b "java/lang/Integer") := by
  refine Con.enter pl_val (fun mm => ef_val mm i1) ?_
  intro K O C H
  replace H := k_iloadN C H dval_0 rfl (pc' := 1) rfl
  replace H := k_bipush C H (v := (-128)) dval_1 rfl (pc' := 3) rfl
  by_cases hc3 : i1 < ((-128) : Int32)
  · replace H := k_icmpY C H dval_3 (tlt hc3).1 (by decide) (pc' := 23) rfl
    have KK : Keep h0 h0 [] := Keep.refl h0 _
    replace H := k_newObj C H (hw _ (List.mem_of_getElem? (i := 98) rfl)) (hw _ (List.mem_of_getElem? (i := 99) rfl)) (hw _ (List.mem_of_getElem? (i := 37) rfl)) dval_23 (by decide) (by decide) (pc' := 26) rfl
    obtain ⟨h_b1, b1, g_b1, E_b1, X_b1, D_b1, H⟩ := H
    replace H : K 26 #[.val (.int i1)] [(.ref b1)] h_b1 1 1 := H
    have n_b1 : n0 ≤ b1 := Nat.le_trans Z0 (Nat.le_of_eq g_b1.symm)
    have s_b1 : h0.size ≤ b1 := Nat.le_trans KK.1 (Nat.le_of_eq g_b1.symm)
    replace KK := KK.ext E_b1
    have Z_h_b1 : n0 ≤ h_b1.size := Nat.le_trans Z0 E_b1.1
    have F_b1_value : Fld Z h_b1 b1 "java/lang/Integer" "value" "I" (.int (0 : Int32)) := D_b1 (Or.inr (hw _ (List.mem_of_getElem? (i := 112) rfl))) (ty := .int) (by decide)
    replace H := k_dup C H dval_26 rfl (pc' := 27) rfl
    replace H := k_iloadN C H dval_27 rfl (pc' := 28) rfl
    replace H := k_callCon C H (rmint l Z a0 hw b1 i1 h_b1 n0 _ X_b1 F_b1_value n_b1) rfl (hw _ (List.mem_of_getElem? (i := 100) rfl)) (hw _ (List.mem_of_getElem? (i := 101) rfl)) (hw _ (List.mem_of_getElem? (i := 37) rfl)) (hw _ (List.mem_of_getElem? (i := 103) rfl)) (by decide) dval_28 rfl b1 [(.int i1)] [(.ref b1)] pdval_0 rfl rfl rfl 1 rfl (by decide) (by decide) (by decide) (by decide) (pc' := 31) rfl
    obtain ⟨_, j7, ⟨rfl, K_j7⟩, H⟩ := H
    replace H : K 31 #[.val (.int i1)] [(.ref b1)] j7 1 1 := H
    replace X_b1 := X_b1.keep K_j7
    replace KK := KK.trans K_j7 (allS (Or.inr s_b1) all0)
    have Z_j7 : n0 ≤ j7.size := Nat.le_trans Z_h_b1 K_j7.1
    exact k_retA C H dval_31 rfl rfl (by decide) (by decide) ⟨b1, rfl, KK, X_b1⟩
  · replace H := k_icmpN C H dval_3 (flt hc3).1 (pc' := 6) rfl
    replace H := k_iloadN C H dval_6 rfl (pc' := 7) rfl
    replace H := k_getSta C H (hw _ (List.mem_of_getElem? (i := 39) rfl)) S_H dval_7 (pc' := 10) rfl
    by_cases hc10 : (127 : Int32) < i1
    · replace H := k_icmpY C H dval_10 (tlt hc10).2.2.1 (by decide) (pc' := 23) rfl
      have KK : Keep h0 h0 [] := Keep.refl h0 _
      replace H := k_newObj C H (hw _ (List.mem_of_getElem? (i := 98) rfl)) (hw _ (List.mem_of_getElem? (i := 99) rfl)) (hw _ (List.mem_of_getElem? (i := 37) rfl)) dval_23 (by decide) (by decide) (pc' := 26) rfl
      obtain ⟨h_b1, b1, g_b1, E_b1, X_b1, D_b1, H⟩ := H
      replace H : K 26 #[.val (.int i1)] [(.ref b1)] h_b1 1 1 := H
      have n_b1 : n0 ≤ b1 := Nat.le_trans Z0 (Nat.le_of_eq g_b1.symm)
      have s_b1 : h0.size ≤ b1 := Nat.le_trans KK.1 (Nat.le_of_eq g_b1.symm)
      replace KK := KK.ext E_b1
      have Z_h_b1 : n0 ≤ h_b1.size := Nat.le_trans Z0 E_b1.1
      have F_b1_value : Fld Z h_b1 b1 "java/lang/Integer" "value" "I" (.int (0 : Int32)) := D_b1 (Or.inr (hw _ (List.mem_of_getElem? (i := 112) rfl))) (ty := .int) (by decide)
      replace H := k_dup C H dval_26 rfl (pc' := 27) rfl
      replace H := k_iloadN C H dval_27 rfl (pc' := 28) rfl
      replace H := k_callCon C H (rmint l Z a0 hw b1 i1 h_b1 n0 _ X_b1 F_b1_value n_b1) rfl (hw _ (List.mem_of_getElem? (i := 100) rfl)) (hw _ (List.mem_of_getElem? (i := 101) rfl)) (hw _ (List.mem_of_getElem? (i := 37) rfl)) (hw _ (List.mem_of_getElem? (i := 103) rfl)) (by decide) dval_28 rfl b1 [(.int i1)] [(.ref b1)] pdval_0 rfl rfl rfl 1 rfl (by decide) (by decide) (by decide) (by decide) (pc' := 31) rfl
      obtain ⟨_, j8, ⟨rfl, K_j8⟩, H⟩ := H
      replace H : K 31 #[.val (.int i1)] [(.ref b1)] j8 1 1 := H
      replace X_b1 := X_b1.keep K_j8
      replace KK := KK.trans K_j8 (allS (Or.inr s_b1) all0)
      have Z_j8 : n0 ≤ j8.size := Nat.le_trans Z_h_b1 K_j8.1
      exact k_retA C H dval_31 rfl rfl (by decide) (by decide) ⟨b1, rfl, KK, X_b1⟩
    · replace H := k_icmpN C H dval_10 (flt hc10).2.2.1 (pc' := 13) rfl
      replace H := k_getSta C H (hw _ (List.mem_of_getElem? (i := 41) rfl)) S_C dval_13 (pc' := 16) rfl
      replace H := k_iloadN C H dval_16 rfl (pc' := 17) rfl
      replace H := k_sipush C H (v := 128) dval_17 rfl (pc' := 20) rfl
      replace H := k_iadd C H dval_20 (pc' := 21) rfl
      obtain ⟨i, ei, li⟩ := own_ci i1 hc3 hc10
      obtain ⟨bx, eb, X_bx⟩ := BC i li
      replace H := k_aaload C H AC rfl (i := i) ei li (v := .ref bx) eb dval_21 (pc' := 22) rfl
      exact k_retA C H dval_22 rfl rfl (by decide) (by decide) ⟨bx, rfl, Keep.refl _ _, X_bx⟩
theorem dcm5_0 : decode jdk_52_method_21_code 0 = .ok (.iconst 0, 1) := by decide +kernel
theorem dcm5_1 : decode jdk_52_method_21_code 1 = .ok (.istore 5, 2) := by decide +kernel
theorem dcm5_3 : decode jdk_52_method_21_code 3 = .ok (.iload 5, 2) := by decide +kernel
theorem dcm5_5 : decode jdk_52_method_21_code 5 = .ok (.iload 4, 2) := by decide +kernel
theorem dcm5_7 : decode jdk_52_method_21_code 7 = .ok (.if_icmp .ge 37, 3) := by decide +kernel
theorem dcm5_10 : decode jdk_52_method_21_code 10 = .ok (.aload_n 0, 1) := by decide +kernel
theorem dcm5_11 : decode jdk_52_method_21_code 11 = .ok (.iload_n 1, 1) := by decide +kernel
theorem dcm5_12 : decode jdk_52_method_21_code 12 = .ok (.caload, 1) := by decide +kernel
theorem dcm5_13 : decode jdk_52_method_21_code 13 = .ok (.istore 6, 2) := by decide +kernel
theorem dcm5_15 : decode jdk_52_method_21_code 15 = .ok (.iload 6, 2) := by decide +kernel
theorem dcm5_17 : decode jdk_52_method_21_code 17 = .ok (.sipush 255, 3) := by decide +kernel
theorem dcm5_20 : decode jdk_52_method_21_code 20 = .ok (.if_icmp .le 6, 3) := by decide +kernel
theorem dcm5_26 : decode jdk_52_method_21_code 26 = .ok (.aload_n 2, 1) := by decide +kernel
theorem dcm5_27 : decode jdk_52_method_21_code 27 = .ok (.iload_n 3, 1) := by decide +kernel
theorem dcm5_28 : decode jdk_52_method_21_code 28 = .ok (.iload 6, 2) := by decide +kernel
theorem dcm5_30 : decode jdk_52_method_21_code 30 = .ok (.i2b, 1) := by decide +kernel
theorem dcm5_31 : decode jdk_52_method_21_code 31 = .ok (.bastore, 1) := by decide +kernel
theorem dcm5_32 : decode jdk_52_method_21_code 32 = .ok (.iinc 1 1, 3) := by decide +kernel
theorem dcm5_35 : decode jdk_52_method_21_code 35 = .ok (.iinc 3 1, 3) := by decide +kernel
theorem dcm5_38 : decode jdk_52_method_21_code 38 = .ok (.iinc 5 1, 3) := by decide +kernel
theorem dcm5_41 : decode jdk_52_method_21_code 41 = .ok (.goto (-38), 3) := by decide +kernel
theorem dcm5_44 : decode jdk_52_method_21_code 44 = .ok (.iload 4, 2) := by decide +kernel
theorem dcm5_46 : decode jdk_52_method_21_code 46 = .ok (.ireturn, 1) := by decide +kernel
theorem pl_cm5 : plainFor (⟨"java/lang/StringUTF16", "compress", "([CI[BII)I"⟩ : MethodName) = true := plainFor_of_name (by first | (simp [plainName, overriddenIn]; done) | decide +kernel)
theorem ef_cm5 (mm : MethodId) (c : Addr) (p1 : Int32) (t : Addr) (p3 : Int32) (p4 : Int32) : entryFrame mm #[(.ref c), (.int p1), (.ref t), (.int p3), (.int p4)] 7 = mkF mm 0 #[.val (.ref c), .val (.int p1), .val (.ref t), .val (.int p3), .val (.int p4), .unset, .unset] [] := by first | (simp [entryFrame, mkF, argsToLocals, Value.category]; done) | rfl
set_option maxRecDepth 65536 in
set_option maxHeartbeats 40000000 in
theorem rmcm5 (l : Launch) (Z : State) (a0 : Array Value) (hw : ∀ d ∈ tables_1, d.before a0 Z = true) (c : Addr) (p1 : Int32) (t : Addr) (p3 : Int32) (p4 : Int32) (h0 : Heap) (n0 : Nat) (q1 : p1 = (0 : Int32)) (q3 : p3 = (0 : Int32)) (q4 : p4 = (1 : Int32)) (f : Nat → Int32) (A_c : Ari Z h0 c .char 1 f) (hch : ¬ (255 : Int32) < f 0) (g : Nat → Int32) (V_t : Ari Z h0 t .byte 1 g) (n_t : n0 ≤ t) :
    Con l (⟨"java/lang/StringUTF16", "compress", "([CI[BII)I"⟩ : MethodName) jdk_52_method_21_code 7 (some .int) ({ frames := 0, cells := 0, slots := 0, locals := 0 } : Room) Z #[(.ref c), (.int p1), (.ref t), (.int p3), (.int p4)] h0 n0 (fun o h => o = some (.int (1 : Int32)) ∧ Keep h0 h [t] ∧ ∃ g, Ari Z h t .byte 1 g) := by
  refine Con.enter pl_cm5 (fun mm => ef_cm5 mm c p1 t p3 p4) ?_
  intro K O C H
  subst q1 q3 q4
  replace H : K 0 #[.val (.ref c), .val (.int (0 : Int32)), .val (.ref t), .val (.int (0 : Int32)), .val (.int (1 : Int32)), .unset, .unset] [] h0 0 0 := H
  have KK : Keep h0 h0 [t] := Keep.refl h0 _
  replace H := k_iconst C H (v := 0) dcm5_0 rfl (pc' := 1) rfl
  replace H := k_istore C H dcm5_1 (L' := #[.val (.ref c), .val (.int (0 : Int32)), .val (.ref t), .val (.int (0 : Int32)), .val (.int (1 : Int32)), .val (.int (0 : Int32)), .unset]) rfl (pc' := 3) rfl
  replace H := k_iload C H dcm5_3 rfl (pc' := 5) rfl
  replace H := k_iload C H dcm5_5 rfl (pc' := 7) rfl
  replace H := k_icmpN C H dcm5_7 (tlt (by decide : (0 : Int32) < (1 : Int32))).2.1 (pc' := 10) rfl
  replace H := k_aloadN C H dcm5_10 rfl rfl (pc' := 11) rfl
  replace H := k_iloadN C H dcm5_11 rfl (pc' := 12) rfl
  replace H := k_caload C H A_c (i := 0) (by decide) (by decide) dcm5_12 (pc' := 13) rfl
  replace H : K 13 #[.val (.ref c), .val (.int (0 : Int32)), .val (.ref t), .val (.int (0 : Int32)), .val (.int (1 : Int32)), .val (.int (0 : Int32)), .unset] [(.int (f 0))] h0 0 0 := H
  replace H := k_istore C H dcm5_13 (L' := #[.val (.ref c), .val (.int (0 : Int32)), .val (.ref t), .val (.int (0 : Int32)), .val (.int (1 : Int32)), .val (.int (0 : Int32)), .val (.int (f 0))]) rfl (pc' := 15) rfl
  replace H := k_iload C H dcm5_15 rfl (pc' := 17) rfl
  replace H := k_sipush C H (v := 255) dcm5_17 rfl (pc' := 20) rfl
  replace H := k_icmpY C H dcm5_20 (flt hch).2.2.2 (by decide) (pc' := 26) rfl
  replace H := k_aloadN C H dcm5_26 rfl rfl (pc' := 27) rfl
  replace H := k_iloadN C H dcm5_27 rfl (pc' := 28) rfl
  replace H := k_iload C H dcm5_28 rfl (pc' := 30) rfl
  replace H := k_i2b C H dcm5_30 (pc' := 31) rfl
  replace H := k_bastore C H V_t (i := 0) (by decide) (by decide) n_t dcm5_31 (pc' := 32) rfl
  obtain ⟨j9, W_j9, V_t', H⟩ := H
  replace KK := KK.wr W_j9 (Or.inl (List.mem_of_getElem? (i := 0) rfl))
  replace H := k_iinc C H (y := ((0 : Int32) + (1 : Int32))) dcm5_32 rfl rfl (L' := #[.val (.ref c), .val (.int ((0 : Int32) + (1 : Int32))), .val (.ref t), .val (.int (0 : Int32)), .val (.int (1 : Int32)), .val (.int (0 : Int32)), .val (.int (f 0))]) rfl (pc' := 35) rfl
  replace H : K 35 #[.val (.ref c), .val (.int (1 : Int32)), .val (.ref t), .val (.int (0 : Int32)), .val (.int (1 : Int32)), .val (.int (0 : Int32)), .val (.int (f 0))] [] j9 0 0 := H
  replace H := k_iinc C H (y := ((0 : Int32) + (1 : Int32))) dcm5_35 rfl rfl (L' := #[.val (.ref c), .val (.int (1 : Int32)), .val (.ref t), .val (.int ((0 : Int32) + (1 : Int32))), .val (.int (1 : Int32)), .val (.int (0 : Int32)), .val (.int (f 0))]) rfl (pc' := 38) rfl
  replace H : K 38 #[.val (.ref c), .val (.int (1 : Int32)), .val (.ref t), .val (.int (1 : Int32)), .val (.int (1 : Int32)), .val (.int (0 : Int32)), .val (.int (f 0))] [] j9 0 0 := H
  replace H := k_iinc C H (y := ((0 : Int32) + (1 : Int32))) dcm5_38 rfl rfl (L' := #[.val (.ref c), .val (.int (1 : Int32)), .val (.ref t), .val (.int (1 : Int32)), .val (.int (1 : Int32)), .val (.int ((0 : Int32) + (1 : Int32))), .val (.int (f 0))]) rfl (pc' := 41) rfl
  replace H : K 41 #[.val (.ref c), .val (.int (1 : Int32)), .val (.ref t), .val (.int (1 : Int32)), .val (.int (1 : Int32)), .val (.int (1 : Int32)), .val (.int (f 0))] [] j9 0 0 := H
  replace H := k_goto C H dcm5_41 (by decide) (pc' := 3) rfl
  replace H := k_iload C H dcm5_3 rfl (pc' := 5) rfl
  replace H := k_iload C H dcm5_5 rfl (pc' := 7) rfl
  replace H := k_icmpY C H dcm5_7 (flt (by decide : ¬ ((1 : Int32) < (1 : Int32)))).2.1 (by decide) (pc' := 44) rfl
  replace H := k_iload C H dcm5_44 rfl (pc' := 46) rfl
  exact k_retI C H dcm5_46 (by decide) (by decide) ⟨rfl, KK, _, V_t'⟩
theorem dcm3_0 : decode jdk_52_method_16_code 0 = .ok (.iload_n 2, 1) := by decide +kernel
theorem dcm3_1 : decode jdk_52_method_16_code 1 = .ok (.newarray .byte, 2) := by decide +kernel
theorem dcm3_3 : decode jdk_52_method_16_code 3 = .ok (.astore_n 3, 1) := by decide +kernel
theorem dcm3_4 : decode jdk_52_method_16_code 4 = .ok (.aload_n 0, 1) := by decide +kernel
theorem dcm3_5 : decode jdk_52_method_16_code 5 = .ok (.iload_n 1, 1) := by decide +kernel
theorem dcm3_6 : decode jdk_52_method_16_code 6 = .ok (.aload_n 3, 1) := by decide +kernel
theorem dcm3_7 : decode jdk_52_method_16_code 7 = .ok (.iconst 0, 1) := by decide +kernel
theorem dcm3_8 : decode jdk_52_method_16_code 8 = .ok (.iload_n 2, 1) := by decide +kernel
theorem dcm3_9 : decode jdk_52_method_16_code 9 = .ok (.invokestatic 115, 3) := by decide +kernel
theorem dcm3_12 : decode jdk_52_method_16_code 12 = .ok (.istore 4, 2) := by decide +kernel
theorem dcm3_14 : decode jdk_52_method_16_code 14 = .ok (.iload 4, 2) := by decide +kernel
theorem dcm3_16 : decode jdk_52_method_16_code 16 = .ok (.iload_n 2, 1) := by decide +kernel
theorem dcm3_17 : decode jdk_52_method_16_code 17 = .ok (.if_icmp .eq 40, 3) := by decide +kernel
theorem dcm3_57 : decode jdk_52_method_16_code 57 = .ok (.aload_n 3, 1) := by decide +kernel
theorem dcm3_58 : decode jdk_52_method_16_code 58 = .ok (.areturn, 1) := by decide +kernel
theorem pdcm3_0 : parseMethodDescriptor "([CI[BII)I" = some ⟨[(.array .char), .int, (.array .byte), .int, .int], some .int⟩ := by decide +kernel
theorem pl_cm3 : plainFor (⟨"java/lang/StringUTF16", "compress", "([CII)[B"⟩ : MethodName) = true := plainFor_of_name (by first | (simp [plainName, overriddenIn]; done) | decide +kernel)
theorem ef_cm3 (mm : MethodId) (c : Addr) (p1 : Int32) (p2 : Int32) : entryFrame mm #[(.ref c), (.int p1), (.int p2)] 6 = mkF mm 0 #[.val (.ref c), .val (.int p1), .val (.int p2), .unset, .unset, .unset] [] := by first | (simp [entryFrame, mkF, argsToLocals, Value.category]; done) | rfl
set_option maxRecDepth 65536 in
set_option maxHeartbeats 40000000 in
theorem rmcm3 (l : Launch) (Z : State) (a0 : Array Value) (hw : ∀ d ∈ tables_1, d.before a0 Z = true) (c : Addr) (p1 : Int32) (p2 : Int32) (h0 : Heap) (n0 : Nat) (q1 : p1 = (0 : Int32)) (q2 : p2 = (1 : Int32)) (Z0 : n0 ≤ h0.size) (f : Nat → Int32) (A_c : Ari Z h0 c .char 1 f) (hch : ¬ (255 : Int32) < f 0) :
    Con l (⟨"java/lang/StringUTF16", "compress", "([CII)[B"⟩ : MethodName) jdk_52_method_16_code 6 (some (.array .byte)) ({ frames := 1, cells := 1, slots := 1, locals := 18 } : Room) Z #[(.ref c), (.int p1), (.int p2)] h0 n0 (fun o h => ∃ (t : Addr) (g : Nat → Int32), o = some (.ref t) ∧ Keep h0 h [] ∧ Ari Z h t .byte 1 g) := by
  refine Con.enter pl_cm3 (fun mm => ef_cm3 mm c p1 p2) ?_
  intro K O C H
  subst q1 q2
  replace H : K 0 #[.val (.ref c), .val (.int (0 : Int32)), .val (.int (1 : Int32)), .unset, .unset, .unset] [] h0 0 0 := H
  have KK : Keep h0 h0 [] := Keep.refl h0 _
  replace H := k_iloadN C H dcm3_0 rfl (pc' := 1) rfl
  replace H := k_newArr C H (hw _ (List.mem_of_getElem? (i := 130) rfl)) dcm3_1 (by decide) (cap := 1) (by decide) (by decide) (by decide) (by decide) (pc' := 3) rfl
  obtain ⟨h_t, t, c_t, g_t, E_t, A_t, H⟩ := H
  replace H : K 3 #[.val (.ref c), .val (.int (0 : Int32)), .val (.int (1 : Int32)), .unset, .unset, .unset] [(.ref t)] h_t 1 1 := H
  have ne_c_t : c ≠ t := Nat.ne_of_lt (Nat.lt_of_lt_of_le A_c.lt (Nat.le_of_eq g_t.symm))
  have n_t : n0 ≤ t := Nat.le_trans Z0 (Nat.le_of_eq g_t.symm)
  have s_t : h0.size ≤ t := Nat.le_trans KK.1 (Nat.le_of_eq g_t.symm)
  replace A_c := A_c.ext E_t
  replace KK := KK.ext E_t
  have Z_h_t : n0 ≤ h_t.size := Nat.le_trans Z0 E_t.1
  have V_t : Ari Z h_t t .byte 1 (lf [(0 : Int32)]) := (Ari.ofNew A_t (by decide) rfl).congr (fun k hk => by match k, hk with | 0, _ => rfl)
  replace H := k_astoreN C H dcm3_3 (L' := #[.val (.ref c), .val (.int (0 : Int32)), .val (.int (1 : Int32)), .val (.ref t), .unset, .unset]) rfl rfl (pc' := 4) rfl
  replace H := k_aloadN C H dcm3_4 rfl rfl (pc' := 5) rfl
  replace H := k_iloadN C H dcm3_5 rfl (pc' := 6) rfl
  replace H := k_aloadN C H dcm3_6 rfl rfl (pc' := 7) rfl
  replace H := k_iconst C H (v := 0) dcm3_7 rfl (pc' := 8) rfl
  replace H := k_iloadN C H dcm3_8 rfl (pc' := 9) rfl
  replace H := k_callSta C H (rmcm5 l Z a0 hw c (0 : Int32) t (0 : Int32) (1 : Int32) h_t n0 rfl rfl rfl f A_c hch _ V_t n_t) (hw _ (List.mem_of_getElem? (i := 131) rfl)) (hw _ (List.mem_of_getElem? (i := 132) rfl)) (hw _ (List.mem_of_getElem? (i := 128) rfl)) (hw _ (List.mem_of_getElem? (i := 133) rfl)) (by decide) dcm3_9 rfl [(.ref c), (.int (0 : Int32)), (.ref t), (.int (0 : Int32)), (.int (1 : Int32))] [] pdcm3_0 rfl rfl rfl 0 rfl (by decide) (by decide) (by decide) (by decide) (pc' := 12) rfl
  obtain ⟨_, j10, ⟨rfl, K_j10, gt, V_t'⟩, H⟩ := H
  replace H : K 12 #[.val (.ref c), .val (.int (0 : Int32)), .val (.int (1 : Int32)), .val (.ref t), .unset, .unset] [(.int (1 : Int32))] j10 1 1 := H
  replace A_c := A_c.keep K_j10 (ninS ne_c_t nin0)
  replace KK := KK.trans K_j10 (allS (Or.inr s_t) all0)
  have Z_j10 : n0 ≤ j10.size := Nat.le_trans Z_h_t K_j10.1
  replace H := k_istore C H dcm3_12 (L' := #[.val (.ref c), .val (.int (0 : Int32)), .val (.int (1 : Int32)), .val (.ref t), .val (.int (1 : Int32)), .unset]) rfl (pc' := 14) rfl
  replace H := k_iload C H dcm3_14 rfl (pc' := 16) rfl
  replace H := k_iloadN C H dcm3_16 rfl (pc' := 17) rfl
  replace H := k_icmpY C H dcm3_17 (teq (by decide : (1 : Int32) = (1 : Int32))).1 (by decide) (pc' := 57) rfl
  replace H := k_aloadN C H dcm3_57 rfl rfl (pc' := 58) rfl
  exact k_retA C H dcm3_58 rfl rfl (by decide) (by decide) ⟨t, gt, rfl, KK, V_t'⟩
theorem dcfa_0 : decode jdk_52_method_15_code 0 = .ok (.iload_n 1, 1) := by decide +kernel
theorem dcfa_1 : decode jdk_52_method_15_code 1 = .ok (.aload_n 0, 1) := by decide +kernel
theorem dcfa_2 : decode jdk_52_method_15_code 2 = .ok (.arraylength, 1) := by decide +kernel
theorem dcfa_3 : decode jdk_52_method_15_code 3 = .ok (.isub, 1) := by decide +kernel
theorem dcfa_4 : decode jdk_52_method_15_code 4 = .ok (.bipush 31, 2) := by decide +kernel
theorem dcfa_6 : decode jdk_52_method_15_code 6 = .ok (.iushr, 1) := by decide +kernel
theorem dcfa_7 : decode jdk_52_method_15_code 7 = .ok (.i2b, 1) := by decide +kernel
theorem dcfa_8 : decode jdk_52_method_15_code 8 = .ok (.ireturn, 1) := by decide +kernel
theorem pl_cfa : plainFor (⟨"java/lang/StringUTF16", "coderFromArrayLen", "([BI)B"⟩ : MethodName) = true := plainFor_of_name (by first | (simp [plainName, overriddenIn]; done) | decide +kernel)
theorem ef_cfa (mm : MethodId) (t : Addr) (p1 : Int32) : entryFrame mm #[(.ref t), (.int p1)] 2 = mkF mm 0 #[.val (.ref t), .val (.int p1)] [] := by first | (simp [entryFrame, mkF, argsToLocals, Value.category]; done) | rfl
set_option maxRecDepth 65536 in
set_option maxHeartbeats 40000000 in
theorem rmcfa (l : Launch) (Z : State) (a0 : Array Value) (hw : ∀ d ∈ tables_1, d.before a0 Z = true) (t : Addr) (p1 : Int32) (h0 : Heap) (n0 : Nat) (g : Nat → Int32) (V_t : Ari Z h0 t .byte 1 g) (q1 : p1 = (1 : Int32)) :
    Con l (⟨"java/lang/StringUTF16", "coderFromArrayLen", "([BI)B"⟩ : MethodName) jdk_52_method_15_code 2 (some .byte) ({ frames := 0, cells := 0, slots := 0, locals := 0 } : Room) Z #[(.ref t), (.int p1)] h0 n0 (fun o h => o = some (.int (0 : Int32)) ∧ h0 = h) := by
  refine Con.enter pl_cfa (fun mm => ef_cfa mm t p1) ?_
  intro K O C H
  subst q1
  replace H : K 0 #[.val (.ref t), .val (.int (1 : Int32))] [] h0 0 0 := H
  replace H := k_iloadN C H dcfa_0 rfl (pc' := 1) rfl
  replace H := k_aloadN C H dcfa_1 rfl rfl (pc' := 2) rfl
  replace H := k_arrlen C H V_t dcfa_2 (pc' := 3) rfl
  replace H : K 3 #[.val (.ref t), .val (.int (1 : Int32))] [(.int (1 : Int32)), (.int (1 : Int32))] h0 0 0 := H
  replace H := k_isub C H dcfa_3 (pc' := 4) rfl
  replace H := k_bipush C H (v := 31) dcfa_4 rfl (pc' := 6) rfl
  replace H := k_iushr C H dcfa_6 (pc' := 7) rfl
  replace H := k_i2b C H dcfa_7 (pc' := 8) rfl
  have lk : (((1 : Int32) - (1 : Int32)).toUInt32 >>> ((31 : Int32) &&& 31).toUInt32).toInt32.toInt8.toInt32 = (0 : Int32) := by decide
  rw [lk] at H
  exact k_retN C H dcfa_8 (by simp) (by decide) (by decide) ⟨rfl, rfl⟩
theorem dst2_0 : decode jdk_42_method_149_code 0 = .ok (.aload_n 0, 1) := by decide +kernel
theorem dst2_1 : decode jdk_42_method_149_code 1 = .ok (.invokespecial 1, 3) := by decide +kernel
theorem dst2_4 : decode jdk_42_method_149_code 4 = .ok (.iload_n 3, 1) := by decide +kernel
theorem dst2_5 : decode jdk_42_method_149_code 5 = .ok (.ifCond .ne 22, 3) := by decide +kernel
theorem dst2_27 : decode jdk_42_method_149_code 27 = .ok (.getstatic 38, 3) := by decide +kernel
theorem dst2_30 : decode jdk_42_method_149_code 30 = .ok (.ifCond .eq 28, 3) := by decide +kernel
theorem dst2_33 : decode jdk_42_method_149_code 33 = .ok (.aload_n 1, 1) := by decide +kernel
theorem dst2_34 : decode jdk_42_method_149_code 34 = .ok (.iload_n 2, 1) := by decide +kernel
theorem dst2_35 : decode jdk_42_method_149_code 35 = .ok (.iload_n 3, 1) := by decide +kernel
theorem dst2_36 : decode jdk_42_method_149_code 36 = .ok (.invokestatic 177, 3) := by decide +kernel
theorem dst2_39 : decode jdk_42_method_149_code 39 = .ok (.astore 5, 2) := by decide +kernel
theorem dst2_41 : decode jdk_42_method_149_code 41 = .ok (.aload_n 0, 1) := by decide +kernel
theorem dst2_42 : decode jdk_42_method_149_code 42 = .ok (.aload 5, 2) := by decide +kernel
theorem dst2_44 : decode jdk_42_method_149_code 44 = .ok (.iload_n 3, 1) := by decide +kernel
theorem dst2_45 : decode jdk_42_method_149_code 45 = .ok (.invokestatic 47, 3) := by decide +kernel
theorem dst2_48 : decode jdk_42_method_149_code 48 = .ok (.putfield 15, 3) := by decide +kernel
theorem dst2_51 : decode jdk_42_method_149_code 51 = .ok (.aload_n 0, 1) := by decide +kernel
theorem dst2_52 : decode jdk_42_method_149_code 52 = .ok (.aload 5, 2) := by decide +kernel
theorem dst2_54 : decode jdk_42_method_149_code 54 = .ok (.putfield 9, 3) := by decide +kernel
theorem dst2_57 : decode jdk_42_method_149_code 57 = .ok (.return_, 1) := by decide +kernel
theorem pdst2_0 : parseMethodDescriptor "([CII)[B" = some ⟨[(.array .char), .int, .int], some (.array .byte)⟩ := by decide +kernel
theorem pdst2_1 : parseMethodDescriptor "([BI)B" = some ⟨[(.array .byte), .int], some .byte⟩ := by decide +kernel
theorem pl_st2 : plainFor (⟨"java/lang/String", "<init>", "([CIILjava/lang/Void;)V"⟩ : MethodName) = true := plainFor_of_name (by first | (simp [plainName, overriddenIn]; done) | decide +kernel)
theorem ef_st2 (mm : MethodId) (s : Addr) (c : Addr) (p1 : Int32) (p2 : Int32) : entryFrame mm #[(.ref s), (.ref c), (.int p1), (.int p2), .null] 6 = mkF mm 0 #[.val (.ref s), .val (.ref c), .val (.int p1), .val (.int p2), .val .null, .unset] [] := by first | (simp [entryFrame, mkF, argsToLocals, Value.category]; done) | rfl
set_option maxRecDepth 65536 in
set_option maxHeartbeats 40000000 in
theorem rmst2 (l : Launch) (Z : State) (a0 : Array Value) (hw : ∀ d ∈ tables_1, d.before a0 Z = true) (s : Addr) (c : Addr) (p1 : Int32) (p2 : Int32) (h0 : Heap) (n0 : Nat) (q1 : p1 = (0 : Int32)) (q2 : p2 = (1 : Int32)) (us1 us2 : Value) (X_s : Exa Z h0 s "java/lang/String") (F_s_value : Fld Z h0 s "java/lang/String" "value" "[B" us1) (F_s_coder : Fld Z h0 s "java/lang/String" "coder" "B" us2) (n_s : n0 ≤ s) (kz : Int32) (S_K : Sta Z h0 "java/lang/String" "COMPACT_STRINGS" "Z" (.int kz)) (hkz : ¬ kz = (0 : Int32)) (Z0 : n0 ≤ h0.size) (f : Nat → Int32) (A_c : Ari Z h0 c .char 1 f) (hch : ¬ (255 : Int32) < f 0) :
    Con l (⟨"java/lang/String", "<init>", "([CIILjava/lang/Void;)V"⟩ : MethodName) jdk_42_method_149_code 6 none ({ frames := 2, cells := 1, slots := 1, locals := 35 } : Room) Z #[(.ref s), (.ref c), (.int p1), (.int p2), .null] h0 n0 (fun o h => o = none ∧ Keep h0 h [s]) := by
  refine Con.enter pl_st2 (fun mm => ef_st2 mm s c p1 p2) ?_
  intro K O C H
  subst q1 q2
  replace H : K 0 #[.val (.ref s), .val (.ref c), .val (.int (0 : Int32)), .val (.int (1 : Int32)), .val .null, .unset] [] h0 0 0 := H
  have KK : Keep h0 h0 [s] := Keep.refl h0 _
  replace H := k_aloadN C H dst2_0 rfl rfl (pc' := 1) rfl
  replace H := k_initObj C H (hw _ (List.mem_of_getElem? (i := 124) rfl)) (hw _ (List.mem_of_getElem? (i := 7) rfl)) (hw _ (List.mem_of_getElem? (i := 8) rfl)) dst2_1 rfl (by decide) 0 rfl (by decide) (pc' := 4) rfl
  replace H := k_iloadN C H dst2_4 rfl (pc' := 5) rfl
  replace H := k_ifcY C H dst2_5 (feq (by decide : ¬ ((1 : Int32) = (0 : Int32)))).2 (by decide) (pc' := 27) rfl
  replace H := k_getSta C H (hw _ (List.mem_of_getElem? (i := 125) rfl)) S_K dst2_27 (pc' := 30) rfl
  replace H := k_ifcN C H dst2_30 (feq hkz).1 (pc' := 33) rfl
  replace H := k_aloadN C H dst2_33 rfl rfl (pc' := 34) rfl
  replace H := k_iloadN C H dst2_34 rfl (pc' := 35) rfl
  replace H := k_iloadN C H dst2_35 rfl (pc' := 36) rfl
  replace H := k_callSta C H (rmcm3 l Z a0 hw c (0 : Int32) (1 : Int32) h0 n0 rfl rfl Z0 f A_c hch) (hw _ (List.mem_of_getElem? (i := 126) rfl)) (hw _ (List.mem_of_getElem? (i := 127) rfl)) (hw _ (List.mem_of_getElem? (i := 128) rfl)) (hw _ (List.mem_of_getElem? (i := 129) rfl)) (by decide) dst2_36 rfl [(.ref c), (.int (0 : Int32)), (.int (1 : Int32))] [] pdst2_0 rfl rfl rfl 0 rfl (by decide) (by decide) (by decide) (by decide) (pc' := 39) rfl
  obtain ⟨_, j11, ⟨t, gt, rfl, K_j11, V_t⟩, H⟩ := H
  replace H : K 39 #[.val (.ref s), .val (.ref c), .val (.int (0 : Int32)), .val (.int (1 : Int32)), .val .null, .unset] [(.ref t)] j11 1 1 := H
  replace X_s := X_s.keep K_j11
  replace F_s_value := F_s_value.keep K_j11 nin0
  replace F_s_coder := F_s_coder.keep K_j11 nin0
  replace KK := KK.trans K_j11 all0
  have Z_j11 : n0 ≤ j11.size := Nat.le_trans Z0 K_j11.1
  replace H := k_astore C H dst2_39 (L' := #[.val (.ref s), .val (.ref c), .val (.int (0 : Int32)), .val (.int (1 : Int32)), .val .null, .val (.ref t)]) rfl rfl (pc' := 41) rfl
  replace H := k_aloadN C H dst2_41 rfl rfl (pc' := 42) rfl
  replace H := k_aload C H dst2_42 rfl rfl (pc' := 44) rfl
  replace H := k_iloadN C H dst2_44 rfl (pc' := 45) rfl
  replace H := k_callSta C H (rmcfa l Z a0 hw t (1 : Int32) j11 n0 gt V_t rfl) (hw _ (List.mem_of_getElem? (i := 134) rfl)) (hw _ (List.mem_of_getElem? (i := 135) rfl)) (hw _ (List.mem_of_getElem? (i := 128) rfl)) (hw _ (List.mem_of_getElem? (i := 136) rfl)) (by decide) dst2_45 rfl [(.ref t), (.int (1 : Int32))] [(.ref s)] pdst2_1 rfl rfl rfl 1 rfl (by decide) (by decide) (by decide) (by decide) (pc' := 48) rfl
  obtain ⟨_, _, ⟨rfl, rfl⟩, H⟩ := H
  replace H : K 48 #[.val (.ref s), .val (.ref c), .val (.int (0 : Int32)), .val (.int (1 : Int32)), .val .null, .val (.ref t)] [(.int (0 : Int32)), (.ref s)] j11 1 1 := H
  replace H := k_putFld C H (hw _ (List.mem_of_getElem? (i := 137) rfl)) F_s_coder X_s (Or.inr ⟨(hw _ (List.mem_of_getElem? (i := 138) rfl)), rfl, rfl⟩) (hw _ (List.mem_of_getElem? (i := 115) rfl)) (ty := .byte) (by decide) (v' := (.int (0 : Int32))) (by first | rfl | decide) rfl n_s dst2_48 (pc' := 51) rfl
  obtain ⟨j12, W_j12, H⟩ := H
  replace X_s := X_s.wr W_j12
  replace F_s_value := F_s_value.other W_j12 (Or.inr (slot_ne (Or.inr (hw _ (List.mem_of_getElem? (i := 140) rfl))) (Or.inr (hw _ (List.mem_of_getElem? (i := 138) rfl))) (by decide) (t := (.array .byte)) (t' := .byte) (by decide) (by decide)))
  replace F_s_coder := F_s_coder.same W_j12
  replace KK := KK.wr W_j12 (Or.inl (List.mem_of_getElem? (i := 0) rfl))
  have Z_j12 : n0 ≤ j12.size := by rw [W_j12.size]; exact Z_j11
  replace H := k_aloadN C H dst2_51 rfl rfl (pc' := 52) rfl
  replace H := k_aload C H dst2_52 rfl rfl (pc' := 54) rfl
  replace H := k_putFld C H (hw _ (List.mem_of_getElem? (i := 139) rfl)) F_s_value X_s (Or.inr ⟨(hw _ (List.mem_of_getElem? (i := 140) rfl)), rfl, rfl⟩) (hw _ (List.mem_of_getElem? (i := 115) rfl)) (ty := (.array .byte)) (by decide) (v' := (.ref t)) rfl rfl n_s dst2_54 (pc' := 57) rfl
  obtain ⟨j13, W_j13, H⟩ := H
  replace X_s := X_s.wr W_j13
  replace F_s_value := F_s_value.same W_j13
  replace F_s_coder := F_s_coder.other W_j13 (Or.inr (slot_ne (Or.inr (hw _ (List.mem_of_getElem? (i := 138) rfl))) (Or.inr (hw _ (List.mem_of_getElem? (i := 140) rfl))) (by decide) (t := .byte) (t' := (.array .byte)) (by decide) (by decide)))
  replace KK := KK.wr W_j13 (Or.inl (List.mem_of_getElem? (i := 0) rfl))
  have Z_j13 : n0 ≤ j13.size := by rw [W_j13.size]; exact Z_j12
  exact k_retV C H dst2_57 (by decide) (by decide) ⟨rfl, KK⟩
theorem dst1_0 : decode jdk_42_method_3_code 0 = .ok (.aload_n 0, 1) := by decide +kernel
theorem dst1_1 : decode jdk_42_method_3_code 1 = .ok (.aload_n 1, 1) := by decide +kernel
theorem dst1_2 : decode jdk_42_method_3_code 2 = .ok (.iconst 0, 1) := by decide +kernel
theorem dst1_3 : decode jdk_42_method_3_code 3 = .ok (.aload_n 1, 1) := by decide +kernel
theorem dst1_4 : decode jdk_42_method_3_code 4 = .ok (.arraylength, 1) := by decide +kernel
theorem dst1_5 : decode jdk_42_method_3_code 5 = .ok (.aconst_null, 1) := by decide +kernel
theorem dst1_6 : decode jdk_42_method_3_code 6 = .ok (.invokespecial 27, 3) := by decide +kernel
theorem dst1_9 : decode jdk_42_method_3_code 9 = .ok (.return_, 1) := by decide +kernel
theorem pdst1_0 : parseMethodDescriptor "([CIILjava/lang/Void;)V" = some ⟨[(.array .char), .int, .int, (.object "java/lang/Void")], none⟩ := by decide +kernel
theorem pl_st1 : plainFor (⟨"java/lang/String", "<init>", "([C)V"⟩ : MethodName) = true := plainFor_of_name (by first | (simp [plainName, overriddenIn]; done) | decide +kernel)
theorem ef_st1 (mm : MethodId) (s : Addr) (c : Addr) : entryFrame mm #[(.ref s), (.ref c)] 2 = mkF mm 0 #[.val (.ref s), .val (.ref c)] [] := by first | (simp [entryFrame, mkF, argsToLocals, Value.category]; done) | rfl
set_option maxRecDepth 65536 in
set_option maxHeartbeats 40000000 in
theorem rmst1 (l : Launch) (Z : State) (a0 : Array Value) (hw : ∀ d ∈ tables_1, d.before a0 Z = true) (s : Addr) (c : Addr) (h0 : Heap) (n0 : Nat) (us1 us2 : Value) (X_s : Exa Z h0 s "java/lang/String") (F_s_value : Fld Z h0 s "java/lang/String" "value" "[B" us1) (F_s_coder : Fld Z h0 s "java/lang/String" "coder" "B" us2) (n_s : n0 ≤ s) (kz : Int32) (S_K : Sta Z h0 "java/lang/String" "COMPACT_STRINGS" "Z" (.int kz)) (hkz : ¬ kz = (0 : Int32)) (Z0 : n0 ≤ h0.size) (f : Nat → Int32) (A_c : Ari Z h0 c .char 1 f) (hch : ¬ (255 : Int32) < f 0) :
    Con l (⟨"java/lang/String", "<init>", "([C)V"⟩ : MethodName) jdk_42_method_3_code 2 none ({ frames := 3, cells := 1, slots := 1, locals := 52 } : Room) Z #[(.ref s), (.ref c)] h0 n0 (fun o h => o = none ∧ Keep h0 h [s]) := by
  refine Con.enter pl_st1 (fun mm => ef_st1 mm s c) ?_
  intro K O C H
  replace H := k_aloadN C H dst1_0 rfl rfl (pc' := 1) rfl
  replace H := k_aloadN C H dst1_1 rfl rfl (pc' := 2) rfl
  replace H := k_iconst C H (v := 0) dst1_2 rfl (pc' := 3) rfl
  replace H := k_aloadN C H dst1_3 rfl rfl (pc' := 4) rfl
  replace H := k_arrlen C H A_c dst1_4 (pc' := 5) rfl
  replace H : K 5 #[.val (.ref s), .val (.ref c)] [(.int (1 : Int32)), (.int (0 : Int32)), (.ref c), (.ref s)] h0 0 0 := H
  replace H := k_anull C H dst1_5 (pc' := 6) rfl
  replace H := k_callCon C H (rmst2 l Z a0 hw s c (0 : Int32) (1 : Int32) h0 n0 rfl rfl _ _ X_s F_s_value F_s_coder n_s kz S_K hkz Z0 f A_c hch) rfl (hw _ (List.mem_of_getElem? (i := 120) rfl)) (hw _ (List.mem_of_getElem? (i := 121) rfl)) (hw _ (List.mem_of_getElem? (i := 116) rfl)) (hw _ (List.mem_of_getElem? (i := 123) rfl)) (by decide) dst1_6 rfl s [(.ref c), (.int (0 : Int32)), (.int (1 : Int32)), .null] [] pdst1_0 rfl rfl rfl 0 rfl (by decide) (by decide) (by decide) (by decide) (pc' := 9) rfl
  obtain ⟨_, j14, ⟨rfl, K_j14⟩, H⟩ := H
  replace H : K 9 #[.val (.ref s), .val (.ref c)] [] j14 1 1 := H
  exact k_retV C H dst1_9 (by decide) (by decide) ⟨rfl, K_j14⟩
theorem diti_0 : decode jdk_49_method_1_code 0 = .ok (.aload_n 0, 1) := by decide +kernel
theorem diti_1 : decode jdk_49_method_1_code 1 = .ok (.aload_n 1, 1) := by decide +kernel
theorem diti_2 : decode jdk_49_method_1_code 2 = .ok (.putfield 1, 3) := by decide +kernel
theorem diti_5 : decode jdk_49_method_1_code 5 = .ok (.aload_n 0, 1) := by decide +kernel
theorem diti_6 : decode jdk_49_method_1_code 6 = .ok (.invokespecial 7, 3) := by decide +kernel
theorem diti_9 : decode jdk_49_method_1_code 9 = .ok (.aload_n 0, 1) := by decide +kernel
theorem diti_10 : decode jdk_49_method_1_code 10 = .ok (.iconst (-1), 1) := by decide +kernel
theorem diti_11 : decode jdk_49_method_1_code 11 = .ok (.putfield 13, 3) := by decide +kernel
theorem diti_14 : decode jdk_49_method_1_code 14 = .ok (.aload_n 0, 1) := by decide +kernel
theorem diti_15 : decode jdk_49_method_1_code 15 = .ok (.aload_n 0, 1) := by decide +kernel
theorem diti_16 : decode jdk_49_method_1_code 16 = .ok (.getfield 1, 3) := by decide +kernel
theorem diti_19 : decode jdk_49_method_1_code 19 = .ok (.getfield 17, 3) := by decide +kernel
theorem diti_22 : decode jdk_49_method_1_code 22 = .ok (.putfield 22, 3) := by decide +kernel
theorem diti_25 : decode jdk_49_method_1_code 25 = .ok (.return_, 1) := by decide +kernel
theorem pl_iti : plainFor (⟨"java/util/ArrayList$Itr", "<init>", "(Ljava/util/ArrayList;)V"⟩ : MethodName) = true := plainFor_of_name (by first | (simp [plainName, overriddenIn]; done) | decide +kernel)
theorem ef_iti (mm : MethodId) (it : Addr) (l1 : Addr) : entryFrame mm #[(.ref it), (.ref l1)] 2 = mkF mm 0 #[.val (.ref it), .val (.ref l1)] [] := by first | (simp [entryFrame, mkF, argsToLocals, Value.category]; done) | rfl
set_option maxRecDepth 65536 in
set_option maxHeartbeats 40000000 in
theorem rmiti (l : Launch) (Z : State) (a0 : Array Value) (hw : ∀ d ∈ tables_1, d.before a0 Z = true) (it : Addr) (l1 : Addr) (h0 : Heap) (n0 : Nat) (D : Addr) (m : Int32) (X_it : Exa Z h0 it "java/util/ArrayList$Itr") (F_it_this_0 : Fld Z h0 it "java/util/ArrayList$Itr" "this$0" "Ljava/util/ArrayList;" .null) (F_it_lastRet : Fld Z h0 it "java/util/ArrayList$Itr" "lastRet" "I" (.int (0 : Int32))) (F_it_expectedModCount : Fld Z h0 it "java/util/ArrayList$Itr" "expectedModCount" "I" (.int (0 : Int32))) (F_it_cursor : Fld Z h0 it "java/util/ArrayList$Itr" "cursor" "I" (.int (0 : Int32))) (n_it : n0 ≤ it) (X_l1 : Exa Z h0 l1 "java/util/ArrayList") (F_l1_size : Fld Z h0 l1 "java/util/ArrayList" "size" "I" (.int (0 : Int32))) (F_l1_elementData : Fld Z h0 l1 "java/util/ArrayList" "elementData" "[Ljava/lang/Object;" (.ref D)) (F_l1_modCount : Fld Z h0 l1 "java/util/AbstractList" "modCount" "I" (.int m)) (n_l1 : n0 ≤ l1) :
    Con l (⟨"java/util/ArrayList$Itr", "<init>", "(Ljava/util/ArrayList;)V"⟩ : MethodName) jdk_49_method_1_code 2 none ({ frames := 1, cells := 0, slots := 0, locals := 12 } : Room) Z #[(.ref it), (.ref l1)] h0 n0 (fun o h => o = none ∧ Keep h0 h [it] ∧ Fld Z h it "java/util/ArrayList$Itr" "cursor" "I" (.int (0 : Int32)) ∧ Fld Z h it "java/util/ArrayList$Itr" "this$0" "Ljava/util/ArrayList;" (.ref l1)) := by
  refine Con.enter pl_iti (fun mm => ef_iti mm it l1) ?_
  intro K O C H
  have KK : Keep h0 h0 [it] := Keep.refl h0 _
  have ne_it_l1 : it ≠ l1 := X_it.ne X_l1 (by decide)
  replace H := k_aloadN C H diti_0 rfl rfl (pc' := 1) rfl
  replace H := k_aloadN C H diti_1 rfl rfl (pc' := 2) rfl
  replace H := k_putFld C H (hw _ (List.mem_of_getElem? (i := 74) rfl)) F_it_this_0 X_it (Or.inr ⟨(hw _ (List.mem_of_getElem? (i := 75) rfl)), rfl, rfl⟩) (hw _ (List.mem_of_getElem? (i := 68) rfl)) (ty := (.object "java/util/ArrayList")) (by decide) (v' := (.ref l1)) rfl rfl n_it diti_2 (pc' := 5) rfl
  obtain ⟨j15, W_j15, H⟩ := H
  replace X_it := X_it.wr W_j15
  replace F_it_this_0 := F_it_this_0.same W_j15
  replace F_it_lastRet := F_it_lastRet.other W_j15 (Or.inr (slot_ne (Or.inl (hw _ (List.mem_of_getElem? (i := 78) rfl))) (Or.inr (hw _ (List.mem_of_getElem? (i := 75) rfl))) (by decide) (t := .int) (t' := (.object "java/util/ArrayList")) (by decide) (by decide)))
  replace F_it_expectedModCount := F_it_expectedModCount.other W_j15 (Or.inr (slot_ne (Or.inl (hw _ (List.mem_of_getElem? (i := 82) rfl))) (Or.inr (hw _ (List.mem_of_getElem? (i := 75) rfl))) (by decide) (t := .int) (t' := (.object "java/util/ArrayList")) (by decide) (by decide)))
  replace F_it_cursor := F_it_cursor.other W_j15 (Or.inr (slot_ne (Or.inl (hw _ (List.mem_of_getElem? (i := 93) rfl))) (Or.inr (hw _ (List.mem_of_getElem? (i := 75) rfl))) (by decide) (t := .int) (t' := (.object "java/util/ArrayList")) (by decide) (by decide)))
  replace X_l1 := X_l1.wr W_j15
  replace F_l1_size := F_l1_size.other W_j15 (Or.inl (Ne.symm ne_it_l1))
  replace F_l1_elementData := F_l1_elementData.other W_j15 (Or.inl (Ne.symm ne_it_l1))
  replace F_l1_modCount := F_l1_modCount.other W_j15 (Or.inl (Ne.symm ne_it_l1))
  replace KK := KK.wr W_j15 (Or.inl (List.mem_of_getElem? (i := 0) rfl))
  replace H := k_aloadN C H diti_5 rfl rfl (pc' := 6) rfl
  replace H := k_initObj C H (hw _ (List.mem_of_getElem? (i := 76) rfl)) (hw _ (List.mem_of_getElem? (i := 7) rfl)) (hw _ (List.mem_of_getElem? (i := 8) rfl)) diti_6 rfl (by decide) 0 rfl (by decide) (pc' := 9) rfl
  replace H := k_aloadN C H diti_9 rfl rfl (pc' := 10) rfl
  replace H := k_iconst C H (v := (-1)) diti_10 rfl (pc' := 11) rfl
  replace H := k_putFld C H (hw _ (List.mem_of_getElem? (i := 77) rfl)) F_it_lastRet X_it (Or.inl (hw _ (List.mem_of_getElem? (i := 78) rfl))) (hw _ (List.mem_of_getElem? (i := 68) rfl)) (ty := .int) (by decide) (v' := (.int ((-1) : Int32))) rfl rfl n_it diti_11 (pc' := 14) rfl
  obtain ⟨j16, W_j16, H⟩ := H
  replace X_it := X_it.wr W_j16
  replace F_it_this_0 := F_it_this_0.other W_j16 (Or.inr (slot_ne (Or.inr (hw _ (List.mem_of_getElem? (i := 75) rfl))) (Or.inl (hw _ (List.mem_of_getElem? (i := 78) rfl))) (by decide) (t := (.object "java/util/ArrayList")) (t' := .int) (by decide) (by decide)))
  replace F_it_lastRet := F_it_lastRet.same W_j16
  replace F_it_expectedModCount := F_it_expectedModCount.other W_j16 (Or.inr (slot_ne (Or.inl (hw _ (List.mem_of_getElem? (i := 82) rfl))) (Or.inl (hw _ (List.mem_of_getElem? (i := 78) rfl))) (by decide) (t := .int) (t' := .int) (by decide) (by decide)))
  replace F_it_cursor := F_it_cursor.other W_j16 (Or.inr (slot_ne (Or.inl (hw _ (List.mem_of_getElem? (i := 93) rfl))) (Or.inl (hw _ (List.mem_of_getElem? (i := 78) rfl))) (by decide) (t := .int) (t' := .int) (by decide) (by decide)))
  replace X_l1 := X_l1.wr W_j16
  replace F_l1_size := F_l1_size.other W_j16 (Or.inl (Ne.symm ne_it_l1))
  replace F_l1_elementData := F_l1_elementData.other W_j16 (Or.inl (Ne.symm ne_it_l1))
  replace F_l1_modCount := F_l1_modCount.other W_j16 (Or.inl (Ne.symm ne_it_l1))
  replace KK := KK.wr W_j16 (Or.inl (List.mem_of_getElem? (i := 0) rfl))
  replace H := k_aloadN C H diti_14 rfl rfl (pc' := 15) rfl
  replace H := k_aloadN C H diti_15 rfl rfl (pc' := 16) rfl
  replace H := k_getFld C H (hw _ (List.mem_of_getElem? (i := 74) rfl)) F_it_this_0 diti_16 (pc' := 19) rfl
  replace H := k_getFldV C H (hw _ (List.mem_of_getElem? (i := 79) rfl)) (hw _ (List.mem_of_getElem? (i := 80) rfl)) F_l1_modCount diti_19 (pc' := 22) rfl
  replace H := k_putFld C H (hw _ (List.mem_of_getElem? (i := 81) rfl)) F_it_expectedModCount X_it (Or.inl (hw _ (List.mem_of_getElem? (i := 82) rfl))) (hw _ (List.mem_of_getElem? (i := 68) rfl)) (ty := .int) (by decide) (v' := (.int m)) rfl rfl n_it diti_22 (pc' := 25) rfl
  obtain ⟨j17, W_j17, H⟩ := H
  replace X_it := X_it.wr W_j17
  replace F_it_this_0 := F_it_this_0.other W_j17 (Or.inr (slot_ne (Or.inr (hw _ (List.mem_of_getElem? (i := 75) rfl))) (Or.inl (hw _ (List.mem_of_getElem? (i := 82) rfl))) (by decide) (t := (.object "java/util/ArrayList")) (t' := .int) (by decide) (by decide)))
  replace F_it_lastRet := F_it_lastRet.other W_j17 (Or.inr (slot_ne (Or.inl (hw _ (List.mem_of_getElem? (i := 78) rfl))) (Or.inl (hw _ (List.mem_of_getElem? (i := 82) rfl))) (by decide) (t := .int) (t' := .int) (by decide) (by decide)))
  replace F_it_expectedModCount := F_it_expectedModCount.same W_j17
  replace F_it_cursor := F_it_cursor.other W_j17 (Or.inr (slot_ne (Or.inl (hw _ (List.mem_of_getElem? (i := 93) rfl))) (Or.inl (hw _ (List.mem_of_getElem? (i := 82) rfl))) (by decide) (t := .int) (t' := .int) (by decide) (by decide)))
  replace X_l1 := X_l1.wr W_j17
  replace F_l1_size := F_l1_size.other W_j17 (Or.inl (Ne.symm ne_it_l1))
  replace F_l1_elementData := F_l1_elementData.other W_j17 (Or.inl (Ne.symm ne_it_l1))
  replace F_l1_modCount := F_l1_modCount.other W_j17 (Or.inl (Ne.symm ne_it_l1))
  replace KK := KK.wr W_j17 (Or.inl (List.mem_of_getElem? (i := 0) rfl))
  exact k_retV C H diti_25 (by decide) (by decide) ⟨rfl, KK, F_it_cursor, F_it_this_0⟩
theorem ditr_0 : decode jdk_38_method_55_code 0 = .ok (.new 267, 3) := by decide +kernel
theorem ditr_3 : decode jdk_38_method_55_code 3 = .ok (.dup, 1) := by decide +kernel
theorem ditr_4 : decode jdk_38_method_55_code 4 = .ok (.aload_n 0, 1) := by decide +kernel
theorem ditr_5 : decode jdk_38_method_55_code 5 = .ok (.invokespecial 269, 3) := by decide +kernel
theorem ditr_8 : decode jdk_38_method_55_code 8 = .ok (.areturn, 1) := by decide +kernel
theorem pditr_0 : parseMethodDescriptor "(Ljava/util/ArrayList;)V" = some ⟨[(.object "java/util/ArrayList")], none⟩ := by decide +kernel
theorem pl_itr : plainFor (⟨"java/util/ArrayList", "iterator", "()Ljava/util/Iterator;"⟩ : MethodName) = true := plainFor_of_name (by first | (simp [plainName, overriddenIn]; done) | decide +kernel)
theorem ef_itr (mm : MethodId) (l1 : Addr) : entryFrame mm #[(.ref l1)] 1 = mkF mm 0 #[.val (.ref l1)] [] := by first | (simp [entryFrame, mkF, argsToLocals, Value.category]; done) | rfl
set_option maxRecDepth 65536 in
set_option maxHeartbeats 40000000 in
theorem rmitr (l : Launch) (Z : State) (a0 : Array Value) (hw : ∀ d ∈ tables_1, d.before a0 Z = true) (l1 : Addr) (h0 : Heap) (n0 : Nat) (D : Addr) (m : Int32) (Z0 : n0 ≤ h0.size) (X_l1 : Exa Z h0 l1 "java/util/ArrayList") (F_l1_size : Fld Z h0 l1 "java/util/ArrayList" "size" "I" (.int (0 : Int32))) (F_l1_elementData : Fld Z h0 l1 "java/util/ArrayList" "elementData" "[Ljava/lang/Object;" (.ref D)) (F_l1_modCount : Fld Z h0 l1 "java/util/AbstractList" "modCount" "I" (.int m)) (n_l1 : n0 ≤ l1) :
    Con l (⟨"java/util/ArrayList", "iterator", "()Ljava/util/Iterator;"⟩ : MethodName) jdk_38_method_55_code 1 (some (.object "java/util/Iterator")) ({ frames := 2, cells := 1, slots := 4, locals := 26 } : Room) Z #[(.ref l1)] h0 n0 (fun o h => ∃ it : Addr, o = some (.ref it) ∧ Keep h0 h [] ∧ Exa Z h it "java/util/ArrayList$Itr" ∧ Fld Z h it "java/util/ArrayList$Itr" "cursor" "I" (.int (0 : Int32)) ∧ Fld Z h it "java/util/ArrayList$Itr" "this$0" "Ljava/util/ArrayList;" (.ref l1)) := by
  refine Con.enter pl_itr (fun mm => ef_itr mm l1) ?_
  intro K O C H
  have KK : Keep h0 h0 [] := Keep.refl h0 _
  replace H := k_newObj C H (hw _ (List.mem_of_getElem? (i := 67) rfl)) (hw _ (List.mem_of_getElem? (i := 68) rfl)) (hw _ (List.mem_of_getElem? (i := 69) rfl)) ditr_0 (by decide) (by decide) (pc' := 3) rfl
  obtain ⟨h_it, it, g_it, E_it, X_it, D_it, H⟩ := H
  replace H : K 3 #[.val (.ref l1)] [(.ref it)] h_it 1 4 := H
  have ne_l1_it : l1 ≠ it := Nat.ne_of_lt (Nat.lt_of_lt_of_le X_l1.lt (Nat.le_of_eq g_it.symm))
  have n_it : n0 ≤ it := Nat.le_trans Z0 (Nat.le_of_eq g_it.symm)
  have s_it : h0.size ≤ it := Nat.le_trans KK.1 (Nat.le_of_eq g_it.symm)
  replace X_l1 := X_l1.ext E_it
  replace F_l1_size := F_l1_size.ext E_it
  replace F_l1_elementData := F_l1_elementData.ext E_it
  replace F_l1_modCount := F_l1_modCount.ext E_it
  replace KK := KK.ext E_it
  have Z_h_it : n0 ≤ h_it.size := Nat.le_trans Z0 E_it.1
  have F_it_this_0 : Fld Z h_it it "java/util/ArrayList$Itr" "this$0" "Ljava/util/ArrayList;" .null := D_it (Or.inr (hw _ (List.mem_of_getElem? (i := 75) rfl))) (ty := (.object "java/util/ArrayList")) (by decide)
  have F_it_lastRet : Fld Z h_it it "java/util/ArrayList$Itr" "lastRet" "I" (.int (0 : Int32)) := D_it (Or.inl (hw _ (List.mem_of_getElem? (i := 78) rfl))) (ty := .int) (by decide)
  have F_it_expectedModCount : Fld Z h_it it "java/util/ArrayList$Itr" "expectedModCount" "I" (.int (0 : Int32)) := D_it (Or.inl (hw _ (List.mem_of_getElem? (i := 82) rfl))) (ty := .int) (by decide)
  have F_it_cursor : Fld Z h_it it "java/util/ArrayList$Itr" "cursor" "I" (.int (0 : Int32)) := D_it (Or.inl (hw _ (List.mem_of_getElem? (i := 93) rfl))) (ty := .int) (by decide)
  replace H := k_dup C H ditr_3 rfl (pc' := 4) rfl
  replace H := k_aloadN C H ditr_4 rfl rfl (pc' := 5) rfl
  replace H := k_callCon C H (rmiti l Z a0 hw it l1 h_it n0 D m X_it F_it_this_0 F_it_lastRet F_it_expectedModCount F_it_cursor n_it X_l1 F_l1_size F_l1_elementData F_l1_modCount n_l1) rfl (hw _ (List.mem_of_getElem? (i := 70) rfl)) (hw _ (List.mem_of_getElem? (i := 71) rfl)) (hw _ (List.mem_of_getElem? (i := 69) rfl)) (hw _ (List.mem_of_getElem? (i := 73) rfl)) (by decide) ditr_5 rfl it [(.ref l1)] [(.ref it)] pditr_0 rfl rfl rfl 1 rfl (by decide) (by decide) (by decide) (by decide) (pc' := 8) rfl
  obtain ⟨_, j18, ⟨rfl, K_j18, FC', FT'⟩, H⟩ := H
  replace H : K 8 #[.val (.ref l1)] [(.ref it)] j18 1 4 := H
  replace X_l1 := X_l1.keep K_j18
  replace F_l1_size := F_l1_size.keep K_j18 (ninS ne_l1_it nin0)
  replace F_l1_elementData := F_l1_elementData.keep K_j18 (ninS ne_l1_it nin0)
  replace F_l1_modCount := F_l1_modCount.keep K_j18 (ninS ne_l1_it nin0)
  replace X_it := X_it.keep K_j18
  replace KK := KK.trans K_j18 (allS (Or.inr s_it) all0)
  have Z_j18 : n0 ≤ j18.size := Nat.le_trans Z_h_it K_j18.1
  exact k_retA C H ditr_8 rfl rfl (by decide) (by decide) ⟨it, rfl, KK, X_it, FC', FT'⟩
theorem dhnx_0 : decode jdk_49_method_2_code 0 = .ok (.aload_n 0, 1) := by decide +kernel
theorem dhnx_1 : decode jdk_49_method_2_code 1 = .ok (.getfield 25, 3) := by decide +kernel
theorem dhnx_4 : decode jdk_49_method_2_code 4 = .ok (.aload_n 0, 1) := by decide +kernel
theorem dhnx_5 : decode jdk_49_method_2_code 5 = .ok (.getfield 1, 3) := by decide +kernel
theorem dhnx_8 : decode jdk_49_method_2_code 8 = .ok (.getfield 28, 3) := by decide +kernel
theorem dhnx_11 : decode jdk_49_method_2_code 11 = .ok (.if_icmp .eq 7, 3) := by decide +kernel
theorem dhnx_18 : decode jdk_49_method_2_code 18 = .ok (.iconst 0, 1) := by decide +kernel
theorem dhnx_19 : decode jdk_49_method_2_code 19 = .ok (.ireturn, 1) := by decide +kernel
theorem pl_hnx : plainFor (⟨"java/util/ArrayList$Itr", "hasNext", "()Z"⟩ : MethodName) = true := plainFor_of_name (by first | (simp [plainName, overriddenIn]; done) | decide +kernel)
theorem ef_hnx (mm : MethodId) (it : Addr) : entryFrame mm #[(.ref it)] 1 = mkF mm 0 #[.val (.ref it)] [] := by first | (simp [entryFrame, mkF, argsToLocals, Value.category]; done) | rfl
set_option maxRecDepth 65536 in
set_option maxHeartbeats 40000000 in
theorem rmhnx (l : Launch) (Z : State) (a0 : Array Value) (hw : ∀ d ∈ tables_1, d.before a0 Z = true) (it : Addr) (h0 : Heap) (n0 : Nat) (l1 : Addr) (FC : Fld Z h0 it "java/util/ArrayList$Itr" "cursor" "I" (.int (0 : Int32))) (FT : Fld Z h0 it "java/util/ArrayList$Itr" "this$0" "Ljava/util/ArrayList;" (.ref l1)) (FS : Fld Z h0 l1 "java/util/ArrayList" "size" "I" (.int (0 : Int32))) :
    Con l (⟨"java/util/ArrayList$Itr", "hasNext", "()Z"⟩ : MethodName) jdk_49_method_2_code 1 (some .boolean) ({ frames := 0, cells := 0, slots := 0, locals := 0 } : Room) Z #[(.ref it)] h0 n0 (fun o h => o = some (.int (0 : Int32)) ∧ h0 = h) := by
  refine Con.enter pl_hnx (fun mm => ef_hnx mm it) ?_
  intro K O C H
  replace H := k_aloadN C H dhnx_0 rfl rfl (pc' := 1) rfl
  replace H := k_getFld C H (hw _ (List.mem_of_getElem? (i := 92) rfl)) FC dhnx_1 (pc' := 4) rfl
  replace H := k_aloadN C H dhnx_4 rfl rfl (pc' := 5) rfl
  replace H := k_getFld C H (hw _ (List.mem_of_getElem? (i := 74) rfl)) FT dhnx_5 (pc' := 8) rfl
  replace H := k_getFldN C H (hw _ (List.mem_of_getElem? (i := 94) rfl)) FS dhnx_8 (pc' := 11) rfl
  replace H := k_icmpY C H dhnx_11 (teq (by decide : (0 : Int32) = (0 : Int32))).1 (by decide) (pc' := 18) rfl
  replace H := k_iconst C H (v := 0) dhnx_18 rfl (pc' := 19) rfl
  exact k_retZ C H dhnx_19 (by decide) (by decide) (by decide) ⟨rfl, rfl⟩
def own_min (p1 : Int32) (p2 : Int32) : Int32 := (if p2 < p1 then p2 else p1)
theorem dmin_0 : decode jdk_29_method_69_code 0 = .ok (.iload_n 0, 1) := by decide +kernel
theorem dmin_1 : decode jdk_29_method_69_code 1 = .ok (.iload_n 1, 1) := by decide +kernel
theorem dmin_2 : decode jdk_29_method_69_code 2 = .ok (.if_icmp .gt 7, 3) := by decide +kernel
theorem dmin_5 : decode jdk_29_method_69_code 5 = .ok (.iload_n 0, 1) := by decide +kernel
theorem dmin_6 : decode jdk_29_method_69_code 6 = .ok (.goto 4, 3) := by decide +kernel
theorem dmin_9 : decode jdk_29_method_69_code 9 = .ok (.iload_n 1, 1) := by decide +kernel
theorem dmin_10 : decode jdk_29_method_69_code 10 = .ok (.ireturn, 1) := by decide +kernel
theorem pl_min : plainFor (⟨"java/lang/Math", "min", "(II)I"⟩ : MethodName) = true := Jvm.Free.JP.mathPlain rfl (by decide +kernel)
theorem ef_min (mm : MethodId) (p1 : Int32) (p2 : Int32) : entryFrame mm #[(.int p1), (.int p2)] 2 = mkF mm 0 #[.val (.int p1), .val (.int p2)] [] := by first | (simp [entryFrame, mkF, argsToLocals, Value.category]; done) | rfl
set_option maxRecDepth 65536 in
set_option maxHeartbeats 40000000 in
theorem rmmin (l : Launch) (Z : State) (a0 : Array Value) (hw : ∀ d ∈ tables_1, d.before a0 Z = true) (p1 : Int32) (p2 : Int32) (h0 : Heap) (n0 : Nat)  :
    Con l (⟨"java/lang/Math", "min", "(II)I"⟩ : MethodName) jdk_29_method_69_code 2 (some .int) ({ frames := 0, cells := 0, slots := 0, locals := 0 } : Room) Z #[(.int p1), (.int p2)] h0 n0 (fun o h => o = some (.int (own_min p1 p2)) ∧ h0 = h) := by
  refine Con.enter pl_min (fun mm => ef_min mm p1 p2) ?_
  intro K O C H
  replace H := k_iloadN C H dmin_0 rfl (pc' := 1) rfl
  replace H := k_iloadN C H dmin_1 rfl (pc' := 2) rfl
  by_cases hc2 : p2 < p1
  · replace H := k_icmpY C H dmin_2 (tlt hc2).2.2.1 (by decide) (pc' := 9) rfl
    replace H := k_iloadN C H dmin_9 rfl (pc' := 10) rfl
    exact k_retI C H dmin_10 (by decide) (by decide) ⟨by rw [own_min, if_pos hc2], rfl⟩
  · replace H := k_icmpN C H dmin_2 (flt hc2).2.2.1 (pc' := 5) rfl
    replace H := k_iloadN C H dmin_5 rfl (pc' := 6) rfl
    replace H := k_goto C H dmin_6 (by decide) (pc' := 10) rfl
    exact k_retI C H dmin_10 (by decide) (by decide) ⟨by rw [own_min, if_neg hc2], rfl⟩
theorem dcp3_0 : decode jdk_65_method_120_code 0 = .ok (.aload_n 2, 1) := by decide +kernel
theorem dcp3_1 : decode jdk_65_method_120_code 1 = .ok (.ldc 110, 2) := by decide +kernel
theorem dcp3_3 : decode jdk_65_method_120_code 3 = .ok (.if_acmp .ne 10, 3) := by decide +kernel
theorem dcp3_6 : decode jdk_65_method_120_code 6 = .ok (.iload_n 1, 1) := by decide +kernel
theorem dcp3_7 : decode jdk_65_method_120_code 7 = .ok (.anewarray 2, 3) := by decide +kernel
theorem dcp3_10 : decode jdk_65_method_120_code 10 = .ok (.goto 14, 3) := by decide +kernel
theorem dcp3_24 : decode jdk_65_method_120_code 24 = .ok (.astore_n 3, 1) := by decide +kernel
theorem dcp3_25 : decode jdk_65_method_120_code 25 = .ok (.aload_n 0, 1) := by decide +kernel
theorem dcp3_26 : decode jdk_65_method_120_code 26 = .ok (.iconst 0, 1) := by decide +kernel
theorem dcp3_27 : decode jdk_65_method_120_code 27 = .ok (.aload_n 3, 1) := by decide +kernel
theorem dcp3_28 : decode jdk_65_method_120_code 28 = .ok (.iconst 0, 1) := by decide +kernel
theorem dcp3_29 : decode jdk_65_method_120_code 29 = .ok (.aload_n 0, 1) := by decide +kernel
theorem dcp3_30 : decode jdk_65_method_120_code 30 = .ok (.arraylength, 1) := by decide +kernel
theorem dcp3_31 : decode jdk_65_method_120_code 31 = .ok (.iload_n 1, 1) := by decide +kernel
theorem dcp3_32 : decode jdk_65_method_120_code 32 = .ok (.invokestatic 304, 3) := by decide +kernel
theorem dcp3_35 : decode jdk_65_method_120_code 35 = .ok (.invokestatic 150, 3) := by decide +kernel
theorem dcp3_38 : decode jdk_65_method_120_code 38 = .ok (.aload_n 3, 1) := by decide +kernel
theorem dcp3_39 : decode jdk_65_method_120_code 39 = .ok (.areturn, 1) := by decide +kernel
theorem pdcp3_0 : parseMethodDescriptor "(II)I" = some ⟨[.int, .int], some .int⟩ := by decide +kernel
theorem pl_cp3 : plainFor (⟨"java/util/Arrays", "copyOf", "([Ljava/lang/Object;ILjava/lang/Class;)[Ljava/lang/Object;"⟩ : MethodName) = true := plainFor_of_name (by first | (simp [plainName, overriddenIn]; done) | decide +kernel)
theorem ef_cp3 (mm : MethodId) (D : Addr) (p1 : Int32) (mr : Addr) : entryFrame mm #[(.ref D), (.int p1), (.ref mr)] 4 = mkF mm 0 #[.val (.ref D), .val (.int p1), .val (.ref mr), .unset] [] := by first | (simp [entryFrame, mkF, argsToLocals, Value.category]; done) | rfl
set_option maxRecDepth 65536 in
set_option maxHeartbeats 40000000 in
theorem rmcp3 (l : Launch) (Z : State) (a0 : Array Value) (hw : ∀ d ∈ tables_1, d.before a0 Z = true) (D : Addr) (p1 : Int32) (mr : Addr) (h0 : Heap) (n0 : Nat) (q1 : p1 = (0 : Int32)) (Z0 : n0 ≤ h0.size) (kD : ClassId) (fD : Nat → Value) (AD : Arf Z h0 D kD (.object "java/lang/Object") 0 fD) (M : Mir Z "[Ljava/lang/Object;" mr) :
    Con l (⟨"java/util/Arrays", "copyOf", "([Ljava/lang/Object;ILjava/lang/Class;)[Ljava/lang/Object;"⟩ : MethodName) jdk_65_method_120_code 4 (some (.array (.object "java/lang/Object"))) ({ frames := 1, cells := 1, slots := 0, locals := 40 } : Room) Z #[(.ref D), (.int p1), (.ref mr)] h0 n0 (fun o h => ∃ (t : Addr) (kt : ClassId), o = some (.ref t) ∧ Keep h0 h [] ∧ Arf Z h t kt (.object "java/lang/Object") 0 (fun _ => .null)) := by
  refine Con.enter pl_cp3 (fun mm => ef_cp3 mm D p1 mr) ?_
  intro K O C H
  subst q1
  replace H : K 0 #[.val (.ref D), .val (.int (0 : Int32)), .val (.ref mr), .unset] [] h0 0 0 := H
  have KK : Keep h0 h0 [] := Keep.refl h0 _
  replace H := k_aloadN C H dcp3_0 rfl rfl (pc' := 1) rfl
  replace H := k_ldcCls C H (hw _ (List.mem_of_getElem? (i := 173) rfl)) M dcp3_1 (pc' := 3) rfl
  replace H := k_acmp C H dcp3_3 rfl rfl (same := true) (decide_eq_true rfl) (by decide) (pc' := 6) (by decide)
  replace H := k_iloadN C H dcp3_6 rfl (pc' := 7) rfl
  replace H := k_newRef C H (hw _ (List.mem_of_getElem? (i := 174) rfl)) (hw _ (List.mem_of_getElem? (i := 175) rfl)) dcp3_7 (by decide) (cap := 0) (by decide) (by decide) (by decide) (by decide) (pc' := 10) rfl
  obtain ⟨h_t, t, kt, g_t, E_t, A_t, O_t, H⟩ := H
  replace H : K 10 #[.val (.ref D), .val (.int (0 : Int32)), .val (.ref mr), .unset] [(.ref t)] h_t 1 0 := H
  have ne_D_t : D ≠ t := Nat.ne_of_lt (Nat.lt_of_lt_of_le AD.lt (Nat.le_of_eq g_t.symm))
  have n_t : n0 ≤ t := Nat.le_trans Z0 (Nat.le_of_eq g_t.symm)
  have s_t : h0.size ≤ t := Nat.le_trans KK.1 (Nat.le_of_eq g_t.symm)
  replace AD := AD.ext E_t
  replace KK := KK.ext E_t
  have Z_h_t : n0 ≤ h_t.size := Nat.le_trans Z0 E_t.1
  have V_t : Arf Z h_t t kt (.object "java/lang/Object") 0 (fun _ => .null) := Arf.ofNew A_t (by decide) rfl
  replace H := k_goto C H dcp3_10 (by decide) (pc' := 24) rfl
  replace H := k_astoreN C H dcp3_24 (L' := #[.val (.ref D), .val (.int (0 : Int32)), .val (.ref mr), .val (.ref t)]) rfl rfl (pc' := 25) rfl
  replace H := k_aloadN C H dcp3_25 rfl rfl (pc' := 26) rfl
  replace H := k_iconst C H (v := 0) dcp3_26 rfl (pc' := 27) rfl
  replace H := k_aloadN C H dcp3_27 rfl rfl (pc' := 28) rfl
  replace H := k_iconst C H (v := 0) dcp3_28 rfl (pc' := 29) rfl
  replace H := k_aloadN C H dcp3_29 rfl rfl (pc' := 30) rfl
  replace H := k_arflen C H AD dcp3_30 (pc' := 31) rfl
  replace H : K 31 #[.val (.ref D), .val (.int (0 : Int32)), .val (.ref mr), .val (.ref t)] [(.int (0 : Int32)), (.int (0 : Int32)), (.ref t), (.int (0 : Int32)), (.ref D)] h_t 1 0 := H
  replace H := k_iloadN C H dcp3_31 rfl (pc' := 32) rfl
  replace H := k_callSta C H (rmmin l Z a0 hw (0 : Int32) (0 : Int32) h_t n0) (hw _ (List.mem_of_getElem? (i := 176) rfl)) (hw _ (List.mem_of_getElem? (i := 177) rfl)) (hw _ (List.mem_of_getElem? (i := 178) rfl)) (hw _ (List.mem_of_getElem? (i := 179) rfl)) (by decide) dcp3_32 rfl [(.int (0 : Int32)), (.int (0 : Int32))] [(.int (0 : Int32)), (.ref t), (.int (0 : Int32)), (.ref D)] pdcp3_0 rfl rfl rfl 4 rfl (by decide) (by decide) (by decide) (by decide) (pc' := 35) rfl
  obtain ⟨_, _, ⟨rfl, rfl⟩, H⟩ := H
  replace H : K 35 #[.val (.ref D), .val (.int (0 : Int32)), .val (.ref mr), .val (.ref t)] [(.int (own_min (0 : Int32) (0 : Int32))), (.int (0 : Int32)), (.ref t), (.int (0 : Int32)), (.ref D)] h_t 1 0 := H
  have lk : own_min (0 : Int32) (0 : Int32) = (0 : Int32) := by decide
  rw [lk] at H
  replace H : K 35 #[.val (.ref D), .val (.int (0 : Int32)), .val (.ref mr), .val (.ref t)] [(.int (0 : Int32)), (.int (0 : Int32)), (.ref t), (.int (0 : Int32)), (.ref D)] h_t 1 0 := H
  replace H := k_copyR00 C H AD V_t rfl rfl n_t (hw _ (List.mem_of_getElem? (i := 180) rfl)) (hw _ (List.mem_of_getElem? (i := 183) rfl)) (hw _ (List.mem_of_getElem? (i := 181) rfl)) (hw _ (List.mem_of_getElem? (i := 182) rfl)) dcp3_35 rfl (by decide) 0 rfl (by decide) (pc' := 38) rfl
  obtain ⟨j19, K_j19, V_t', H⟩ := H
  replace H : K 38 #[.val (.ref D), .val (.int (0 : Int32)), .val (.ref mr), .val (.ref t)] [] j19 1 0 := H
  replace AD := AD.keep K_j19 (ninS ne_D_t nin0)
  replace KK := KK.trans K_j19 (allS (Or.inr s_t) all0)
  have Z_j19 : n0 ≤ j19.size := Nat.le_trans Z_h_t K_j19.1
  replace H := k_aloadN C H dcp3_38 rfl rfl (pc' := 39) rfl
  exact k_retA C H dcp3_39 rfl rfl (by decide) (by decide) ⟨t, kt, rfl, KK, V_t'⟩
theorem dcp2_0 : decode jdk_65_method_119_code 0 = .ok (.aload_n 0, 1) := by decide +kernel
theorem dcp2_1 : decode jdk_65_method_119_code 1 = .ok (.iload_n 1, 1) := by decide +kernel
theorem dcp2_2 : decode jdk_65_method_119_code 2 = .ok (.aload_n 0, 1) := by decide +kernel
theorem dcp2_3 : decode jdk_65_method_119_code 3 = .ok (.invokevirtual 86, 3) := by decide +kernel
theorem dcp2_6 : decode jdk_65_method_119_code 6 = .ok (.invokestatic 300, 3) := by decide +kernel
theorem dcp2_9 : decode jdk_65_method_119_code 9 = .ok (.areturn, 1) := by decide +kernel
theorem pdcp2_0 : parseMethodDescriptor "([Ljava/lang/Object;ILjava/lang/Class;)[Ljava/lang/Object;" = some ⟨[(.array (.object "java/lang/Object")), .int, (.object "java/lang/Class")], some (.array (.object "java/lang/Object"))⟩ := by decide +kernel
theorem pl_cp2 : plainFor (⟨"java/util/Arrays", "copyOf", "([Ljava/lang/Object;I)[Ljava/lang/Object;"⟩ : MethodName) = true := plainFor_of_name (by first | (simp [plainName, overriddenIn]; done) | decide +kernel)
theorem ef_cp2 (mm : MethodId) (D : Addr) (p1 : Int32) : entryFrame mm #[(.ref D), (.int p1)] 2 = mkF mm 0 #[.val (.ref D), .val (.int p1)] [] := by first | (simp [entryFrame, mkF, argsToLocals, Value.category]; done) | rfl
set_option maxRecDepth 65536 in
set_option maxHeartbeats 40000000 in
theorem rmcp2 (l : Launch) (Z : State) (a0 : Array Value) (hw : ∀ d ∈ tables_1, d.before a0 Z = true) (D : Addr) (p1 : Int32) (h0 : Heap) (n0 : Nat) (q1 : p1 = (0 : Int32)) (Z0 : n0 ≤ h0.size) (kD : ClassId) (fD : Nat → Value) (mr : Addr) (AD : Arf Z h0 D kD (.object "java/lang/Object") 0 fD) (XD : Exa Z h0 D "[Ljava/lang/Object;") (M : Mir Z "[Ljava/lang/Object;" mr) :
    Con l (⟨"java/util/Arrays", "copyOf", "([Ljava/lang/Object;I)[Ljava/lang/Object;"⟩ : MethodName) jdk_65_method_119_code 2 (some (.array (.object "java/lang/Object"))) ({ frames := 2, cells := 1, slots := 0, locals := 55 } : Room) Z #[(.ref D), (.int p1)] h0 n0 (fun o h => ∃ (t : Addr) (kt : ClassId), o = some (.ref t) ∧ Keep h0 h [] ∧ Arf Z h t kt (.object "java/lang/Object") 0 (fun _ => .null)) := by
  refine Con.enter pl_cp2 (fun mm => ef_cp2 mm D p1) ?_
  intro K O C H
  subst q1
  replace H : K 0 #[.val (.ref D), .val (.int (0 : Int32))] [] h0 0 0 := H
  replace H := k_aloadN C H dcp2_0 rfl rfl (pc' := 1) rfl
  replace H := k_iloadN C H dcp2_1 rfl (pc' := 2) rfl
  replace H := k_aloadN C H dcp2_2 rfl rfl (pc' := 3) rfl
  replace H := k_getCls C H (hw _ (List.mem_of_getElem? (i := 164) rfl)) (hw _ (List.mem_of_getElem? (i := 165) rfl)) (hw _ (List.mem_of_getElem? (i := 53) rfl)) (hw _ (List.mem_of_getElem? (i := 167) rfl)) (hw _ (List.mem_of_getElem? (i := 166) rfl)) (hw _ (List.mem_of_getElem? (i := 168) rfl)) XD M dcp2_3 rfl (by decide) 2 rfl (by decide) (pc' := 6) rfl
  replace H : K 6 #[.val (.ref D), .val (.int (0 : Int32))] [(.ref mr), (.int (0 : Int32)), (.ref D)] h0 0 0 := H
  replace H := k_callSta C H (rmcp3 l Z a0 hw D (0 : Int32) mr h0 n0 rfl Z0 kD fD AD M) (hw _ (List.mem_of_getElem? (i := 170) rfl)) (hw _ (List.mem_of_getElem? (i := 171) rfl)) (hw _ (List.mem_of_getElem? (i := 162) rfl)) (hw _ (List.mem_of_getElem? (i := 172) rfl)) (by decide) dcp2_6 rfl [(.ref D), (.int (0 : Int32)), (.ref mr)] [] pdcp2_0 rfl rfl rfl 0 rfl (by decide) (by decide) (by decide) (by decide) (pc' := 9) rfl
  obtain ⟨_, j20, ⟨t, kt, rfl, K_j20, V_t⟩, H⟩ := H
  replace H : K 9 #[.val (.ref D), .val (.int (0 : Int32))] [(.ref t)] j20 1 0 := H
  exact k_retA C H dcp2_9 rfl rfl (by decide) (by decide) ⟨t, kt, rfl, K_j20, V_t⟩
theorem dtar_0 : decode jdk_38_method_16_code 0 = .ok (.aload_n 0, 1) := by decide +kernel
theorem dtar_1 : decode jdk_38_method_16_code 1 = .ok (.getfield 9, 3) := by decide +kernel
theorem dtar_4 : decode jdk_38_method_16_code 4 = .ok (.aload_n 0, 1) := by decide +kernel
theorem dtar_5 : decode jdk_38_method_16_code 5 = .ok (.getfield 48, 3) := by decide +kernel
theorem dtar_8 : decode jdk_38_method_16_code 8 = .ok (.invokestatic 66, 3) := by decide +kernel
theorem dtar_11 : decode jdk_38_method_16_code 11 = .ok (.areturn, 1) := by decide +kernel
theorem pdtar_0 : parseMethodDescriptor "([Ljava/lang/Object;I)[Ljava/lang/Object;" = some ⟨[(.array (.object "java/lang/Object")), .int], some (.array (.object "java/lang/Object"))⟩ := by decide +kernel
theorem pl_tar : plainFor (⟨"java/util/ArrayList", "toArray", "()[Ljava/lang/Object;"⟩ : MethodName) = true := plainFor_of_name (by first | (simp [plainName, overriddenIn]; done) | decide +kernel)
theorem ef_tar (mm : MethodId) (l1 : Addr) : entryFrame mm #[(.ref l1)] 1 = mkF mm 0 #[.val (.ref l1)] [] := by first | (simp [entryFrame, mkF, argsToLocals, Value.category]; done) | rfl
set_option maxRecDepth 65536 in
set_option maxHeartbeats 40000000 in
theorem rmtar (l : Launch) (Z : State) (a0 : Array Value) (hw : ∀ d ∈ tables_1, d.before a0 Z = true) (l1 : Addr) (h0 : Heap) (n0 : Nat) (D : Addr) (m : Int32) (Z0 : n0 ≤ h0.size) (kD : ClassId) (fD : Nat → Value) (mr : Addr) (AD : Arf Z h0 D kD (.object "java/lang/Object") 0 fD) (XD : Exa Z h0 D "[Ljava/lang/Object;") (M : Mir Z "[Ljava/lang/Object;" mr) (X_l1 : Exa Z h0 l1 "java/util/ArrayList") (F_l1_size : Fld Z h0 l1 "java/util/ArrayList" "size" "I" (.int (0 : Int32))) (F_l1_elementData : Fld Z h0 l1 "java/util/ArrayList" "elementData" "[Ljava/lang/Object;" (.ref D)) (F_l1_modCount : Fld Z h0 l1 "java/util/AbstractList" "modCount" "I" (.int m)) (n_l1 : n0 ≤ l1) :
    Con l (⟨"java/util/ArrayList", "toArray", "()[Ljava/lang/Object;"⟩ : MethodName) jdk_38_method_16_code 1 (some (.array (.object "java/lang/Object"))) ({ frames := 3, cells := 1, slots := 0, locals := 68 } : Room) Z #[(.ref l1)] h0 n0 (fun o h => ∃ (t : Addr) (kt : ClassId), o = some (.ref t) ∧ Keep h0 h [] ∧ Arf Z h t kt (.object "java/lang/Object") 0 (fun _ => .null)) := by
  refine Con.enter pl_tar (fun mm => ef_tar mm l1) ?_
  intro K O C H
  replace H := k_aloadN C H dtar_0 rfl rfl (pc' := 1) rfl
  replace H := k_getFld C H (hw _ (List.mem_of_getElem? (i := 31) rfl)) F_l1_elementData dtar_1 (pc' := 4) rfl
  replace H := k_aloadN C H dtar_4 rfl rfl (pc' := 5) rfl
  replace H := k_getFld C H (hw _ (List.mem_of_getElem? (i := 159) rfl)) F_l1_size dtar_5 (pc' := 8) rfl
  replace H := k_callSta C H (rmcp2 l Z a0 hw D (0 : Int32) h0 n0 rfl Z0 kD fD mr AD XD M) (hw _ (List.mem_of_getElem? (i := 160) rfl)) (hw _ (List.mem_of_getElem? (i := 161) rfl)) (hw _ (List.mem_of_getElem? (i := 162) rfl)) (hw _ (List.mem_of_getElem? (i := 163) rfl)) (by decide) dtar_8 rfl [(.ref D), (.int (0 : Int32))] [] pdtar_0 rfl rfl rfl 0 rfl (by decide) (by decide) (by decide) (by decide) (pc' := 11) rfl
  obtain ⟨_, j21, ⟨t, kt, rfl, K_j21, V_t⟩, H⟩ := H
  replace H : K 11 #[.val (.ref l1)] [(.ref t)] j21 1 0 := H
  exact k_retA C H dtar_11 rfl rfl (by decide) (by decide) ⟨t, kt, rfl, K_j21, V_t⟩
theorem dada_0 : decode jdk_38_method_41_code 0 = .ok (.aload_n 1, 1) := by decide +kernel
theorem dada_1 : decode jdk_38_method_41_code 1 = .ok (.invokeinterface 42 1, 5) := by decide +kernel
theorem dada_6 : decode jdk_38_method_41_code 6 = .ok (.astore_n 2, 1) := by decide +kernel
theorem dada_7 : decode jdk_38_method_41_code 7 = .ok (.aload_n 0, 1) := by decide +kernel
theorem dada_8 : decode jdk_38_method_41_code 8 = .ok (.dup, 1) := by decide +kernel
theorem dada_9 : decode jdk_38_method_41_code 9 = .ok (.getfield 63, 3) := by decide +kernel
theorem dada_12 : decode jdk_38_method_41_code 12 = .ok (.iconst 1, 1) := by decide +kernel
theorem dada_13 : decode jdk_38_method_41_code 13 = .ok (.iadd, 1) := by decide +kernel
theorem dada_14 : decode jdk_38_method_41_code 14 = .ok (.putfield 63, 3) := by decide +kernel
theorem dada_17 : decode jdk_38_method_41_code 17 = .ok (.aload_n 2, 1) := by decide +kernel
theorem dada_18 : decode jdk_38_method_41_code 18 = .ok (.arraylength, 1) := by decide +kernel
theorem dada_19 : decode jdk_38_method_41_code 19 = .ok (.istore_n 3, 1) := by decide +kernel
theorem dada_20 : decode jdk_38_method_41_code 20 = .ok (.iload_n 3, 1) := by decide +kernel
theorem dada_21 : decode jdk_38_method_41_code 21 = .ok (.ifCond .ne 5, 3) := by decide +kernel
theorem dada_24 : decode jdk_38_method_41_code 24 = .ok (.iconst 0, 1) := by decide +kernel
theorem dada_25 : decode jdk_38_method_41_code 25 = .ok (.ireturn, 1) := by decide +kernel
theorem pdada_0 : parseMethodDescriptor "()[Ljava/lang/Object;" = some ⟨[], some (.array (.object "java/lang/Object"))⟩ := by decide +kernel
theorem pl_ada : plainFor (⟨"java/util/ArrayList", "addAll", "(Ljava/util/Collection;)Z"⟩ : MethodName) = true := plainFor_of_name (by first | (simp [plainName, overriddenIn]; done) | decide +kernel)
theorem ef_ada (mm : MethodId) (l1 : Addr) (l2 : Addr) : entryFrame mm #[(.ref l1), (.ref l2)] 6 = mkF mm 0 #[.val (.ref l1), .val (.ref l2), .unset, .unset, .unset, .unset] [] := by first | (simp [entryFrame, mkF, argsToLocals, Value.category]; done) | rfl
set_option maxRecDepth 65536 in
set_option maxHeartbeats 40000000 in
theorem rmada (l : Launch) (Z : State) (a0 : Array Value) (hw : ∀ d ∈ tables_1, d.before a0 Z = true) (l1 : Addr) (l2 : Addr) (h0 : Heap) (n0 : Nat) (D : Addr) (m m2 : Int32) (kD : ClassId) (fD : Nat → Value) (mr : Addr) (AD : Arf Z h0 D kD (.object "java/lang/Object") 0 fD) (XD : Exa Z h0 D "[Ljava/lang/Object;") (M : Mir Z "[Ljava/lang/Object;" mr) (X_l1 : Exa Z h0 l1 "java/util/ArrayList") (F_l1_size : Fld Z h0 l1 "java/util/ArrayList" "size" "I" (.int (0 : Int32))) (F_l1_elementData : Fld Z h0 l1 "java/util/ArrayList" "elementData" "[Ljava/lang/Object;" (.ref D)) (F_l1_modCount : Fld Z h0 l1 "java/util/AbstractList" "modCount" "I" (.int m)) (n_l1 : n0 ≤ l1) (X_l2 : Exa Z h0 l2 "java/util/ArrayList") (F_l2_size : Fld Z h0 l2 "java/util/ArrayList" "size" "I" (.int (0 : Int32))) (F_l2_elementData : Fld Z h0 l2 "java/util/ArrayList" "elementData" "[Ljava/lang/Object;" (.ref D)) (F_l2_modCount : Fld Z h0 l2 "java/util/AbstractList" "modCount" "I" (.int m2)) (n_l2 : n0 ≤ l2) :
    Con l (⟨"java/util/ArrayList", "addAll", "(Ljava/util/Collection;)Z"⟩ : MethodName) jdk_38_method_41_code 6 (some .boolean) ({ frames := 4, cells := 1, slots := 0, locals := 80 } : Room) Z #[(.ref l1), (.ref l2)] h0 n0 (fun o h => o = some (.int (0 : Int32)) ∧ Keep h0 h [l1] ∧ Fld Z h l1 "java/util/ArrayList" "size" "I" (.int (0 : Int32)) ∧ Fld Z h l1 "java/util/ArrayList" "elementData" "[Ljava/lang/Object;" (.ref D) ∧ Fld Z h l1 "java/util/AbstractList" "modCount" "I" (.int (m + (1 : Int32)))) := by
  refine Con.enter pl_ada (fun mm => ef_ada mm l1 l2) ?_
  intro K O C H
  have KK : Keep h0 h0 [l1] := Keep.refl h0 _
  replace H := k_aloadN C H dada_0 rfl rfl (pc' := 1) rfl
  replace H := k_callInt C H (rmtar l Z a0 hw l2 h0 n0 D m2 (Nat.le_trans n_l1 (Nat.le_of_lt X_l1.lt)) kD fD mr AD XD M X_l2 F_l2_size F_l2_elementData F_l2_modCount n_l2) X_l2 (hw _ (List.mem_of_getElem? (i := 150) rfl)) (hw _ (List.mem_of_getElem? (i := 151) rfl)) (hw _ (List.mem_of_getElem? (i := 152) rfl)) rfl (hw _ (List.mem_of_getElem? (i := 153) rfl)) (hw _ (List.mem_of_getElem? (i := 154) rfl)) (hw _ (List.mem_of_getElem? (i := 155) rfl)) (hw _ (List.mem_of_getElem? (i := 156) rfl)) (hw _ (List.mem_of_getElem? (i := 157) rfl)) (hw _ (List.mem_of_getElem? (i := 11) rfl)) (hw _ (List.mem_of_getElem? (i := 158) rfl)) (by decide) dada_1 rfl [] [] pdada_0 rfl rfl rfl 0 rfl (by decide) (by decide) (by decide) (by decide) (pc' := 6) rfl
  obtain ⟨_, j22, ⟨t, kt, rfl, K_j22, V_t⟩, H⟩ := H
  replace H : K 6 #[.val (.ref l1), .val (.ref l2), .unset, .unset, .unset, .unset] [(.ref t)] j22 1 0 := H
  replace X_l1 := X_l1.keep K_j22
  replace F_l1_size := F_l1_size.keep K_j22 nin0
  replace F_l1_elementData := F_l1_elementData.keep K_j22 nin0
  replace F_l1_modCount := F_l1_modCount.keep K_j22 nin0
  replace KK := KK.trans K_j22 all0
  have ne_t_l1 : t ≠ l1 := V_t.neX X_l1 (hw _ (List.mem_of_getElem? (i := 10) rfl))
  replace H := k_astoreN C H dada_6 (L' := #[.val (.ref l1), .val (.ref l2), .val (.ref t), .unset, .unset, .unset]) rfl rfl (pc' := 7) rfl
  replace H := k_aloadN C H dada_7 rfl rfl (pc' := 8) rfl
  replace H := k_dup C H dada_8 rfl (pc' := 9) rfl
  replace H := k_getFldV C H (hw _ (List.mem_of_getElem? (i := 184) rfl)) (hw _ (List.mem_of_getElem? (i := 80) rfl)) F_l1_modCount dada_9 (pc' := 12) rfl
  replace H := k_iconst C H (v := 1) dada_12 rfl (pc' := 13) rfl
  replace H := k_iadd C H dada_13 (pc' := 14) rfl
  replace H := k_putFldV C H (hw _ (List.mem_of_getElem? (i := 184) rfl)) (hw _ (List.mem_of_getElem? (i := 80) rfl)) F_l1_modCount X_l1 (hw _ (List.mem_of_getElem? (i := 29) rfl)) (hw _ (List.mem_of_getElem? (i := 10) rfl)) (ty := .int) (by decide) (v' := (.int (m + (1 : Int32)))) rfl rfl n_l1 dada_14 (pc' := 17) rfl
  obtain ⟨j23, W_j23, H⟩ := H
  replace X_l1 := X_l1.wr W_j23
  replace F_l1_size := F_l1_size.other W_j23 (Or.inr (slot_ne (Or.inl (hw _ (List.mem_of_getElem? (i := 95) rfl))) (Or.inl (hw _ (List.mem_of_getElem? (i := 29) rfl))) (by decide) (t := .int) (t' := .int) (by decide) (by decide)))
  replace F_l1_elementData := F_l1_elementData.other W_j23 (Or.inr (slot_ne (Or.inl (hw _ (List.mem_of_getElem? (i := 32) rfl))) (Or.inl (hw _ (List.mem_of_getElem? (i := 29) rfl))) (by decide) (t := (.array (.object "java/lang/Object"))) (t' := .int) (by decide) (by decide)))
  replace F_l1_modCount := F_l1_modCount.same W_j23
  replace V_t := V_t.other W_j23 ne_t_l1
  replace KK := KK.wr W_j23 (Or.inl (List.mem_of_getElem? (i := 0) rfl))
  replace H := k_aloadN C H dada_17 rfl rfl (pc' := 18) rfl
  replace H := k_arflen C H V_t dada_18 (pc' := 19) rfl
  replace H : K 19 #[.val (.ref l1), .val (.ref l2), .val (.ref t), .unset, .unset, .unset] [(.int (0 : Int32))] j23 1 0 := H
  replace H := k_istoreN C H dada_19 (L' := #[.val (.ref l1), .val (.ref l2), .val (.ref t), .val (.int (0 : Int32)), .unset, .unset]) rfl (pc' := 20) rfl
  replace H := k_iloadN C H dada_20 rfl (pc' := 21) rfl
  replace H := k_ifcN C H dada_21 (teq (by decide : (0 : Int32) = (0 : Int32))).2 (pc' := 24) rfl
  replace H := k_iconst C H (v := 0) dada_24 rfl (pc' := 25) rfl
  exact k_retZ C H dada_25 (by decide) (by decide) (by decide) ⟨rfl, KK, F_l1_size, F_l1_elementData, F_l1_modCount⟩
theorem dres_0 : decode prog_29_method_4_code 0 = .ok (.aload_n 0, 1) := by decide +kernel
theorem dres_1 : decode prog_29_method_4_code 1 = .ok (.astore_n 1, 1) := by decide +kernel
theorem dres_2 : decode prog_29_method_4_code 2 = .ok (.aload_n 1, 1) := by decide +kernel
theorem dres_3 : decode prog_29_method_4_code 3 = .ok (.instanceof 11, 3) := by decide +kernel
theorem dres_6 : decode prog_29_method_4_code 6 = .ok (.ifCond .eq 23, 3) := by decide +kernel
theorem dres_9 : decode prog_29_method_4_code 9 = .ok (.aload_n 1, 1) := by decide +kernel
theorem dres_10 : decode prog_29_method_4_code 10 = .ok (.checkcast 11, 3) := by decide +kernel
theorem dres_13 : decode prog_29_method_4_code 13 = .ok (.astore_n 2, 1) := by decide +kernel
theorem dres_14 : decode prog_29_method_4_code 14 = .ok (.aload_n 2, 1) := by decide +kernel
theorem dres_15 : decode prog_29_method_4_code 15 = .ok (.getfield 30, 3) := by decide +kernel
theorem dres_18 : decode prog_29_method_4_code 18 = .ok (.ifCond .eq 11, 3) := by decide +kernel
theorem dres_21 : decode prog_29_method_4_code 21 = .ok (.aload_n 2, 1) := by decide +kernel
theorem dres_22 : decode prog_29_method_4_code 22 = .ok (.getfield 26, 3) := by decide +kernel
theorem dres_25 : decode prog_29_method_4_code 25 = .ok (.astore_n 1, 1) := by decide +kernel
theorem dres_26 : decode prog_29_method_4_code 26 = .ok (.goto (-24), 3) := by decide +kernel
theorem dres_29 : decode prog_29_method_4_code 29 = .ok (.aload_n 1, 1) := by decide +kernel
theorem dres_30 : decode prog_29_method_4_code 30 = .ok (.areturn, 1) := by decide +kernel
theorem pl_res : plainFor (⟨"com/example/sealer/sealer/Promise", "resolution", "(Ljava/lang/Object;)Ljava/lang/Object;"⟩ : MethodName) = true := plainFor_of_name (by first | (simp [plainName, overriddenIn]; done) | decide +kernel)
theorem ef_res (mm : MethodId) (v : Value) (hv : v.isRef = true) : entryFrame mm #[v] 3 = mkF mm 0 #[.val v, .unset, .unset] [] := by rcases ref_cases hv with rfl | ⟨_, rfl⟩ <;> first | (simp [entryFrame, mkF, argsToLocals, Value.category]; done) | rfl
set_option maxRecDepth 65536 in
set_option maxHeartbeats 40000000 in
theorem rmres (l : Launch) (Z : State) (a0 : Array Value) (hw : ∀ d ∈ tables_1, d.before a0 Z = true) (v : Value) (hv : v.isRef = true) (h0 : Heap) (n0 : Nat) (D : Addr) (n : Nat) (r : Value) (RS : own_Res Z h0 n0 D n v r) :
    Con l (⟨"com/example/sealer/sealer/Promise", "resolution", "(Ljava/lang/Object;)Ljava/lang/Object;"⟩ : MethodName) prog_29_method_4_code 3 (some (.object "java/lang/Object")) ({ frames := 0, cells := 0, slots := 0, locals := 0 } : Room) Z #[v] h0 n0 (fun o h => o = some r ∧ h0 = h) := by
  refine Con.enter pl_res (fun mm => ef_res mm v hv) ?_
  intro K O C H
  replace H := k_aloadN C H dres_0 rfl hv (pc' := 1) rfl
  replace H := k_astoreN C H dres_1 (L' := #[.val v, .val v, .unset]) hv (by rcases ref_cases hv with q | ⟨_, q⟩ <;> rw [q] <;> rfl) (pc' := 2) rfl
  suffices loop : ∀ (n : Nat) (u : Value) (s2 : Slot), (s2 = .unset ∨ ∃ x, s2 = .val (.ref x)) → u.isRef = true → own_Res Z h0 n0 D n u r → K 2 #[.val v, .val u, s2] [] h0 0 0 → O from loop n v .unset (Or.inl rfl) hv RS H
  clear H RS
  intro n
  induction n with
  | zero =>
    intro u s2 hs hu R H
    obtain ⟨er, Lf⟩ := R
    rcases Lf with rfl | ⟨a, C', rfl, E, N⟩ | ⟨a, rfl, U⟩
    · replace H := k_aloadN C H dres_2 rfl rfl (pc' := 3) rfl
      replace H := k_instNull C H dres_3 (pc' := 6) rfl
      replace H := k_ifcY C H dres_6 (teq (by decide : (0 : Int32) = (0 : Int32))).1 (by decide) (pc' := 29) rfl
      replace H := k_aloadN C H dres_29 rfl rfl (pc' := 30) rfl
      exact k_retA C H dres_30 rfl rfl (by decide) (by decide) ⟨congrArg some er, rfl⟩
    · replace H := k_aloadN C H dres_2 rfl rfl (pc' := 3) rfl
      replace H := k_instNot C H (hw _ (List.mem_of_getElem? (i := 50) rfl)) E N.2 dres_3 (pc' := 6) rfl
      replace H := k_ifcY C H dres_6 (teq (by decide : (0 : Int32) = (0 : Int32))).1 (by decide) (pc' := 29) rfl
      replace H := k_aloadN C H dres_29 rfl rfl (pc' := 30) rfl
      exact k_retA C H dres_30 rfl rfl (by decide) (by decide) ⟨congrArg some er, rfl⟩
    · replace H := k_aloadN C H dres_2 rfl rfl (pc' := 3) rfl
      replace H := k_instYes C H (hw _ (List.mem_of_getElem? (i := 50) rfl)) (Ins.self U.2.1) dres_3 (pc' := 6) rfl
      replace H := k_ifcN C H dres_6 (feq (by decide : ¬ ((1 : Int32) = (0 : Int32)))).1 (pc' := 9) rfl
      replace H := k_aloadN C H dres_9 rfl rfl (pc' := 10) rfl
      replace H := k_castYes C H (hw _ (List.mem_of_getElem? (i := 50) rfl)) (Ins.self U.2.1) dres_10 (pc' := 13) rfl
      replace H := k_astoreN C H dres_13 (L' := #[.val v, .val (.ref a), .val (.ref a)]) rfl (by rcases hs with rfl | ⟨_, rfl⟩ <;> rfl) (pc' := 14) rfl
      replace H := k_aloadN C H dres_14 rfl rfl (pc' := 15) rfl
      replace H := k_getFld C H (hw _ (List.mem_of_getElem? (i := 56) rfl)) U.2.2.1 dres_15 (pc' := 18) rfl
      replace H := k_ifcY C H dres_18 (teq (by decide : (0 : Int32) = (0 : Int32))).1 (by decide) (pc' := 29) rfl
      replace H := k_aloadN C H dres_29 rfl rfl (pc' := 30) rfl
      exact k_retA C H dres_30 rfl rfl (by decide) (by decide) ⟨congrArg some er, rfl⟩
  | succ n ih =>
    intro u s2 hs hu R H
    obtain ⟨a, u', rfl, Dd, hu', R'⟩ := R
    replace H := k_aloadN C H dres_2 rfl rfl (pc' := 3) rfl
    replace H := k_instYes C H (hw _ (List.mem_of_getElem? (i := 50) rfl)) (Ins.self Dd.1) dres_3 (pc' := 6) rfl
    replace H := k_ifcN C H dres_6 (feq (by decide : ¬ ((1 : Int32) = (0 : Int32)))).1 (pc' := 9) rfl
    replace H := k_aloadN C H dres_9 rfl rfl (pc' := 10) rfl
    replace H := k_castYes C H (hw _ (List.mem_of_getElem? (i := 50) rfl)) (Ins.self Dd.1) dres_10 (pc' := 13) rfl
    replace H := k_astoreN C H dres_13 (L' := #[.val v, .val (.ref a), .val (.ref a)]) rfl (by rcases hs with rfl | ⟨_, rfl⟩ <;> rfl) (pc' := 14) rfl
    replace H := k_aloadN C H dres_14 rfl rfl (pc' := 15) rfl
    replace H := k_getFld C H (hw _ (List.mem_of_getElem? (i := 56) rfl)) Dd.2.1 dres_15 (pc' := 18) rfl
    replace H := k_ifcN C H dres_18 (feq (by decide : ¬ ((1 : Int32) = (0 : Int32)))).1 (pc' := 21) rfl
    replace H := k_aloadN C H dres_21 rfl rfl (pc' := 22) rfl
    replace H := k_getFld C H (hw _ (List.mem_of_getElem? (i := 54) rfl)) Dd.2.2 dres_22 (pc' := 25) rfl
    replace H := k_astoreN C H dres_25 (L' := #[.val v, .val u', .val (.ref a)]) hu' (by rcases ref_cases hu' with q | ⟨_, q⟩ <;> rw [q] <;> rfl) (pc' := 26) rfl
    replace H := k_goto C H dres_26 (by decide) (pc' := 2) rfl
    exact ih u' _ (Or.inr ⟨_, rfl⟩) hu' R' H
theorem own_arfK {Z : State} {n0 n : Nat} {D b p : Addr} {h h' : Heap} {k : ClassId} {ty : FieldType} {f : Nat → Value} (K : Keep h h' [b, p]) (A : Arf Z h D k ty n f) (la : D < n0) (g : n0 ≤ b) (gp : n0 ≤ p) : Arf Z h' D k ty n f :=
  A.keep K (ninS (Nat.ne_of_lt (Nat.lt_of_lt_of_le la g)) (ninS (Nat.ne_of_lt (Nat.lt_of_lt_of_le la gp)) nin0))
theorem drsv_0 : decode prog_29_method_3_code 0 = .ok (.aload_n 1, 1) := by decide +kernel
theorem drsv_1 : decode prog_29_method_3_code 1 = .ok (.invokestatic 22, 3) := by decide +kernel
theorem drsv_4 : decode prog_29_method_3_code 4 = .ok (.astore_n 2, 1) := by decide +kernel
theorem drsv_5 : decode prog_29_method_3_code 5 = .ok (.aload_n 2, 1) := by decide +kernel
theorem drsv_6 : decode prog_29_method_3_code 6 = .ok (.aload_n 0, 1) := by decide +kernel
theorem drsv_7 : decode prog_29_method_3_code 7 = .ok (.if_acmp .ne 4, 3) := by decide +kernel
theorem drsv_11 : decode prog_29_method_3_code 11 = .ok (.aload_n 0, 1) := by decide +kernel
theorem drsv_12 : decode prog_29_method_3_code 12 = .ok (.aload_n 1, 1) := by decide +kernel
theorem drsv_13 : decode prog_29_method_3_code 13 = .ok (.putfield 26, 3) := by decide +kernel
theorem drsv_16 : decode prog_29_method_3_code 16 = .ok (.aload_n 0, 1) := by decide +kernel
theorem drsv_17 : decode prog_29_method_3_code 17 = .ok (.iconst 1, 1) := by decide +kernel
theorem drsv_18 : decode prog_29_method_3_code 18 = .ok (.putfield 30, 3) := by decide +kernel
theorem drsv_21 : decode prog_29_method_3_code 21 = .ok (.aload_n 2, 1) := by decide +kernel
theorem drsv_22 : decode prog_29_method_3_code 22 = .ok (.instanceof 11, 3) := by decide +kernel
theorem drsv_25 : decode prog_29_method_3_code 25 = .ok (.ifCond .eq 25, 3) := by decide +kernel
theorem drsv_28 : decode prog_29_method_3_code 28 = .ok (.aload_n 2, 1) := by decide +kernel
theorem drsv_29 : decode prog_29_method_3_code 29 = .ok (.checkcast 11, 3) := by decide +kernel
theorem drsv_32 : decode prog_29_method_3_code 32 = .ok (.astore_n 3, 1) := by decide +kernel
theorem drsv_33 : decode prog_29_method_3_code 33 = .ok (.aload_n 3, 1) := by decide +kernel
theorem drsv_34 : decode prog_29_method_3_code 34 = .ok (.getfield 10, 3) := by decide +kernel
theorem drsv_37 : decode prog_29_method_3_code 37 = .ok (.aload_n 0, 1) := by decide +kernel
theorem drsv_38 : decode prog_29_method_3_code 38 = .ok (.getfield 10, 3) := by decide +kernel
theorem drsv_41 : decode prog_29_method_3_code 41 = .ok (.invokeinterface 34 2, 5) := by decide +kernel
theorem drsv_46 : decode prog_29_method_3_code 46 = .ok (.pop, 1) := by decide +kernel
theorem drsv_47 : decode prog_29_method_3_code 47 = .ok (.goto 46, 3) := by decide +kernel
theorem drsv_50 : decode prog_29_method_3_code 50 = .ok (.aload_n 0, 1) := by decide +kernel
theorem drsv_51 : decode prog_29_method_3_code 51 = .ok (.getfield 10, 3) := by decide +kernel
theorem drsv_54 : decode prog_29_method_3_code 54 = .ok (.invokeinterface 38 1, 5) := by decide +kernel
theorem drsv_59 : decode prog_29_method_3_code 59 = .ok (.astore 4, 2) := by decide +kernel
theorem drsv_61 : decode prog_29_method_3_code 61 = .ok (.aload 4, 2) := by decide +kernel
theorem drsv_63 : decode prog_29_method_3_code 63 = .ok (.invokeinterface 42 1, 5) := by decide +kernel
theorem drsv_68 : decode prog_29_method_3_code 68 = .ok (.ifCond .eq 25, 3) := by decide +kernel
theorem drsv_93 : decode prog_29_method_3_code 93 = .ok (.aload_n 0, 1) := by decide +kernel
theorem drsv_94 : decode prog_29_method_3_code 94 = .ok (.aconst_null, 1) := by decide +kernel
theorem drsv_95 : decode prog_29_method_3_code 95 = .ok (.putfield 10, 3) := by decide +kernel
theorem drsv_98 : decode prog_29_method_3_code 98 = .ok (.return_, 1) := by decide +kernel
theorem pdrsv_0 : parseMethodDescriptor "(Ljava/lang/Object;)Ljava/lang/Object;" = some ⟨[(.object "java/lang/Object")], some (.object "java/lang/Object")⟩ := by decide +kernel
theorem pdrsv_1 : parseMethodDescriptor "()Ljava/util/Iterator;" = some ⟨[], some (.object "java/util/Iterator")⟩ := by decide +kernel
theorem pdrsv_2 : parseMethodDescriptor "()Z" = some ⟨[], some .boolean⟩ := by decide +kernel
theorem pdrsv_3 : parseMethodDescriptor "(Ljava/util/Collection;)Z" = some ⟨[(.object "java/util/Collection")], some .boolean⟩ := by decide +kernel
theorem pl_rsv : plainFor (⟨"com/example/sealer/sealer/Promise", "resolve", "(Ljava/lang/Object;)V"⟩ : MethodName) = true := plainFor_of_name (by first | (simp [plainName, overriddenIn]; done) | decide +kernel)
theorem ef_rsv (mm : MethodId) (b1 : Addr) (v : Value) (hv : v.isRef = true) : entryFrame mm #[(.ref b1), v] 6 = mkF mm 0 #[.val (.ref b1), .val v, .unset, .unset, .unset, .unset] [] := by rcases ref_cases hv with rfl | ⟨_, rfl⟩ <;> first | (simp [entryFrame, mkF, argsToLocals, Value.category]; done) | rfl
set_option maxRecDepth 65536 in
set_option maxHeartbeats 40000000 in
theorem rmrsv (l : Launch) (Z : State) (a0 : Array Value) (hw : ∀ d ∈ tables_1, d.before a0 Z = true) (b1 : Addr) (v : Value) (hv : v.isRef = true) (h0 : Heap) (n0 : Nat) (D : Addr) (dD : D < n0) (kD : ClassId) (fD : Nat → Value) (mr : Addr) (AD : Arf Z h0 D kD (.object "java/lang/Object") 0 fD) (XD : Exa Z h0 D "[Ljava/lang/Object;") (M : Mir Z "[Ljava/lang/Object;" mr) (n : Nat) (r : Value) (U_b1 : own_Un Z h0 n0 D b1) (RS : own_Res Z h0 n0 D n v r) (hr : r ≠ .ref b1) :
    Con l (⟨"com/example/sealer/sealer/Promise", "resolve", "(Ljava/lang/Object;)V"⟩ : MethodName) prog_29_method_3_code 6 none ({ frames := 5, cells := 1, slots := 4, locals := 97 } : Room) Z #[(.ref b1), v] h0 n0 (fun o h => o = none ∧ own_Do Z h b1 v ∧ own_Sv Z n0 D b1 h0 h) := by
  refine Con.enter pl_rsv (fun mm => ef_rsv mm b1 v hv) ?_
  intro K O C H
  obtain ⟨n_b1, X_b1, F_b1_resolved, ⟨ub, F_b1_value⟩, lb, F_b1_steps, X_lb, F_lb_size, F_lb_elementData, ⟨mb, F_lb_modCount⟩, n_lb⟩ := U_b1
  rcases own_rleaf RS with rfl | ⟨a1, C1, rfl, E_a, N_a⟩ | ⟨p1, rfl, U_p1⟩
  · have X_b0 := X_b1
    have KK : Keep h0 h0 [b1] := Keep.refl h0 _
    have ne_b1_lb : b1 ≠ lb := X_b1.ne X_lb (by decide)
    replace H := k_aloadN C H drsv_0 rfl hv (pc' := 1) rfl
    replace H := k_callSta C H (rmres l Z a0 hw v hv h0 n0 D n .null RS) (hw _ (List.mem_of_getElem? (i := 47) rfl)) (hw _ (List.mem_of_getElem? (i := 48) rfl)) (hw _ (List.mem_of_getElem? (i := 2) rfl)) (hw _ (List.mem_of_getElem? (i := 49) rfl)) (by decide) drsv_1 rfl [v] [] pdrsv_0 rfl rfl rfl 0 rfl (by decide) (by decide) (by decide) (by decide) (pc' := 4) rfl
    obtain ⟨_, _, ⟨rfl, rfl⟩, H⟩ := H
    replace H : K 4 #[.val (.ref b1), .val v, .unset, .unset, .unset, .unset] [.null] h0 0 0 := H
    replace H := k_astoreN C H drsv_4 (L' := #[.val (.ref b1), .val v, .val .null, .unset, .unset, .unset]) rfl rfl (pc' := 5) rfl
    replace H := k_aloadN C H drsv_5 rfl rfl (pc' := 6) rfl
    replace H := k_aloadN C H drsv_6 rfl rfl (pc' := 7) rfl
    replace H := k_acmp C H drsv_7 rfl rfl (same := false) (decide_eq_false hr) (by decide) (pc' := 11) (by decide)
    replace H := k_aloadN C H drsv_11 rfl rfl (pc' := 12) rfl
    replace H := k_aloadN C H drsv_12 rfl hv (pc' := 13) rfl
    replace H := k_putFld C H (hw _ (List.mem_of_getElem? (i := 54) rfl)) F_b1_value X_b1 (Or.inl (hw _ (List.mem_of_getElem? (i := 55) rfl))) (hw _ (List.mem_of_getElem? (i := 1) rfl)) (ty := (.object "java/lang/Object")) (by decide) (v' := v) (own_nar hv) (own_fit hv) n_b1 drsv_13 (pc' := 16) rfl
    obtain ⟨j24, W_j24, H⟩ := H
    replace X_b1 := X_b1.wr W_j24
    replace F_b1_value := F_b1_value.same W_j24
    replace F_b1_resolved := F_b1_resolved.other W_j24 (Or.inr (slot_ne (Or.inl (hw _ (List.mem_of_getElem? (i := 57) rfl))) (Or.inl (hw _ (List.mem_of_getElem? (i := 55) rfl))) (by decide) (t := .boolean) (t' := (.object "java/lang/Object")) (by decide) (by decide)))
    replace F_b1_steps := F_b1_steps.other W_j24 (Or.inr (slot_ne (Or.inl (hw _ (List.mem_of_getElem? (i := 34) rfl))) (Or.inl (hw _ (List.mem_of_getElem? (i := 55) rfl))) (by decide) (t := (.object "java/util/List")) (t' := (.object "java/lang/Object")) (by decide) (by decide)))
    replace X_lb := X_lb.wr W_j24
    replace F_lb_size := F_lb_size.other W_j24 (Or.inl (Ne.symm ne_b1_lb))
    replace F_lb_elementData := F_lb_elementData.other W_j24 (Or.inl (Ne.symm ne_b1_lb))
    replace F_lb_modCount := F_lb_modCount.other W_j24 (Or.inl (Ne.symm ne_b1_lb))
    replace KK := KK.wr W_j24 (Or.inl (List.mem_of_getElem? (i := 0) rfl))
    replace H := k_aloadN C H drsv_16 rfl rfl (pc' := 17) rfl
    replace H := k_iconst C H (v := 1) drsv_17 rfl (pc' := 18) rfl
    replace H := k_putFld C H (hw _ (List.mem_of_getElem? (i := 56) rfl)) F_b1_resolved X_b1 (Or.inl (hw _ (List.mem_of_getElem? (i := 57) rfl))) (hw _ (List.mem_of_getElem? (i := 1) rfl)) (ty := .boolean) (by decide) (v' := (.int (1 : Int32))) rfl rfl n_b1 drsv_18 (pc' := 21) rfl
    obtain ⟨j25, W_j25, H⟩ := H
    replace X_b1 := X_b1.wr W_j25
    replace F_b1_value := F_b1_value.other W_j25 (Or.inr (slot_ne (Or.inl (hw _ (List.mem_of_getElem? (i := 55) rfl))) (Or.inl (hw _ (List.mem_of_getElem? (i := 57) rfl))) (by decide) (t := (.object "java/lang/Object")) (t' := .boolean) (by decide) (by decide)))
    replace F_b1_resolved := F_b1_resolved.same W_j25
    replace F_b1_steps := F_b1_steps.other W_j25 (Or.inr (slot_ne (Or.inl (hw _ (List.mem_of_getElem? (i := 34) rfl))) (Or.inl (hw _ (List.mem_of_getElem? (i := 57) rfl))) (by decide) (t := (.object "java/util/List")) (t' := .boolean) (by decide) (by decide)))
    replace X_lb := X_lb.wr W_j25
    replace F_lb_size := F_lb_size.other W_j25 (Or.inl (Ne.symm ne_b1_lb))
    replace F_lb_elementData := F_lb_elementData.other W_j25 (Or.inl (Ne.symm ne_b1_lb))
    replace F_lb_modCount := F_lb_modCount.other W_j25 (Or.inl (Ne.symm ne_b1_lb))
    replace KK := KK.wr W_j25 (Or.inl (List.mem_of_getElem? (i := 0) rfl))
    replace H := k_aloadN C H drsv_21 rfl rfl (pc' := 22) rfl
    replace H := k_instNull C H drsv_22 (pc' := 25) rfl
    replace H := k_ifcY C H drsv_25 (teq (by decide : (0 : Int32) = (0 : Int32))).1 (by decide) (pc' := 50) rfl
    replace H := k_aloadN C H drsv_50 rfl rfl (pc' := 51) rfl
    replace H := k_getFld C H (hw _ (List.mem_of_getElem? (i := 33) rfl)) F_b1_steps drsv_51 (pc' := 54) rfl
    replace H := k_callInt C H (rmitr l Z a0 hw lb j25 n0 D mb (Nat.le_trans n_b1 (Nat.le_of_lt X_b1.lt)) X_lb F_lb_size F_lb_elementData F_lb_modCount n_lb) X_lb (hw _ (List.mem_of_getElem? (i := 58) rfl)) (hw _ (List.mem_of_getElem? (i := 59) rfl)) (hw _ (List.mem_of_getElem? (i := 60) rfl)) rfl (hw _ (List.mem_of_getElem? (i := 61) rfl)) (hw _ (List.mem_of_getElem? (i := 62) rfl)) (hw _ (List.mem_of_getElem? (i := 63) rfl)) (hw _ (List.mem_of_getElem? (i := 64) rfl)) (hw _ (List.mem_of_getElem? (i := 65) rfl)) (hw _ (List.mem_of_getElem? (i := 11) rfl)) (hw _ (List.mem_of_getElem? (i := 66) rfl)) (by decide) drsv_54 rfl [] [] pdrsv_1 rfl rfl rfl 0 rfl (by decide) (by decide) (by decide) (by decide) (pc' := 59) rfl
    obtain ⟨_, j26, ⟨it, rfl, K_j26, X_it, FC, FT⟩, H⟩ := H
    replace H : K 59 #[.val (.ref b1), .val v, .val .null, .unset, .unset, .unset] [(.ref it)] j26 1 4 := H
    replace X_b1 := X_b1.keep K_j26
    replace F_b1_value := F_b1_value.keep K_j26 nin0
    replace F_b1_resolved := F_b1_resolved.keep K_j26 nin0
    replace F_b1_steps := F_b1_steps.keep K_j26 nin0
    replace X_lb := X_lb.keep K_j26
    replace F_lb_size := F_lb_size.keep K_j26 nin0
    replace F_lb_elementData := F_lb_elementData.keep K_j26 nin0
    replace F_lb_modCount := F_lb_modCount.keep K_j26 nin0
    replace KK := KK.trans K_j26 all0
    replace H := k_astore C H drsv_59 (L' := #[.val (.ref b1), .val v, .val .null, .unset, .val (.ref it), .unset]) rfl rfl (pc' := 61) rfl
    replace H := k_aload C H drsv_61 rfl rfl (pc' := 63) rfl
    replace H := k_callInt C H (rmhnx l Z a0 hw it j26 n0 lb FC FT F_lb_size) X_it (hw _ (List.mem_of_getElem? (i := 83) rfl)) (hw _ (List.mem_of_getElem? (i := 84) rfl)) (hw _ (List.mem_of_getElem? (i := 85) rfl)) rfl (hw _ (List.mem_of_getElem? (i := 86) rfl)) (hw _ (List.mem_of_getElem? (i := 87) rfl)) (hw _ (List.mem_of_getElem? (i := 88) rfl)) (hw _ (List.mem_of_getElem? (i := 89) rfl)) (hw _ (List.mem_of_getElem? (i := 90) rfl)) (hw _ (List.mem_of_getElem? (i := 69) rfl)) (hw _ (List.mem_of_getElem? (i := 91) rfl)) (by decide) drsv_63 rfl [] [] pdrsv_2 rfl rfl rfl 0 rfl (by decide) (by decide) (by decide) (by decide) (pc' := 68) rfl
    obtain ⟨_, _, ⟨rfl, rfl⟩, H⟩ := H
    replace H : K 68 #[.val (.ref b1), .val v, .val .null, .unset, .val (.ref it), .unset] [(.int (0 : Int32))] j26 1 4 := H
    replace H := k_ifcY C H drsv_68 (teq (by decide : (0 : Int32) = (0 : Int32))).1 (by decide) (pc' := 93) rfl
    replace H := k_aloadN C H drsv_93 rfl rfl (pc' := 94) rfl
    replace H := k_anull C H drsv_94 (pc' := 95) rfl
    replace H := k_putFld C H (hw _ (List.mem_of_getElem? (i := 33) rfl)) F_b1_steps X_b1 (Or.inl (hw _ (List.mem_of_getElem? (i := 34) rfl))) (hw _ (List.mem_of_getElem? (i := 1) rfl)) (ty := (.object "java/util/List")) (by decide) (v' := .null) rfl rfl n_b1 drsv_95 (pc' := 98) rfl
    obtain ⟨j27, W_j27, H⟩ := H
    replace X_b1 := X_b1.wr W_j27
    replace F_b1_value := F_b1_value.other W_j27 (Or.inr (slot_ne (Or.inl (hw _ (List.mem_of_getElem? (i := 55) rfl))) (Or.inl (hw _ (List.mem_of_getElem? (i := 34) rfl))) (by decide) (t := (.object "java/lang/Object")) (t' := (.object "java/util/List")) (by decide) (by decide)))
    replace F_b1_resolved := F_b1_resolved.other W_j27 (Or.inr (slot_ne (Or.inl (hw _ (List.mem_of_getElem? (i := 57) rfl))) (Or.inl (hw _ (List.mem_of_getElem? (i := 34) rfl))) (by decide) (t := .boolean) (t' := (.object "java/util/List")) (by decide) (by decide)))
    replace F_b1_steps := F_b1_steps.same W_j27
    replace X_lb := X_lb.wr W_j27
    replace F_lb_size := F_lb_size.other W_j27 (Or.inl (Ne.symm ne_b1_lb))
    replace F_lb_elementData := F_lb_elementData.other W_j27 (Or.inl (Ne.symm ne_b1_lb))
    replace F_lb_modCount := F_lb_modCount.other W_j27 (Or.inl (Ne.symm ne_b1_lb))
    replace KK := KK.wr W_j27 (Or.inl (List.mem_of_getElem? (i := 0) rfl))
    exact k_retV C H drsv_98 (by decide) (by decide) ⟨rfl, ⟨X_b1, F_b1_resolved, F_b1_value⟩, own_sv1 KK X_b0 n_b1⟩
  · have X_b0 := X_b1
    have KK : Keep h0 h0 [b1] := Keep.refl h0 _
    have ne_b1_lb : b1 ≠ lb := X_b1.ne X_lb (by decide)
    have X_a := E_a
    replace H := k_aloadN C H drsv_0 rfl hv (pc' := 1) rfl
    replace H := k_callSta C H (rmres l Z a0 hw v hv h0 n0 D n (.ref a1) RS) (hw _ (List.mem_of_getElem? (i := 47) rfl)) (hw _ (List.mem_of_getElem? (i := 48) rfl)) (hw _ (List.mem_of_getElem? (i := 2) rfl)) (hw _ (List.mem_of_getElem? (i := 49) rfl)) (by decide) drsv_1 rfl [v] [] pdrsv_0 rfl rfl rfl 0 rfl (by decide) (by decide) (by decide) (by decide) (pc' := 4) rfl
    obtain ⟨_, _, ⟨rfl, rfl⟩, H⟩ := H
    replace H : K 4 #[.val (.ref b1), .val v, .unset, .unset, .unset, .unset] [(.ref a1)] h0 0 0 := H
    replace H := k_astoreN C H drsv_4 (L' := #[.val (.ref b1), .val v, .val (.ref a1), .unset, .unset, .unset]) rfl rfl (pc' := 5) rfl
    replace H := k_aloadN C H drsv_5 rfl rfl (pc' := 6) rfl
    replace H := k_aloadN C H drsv_6 rfl rfl (pc' := 7) rfl
    replace H := k_acmp C H drsv_7 rfl rfl (same := false) (decide_eq_false hr) (by decide) (pc' := 11) (by decide)
    replace H := k_aloadN C H drsv_11 rfl rfl (pc' := 12) rfl
    replace H := k_aloadN C H drsv_12 rfl hv (pc' := 13) rfl
    replace H := k_putFld C H (hw _ (List.mem_of_getElem? (i := 54) rfl)) F_b1_value X_b1 (Or.inl (hw _ (List.mem_of_getElem? (i := 55) rfl))) (hw _ (List.mem_of_getElem? (i := 1) rfl)) (ty := (.object "java/lang/Object")) (by decide) (v' := v) (own_nar hv) (own_fit hv) n_b1 drsv_13 (pc' := 16) rfl
    obtain ⟨j28, W_j28, H⟩ := H
    replace X_b1 := X_b1.wr W_j28
    replace F_b1_value := F_b1_value.same W_j28
    replace F_b1_resolved := F_b1_resolved.other W_j28 (Or.inr (slot_ne (Or.inl (hw _ (List.mem_of_getElem? (i := 57) rfl))) (Or.inl (hw _ (List.mem_of_getElem? (i := 55) rfl))) (by decide) (t := .boolean) (t' := (.object "java/lang/Object")) (by decide) (by decide)))
    replace F_b1_steps := F_b1_steps.other W_j28 (Or.inr (slot_ne (Or.inl (hw _ (List.mem_of_getElem? (i := 34) rfl))) (Or.inl (hw _ (List.mem_of_getElem? (i := 55) rfl))) (by decide) (t := (.object "java/util/List")) (t' := (.object "java/lang/Object")) (by decide) (by decide)))
    replace X_lb := X_lb.wr W_j28
    replace F_lb_size := F_lb_size.other W_j28 (Or.inl (Ne.symm ne_b1_lb))
    replace F_lb_elementData := F_lb_elementData.other W_j28 (Or.inl (Ne.symm ne_b1_lb))
    replace F_lb_modCount := F_lb_modCount.other W_j28 (Or.inl (Ne.symm ne_b1_lb))
    replace X_a := X_a.wr W_j28
    replace KK := KK.wr W_j28 (Or.inl (List.mem_of_getElem? (i := 0) rfl))
    replace H := k_aloadN C H drsv_16 rfl rfl (pc' := 17) rfl
    replace H := k_iconst C H (v := 1) drsv_17 rfl (pc' := 18) rfl
    replace H := k_putFld C H (hw _ (List.mem_of_getElem? (i := 56) rfl)) F_b1_resolved X_b1 (Or.inl (hw _ (List.mem_of_getElem? (i := 57) rfl))) (hw _ (List.mem_of_getElem? (i := 1) rfl)) (ty := .boolean) (by decide) (v' := (.int (1 : Int32))) rfl rfl n_b1 drsv_18 (pc' := 21) rfl
    obtain ⟨j29, W_j29, H⟩ := H
    replace X_b1 := X_b1.wr W_j29
    replace F_b1_value := F_b1_value.other W_j29 (Or.inr (slot_ne (Or.inl (hw _ (List.mem_of_getElem? (i := 55) rfl))) (Or.inl (hw _ (List.mem_of_getElem? (i := 57) rfl))) (by decide) (t := (.object "java/lang/Object")) (t' := .boolean) (by decide) (by decide)))
    replace F_b1_resolved := F_b1_resolved.same W_j29
    replace F_b1_steps := F_b1_steps.other W_j29 (Or.inr (slot_ne (Or.inl (hw _ (List.mem_of_getElem? (i := 34) rfl))) (Or.inl (hw _ (List.mem_of_getElem? (i := 57) rfl))) (by decide) (t := (.object "java/util/List")) (t' := .boolean) (by decide) (by decide)))
    replace X_lb := X_lb.wr W_j29
    replace F_lb_size := F_lb_size.other W_j29 (Or.inl (Ne.symm ne_b1_lb))
    replace F_lb_elementData := F_lb_elementData.other W_j29 (Or.inl (Ne.symm ne_b1_lb))
    replace F_lb_modCount := F_lb_modCount.other W_j29 (Or.inl (Ne.symm ne_b1_lb))
    replace X_a := X_a.wr W_j29
    replace KK := KK.wr W_j29 (Or.inl (List.mem_of_getElem? (i := 0) rfl))
    replace H := k_aloadN C H drsv_21 rfl rfl (pc' := 22) rfl
    replace H := k_instNot C H (hw _ (List.mem_of_getElem? (i := 50) rfl)) X_a N_a.2 drsv_22 (pc' := 25) rfl
    replace H := k_ifcY C H drsv_25 (teq (by decide : (0 : Int32) = (0 : Int32))).1 (by decide) (pc' := 50) rfl
    replace H := k_aloadN C H drsv_50 rfl rfl (pc' := 51) rfl
    replace H := k_getFld C H (hw _ (List.mem_of_getElem? (i := 33) rfl)) F_b1_steps drsv_51 (pc' := 54) rfl
    replace H := k_callInt C H (rmitr l Z a0 hw lb j29 n0 D mb (Nat.le_trans n_b1 (Nat.le_of_lt X_b1.lt)) X_lb F_lb_size F_lb_elementData F_lb_modCount n_lb) X_lb (hw _ (List.mem_of_getElem? (i := 58) rfl)) (hw _ (List.mem_of_getElem? (i := 59) rfl)) (hw _ (List.mem_of_getElem? (i := 60) rfl)) rfl (hw _ (List.mem_of_getElem? (i := 61) rfl)) (hw _ (List.mem_of_getElem? (i := 62) rfl)) (hw _ (List.mem_of_getElem? (i := 63) rfl)) (hw _ (List.mem_of_getElem? (i := 64) rfl)) (hw _ (List.mem_of_getElem? (i := 65) rfl)) (hw _ (List.mem_of_getElem? (i := 11) rfl)) (hw _ (List.mem_of_getElem? (i := 66) rfl)) (by decide) drsv_54 rfl [] [] pdrsv_1 rfl rfl rfl 0 rfl (by decide) (by decide) (by decide) (by decide) (pc' := 59) rfl
    obtain ⟨_, j30, ⟨it, rfl, K_j30, X_it, FC, FT⟩, H⟩ := H
    replace H : K 59 #[.val (.ref b1), .val v, .val (.ref a1), .unset, .unset, .unset] [(.ref it)] j30 1 4 := H
    replace X_b1 := X_b1.keep K_j30
    replace F_b1_value := F_b1_value.keep K_j30 nin0
    replace F_b1_resolved := F_b1_resolved.keep K_j30 nin0
    replace F_b1_steps := F_b1_steps.keep K_j30 nin0
    replace X_lb := X_lb.keep K_j30
    replace F_lb_size := F_lb_size.keep K_j30 nin0
    replace F_lb_elementData := F_lb_elementData.keep K_j30 nin0
    replace F_lb_modCount := F_lb_modCount.keep K_j30 nin0
    replace X_a := X_a.keep K_j30
    replace KK := KK.trans K_j30 all0
    replace H := k_astore C H drsv_59 (L' := #[.val (.ref b1), .val v, .val (.ref a1), .unset, .val (.ref it), .unset]) rfl rfl (pc' := 61) rfl
    replace H := k_aload C H drsv_61 rfl rfl (pc' := 63) rfl
    replace H := k_callInt C H (rmhnx l Z a0 hw it j30 n0 lb FC FT F_lb_size) X_it (hw _ (List.mem_of_getElem? (i := 83) rfl)) (hw _ (List.mem_of_getElem? (i := 84) rfl)) (hw _ (List.mem_of_getElem? (i := 85) rfl)) rfl (hw _ (List.mem_of_getElem? (i := 86) rfl)) (hw _ (List.mem_of_getElem? (i := 87) rfl)) (hw _ (List.mem_of_getElem? (i := 88) rfl)) (hw _ (List.mem_of_getElem? (i := 89) rfl)) (hw _ (List.mem_of_getElem? (i := 90) rfl)) (hw _ (List.mem_of_getElem? (i := 69) rfl)) (hw _ (List.mem_of_getElem? (i := 91) rfl)) (by decide) drsv_63 rfl [] [] pdrsv_2 rfl rfl rfl 0 rfl (by decide) (by decide) (by decide) (by decide) (pc' := 68) rfl
    obtain ⟨_, _, ⟨rfl, rfl⟩, H⟩ := H
    replace H : K 68 #[.val (.ref b1), .val v, .val (.ref a1), .unset, .val (.ref it), .unset] [(.int (0 : Int32))] j30 1 4 := H
    replace H := k_ifcY C H drsv_68 (teq (by decide : (0 : Int32) = (0 : Int32))).1 (by decide) (pc' := 93) rfl
    replace H := k_aloadN C H drsv_93 rfl rfl (pc' := 94) rfl
    replace H := k_anull C H drsv_94 (pc' := 95) rfl
    replace H := k_putFld C H (hw _ (List.mem_of_getElem? (i := 33) rfl)) F_b1_steps X_b1 (Or.inl (hw _ (List.mem_of_getElem? (i := 34) rfl))) (hw _ (List.mem_of_getElem? (i := 1) rfl)) (ty := (.object "java/util/List")) (by decide) (v' := .null) rfl rfl n_b1 drsv_95 (pc' := 98) rfl
    obtain ⟨j31, W_j31, H⟩ := H
    replace X_b1 := X_b1.wr W_j31
    replace F_b1_value := F_b1_value.other W_j31 (Or.inr (slot_ne (Or.inl (hw _ (List.mem_of_getElem? (i := 55) rfl))) (Or.inl (hw _ (List.mem_of_getElem? (i := 34) rfl))) (by decide) (t := (.object "java/lang/Object")) (t' := (.object "java/util/List")) (by decide) (by decide)))
    replace F_b1_resolved := F_b1_resolved.other W_j31 (Or.inr (slot_ne (Or.inl (hw _ (List.mem_of_getElem? (i := 57) rfl))) (Or.inl (hw _ (List.mem_of_getElem? (i := 34) rfl))) (by decide) (t := .boolean) (t' := (.object "java/util/List")) (by decide) (by decide)))
    replace F_b1_steps := F_b1_steps.same W_j31
    replace X_lb := X_lb.wr W_j31
    replace F_lb_size := F_lb_size.other W_j31 (Or.inl (Ne.symm ne_b1_lb))
    replace F_lb_elementData := F_lb_elementData.other W_j31 (Or.inl (Ne.symm ne_b1_lb))
    replace F_lb_modCount := F_lb_modCount.other W_j31 (Or.inl (Ne.symm ne_b1_lb))
    replace X_a := X_a.wr W_j31
    replace KK := KK.wr W_j31 (Or.inl (List.mem_of_getElem? (i := 0) rfl))
    exact k_retV C H drsv_98 (by decide) (by decide) ⟨rfl, ⟨X_b1, F_b1_resolved, F_b1_value⟩, own_sv1 KK X_b0 n_b1⟩
  · obtain ⟨n_p1, X_p1, F_p1_resolved, ⟨up, F_p1_value⟩, lp, F_p1_steps, X_lp, F_lp_size, F_lp_elementData, ⟨mp, F_lp_modCount⟩, n_lp⟩ := U_p1
    have X_b0 := X_b1
    have KK : Keep h0 h0 [b1, lp] := Keep.refl h0 _
    have ne_b1_lb : b1 ≠ lb := X_b1.ne X_lb (by decide)
    have X_lp0 := X_lp
    have ne_p1_b1 : p1 ≠ b1 := fun q => hr (congrArg Value.ref q)
    have ne_b1_lp : b1 ≠ lp := X_b1.ne X_lp (by decide)
    have ne_p1_lp : p1 ≠ lp := X_p1.ne X_lp (by decide)
    have ne_p1_lb : p1 ≠ lb := X_p1.ne X_lb (by decide)
    have AD0 := AD
    replace H := k_aloadN C H drsv_0 rfl hv (pc' := 1) rfl
    replace H := k_callSta C H (rmres l Z a0 hw v hv h0 n0 D n (.ref p1) RS) (hw _ (List.mem_of_getElem? (i := 47) rfl)) (hw _ (List.mem_of_getElem? (i := 48) rfl)) (hw _ (List.mem_of_getElem? (i := 2) rfl)) (hw _ (List.mem_of_getElem? (i := 49) rfl)) (by decide) drsv_1 rfl [v] [] pdrsv_0 rfl rfl rfl 0 rfl (by decide) (by decide) (by decide) (by decide) (pc' := 4) rfl
    obtain ⟨_, _, ⟨rfl, rfl⟩, H⟩ := H
    replace H : K 4 #[.val (.ref b1), .val v, .unset, .unset, .unset, .unset] [(.ref p1)] h0 0 0 := H
    replace H := k_astoreN C H drsv_4 (L' := #[.val (.ref b1), .val v, .val (.ref p1), .unset, .unset, .unset]) rfl rfl (pc' := 5) rfl
    replace H := k_aloadN C H drsv_5 rfl rfl (pc' := 6) rfl
    replace H := k_aloadN C H drsv_6 rfl rfl (pc' := 7) rfl
    replace H := k_acmp C H drsv_7 rfl rfl (same := false) (decide_eq_false hr) (by decide) (pc' := 11) (by decide)
    replace H := k_aloadN C H drsv_11 rfl rfl (pc' := 12) rfl
    replace H := k_aloadN C H drsv_12 rfl hv (pc' := 13) rfl
    replace H := k_putFld C H (hw _ (List.mem_of_getElem? (i := 54) rfl)) F_b1_value X_b1 (Or.inl (hw _ (List.mem_of_getElem? (i := 55) rfl))) (hw _ (List.mem_of_getElem? (i := 1) rfl)) (ty := (.object "java/lang/Object")) (by decide) (v' := v) (own_nar hv) (own_fit hv) n_b1 drsv_13 (pc' := 16) rfl
    obtain ⟨j32, W_j32, H⟩ := H
    replace X_b1 := X_b1.wr W_j32
    replace F_b1_value := F_b1_value.same W_j32
    replace F_b1_resolved := F_b1_resolved.other W_j32 (Or.inr (slot_ne (Or.inl (hw _ (List.mem_of_getElem? (i := 57) rfl))) (Or.inl (hw _ (List.mem_of_getElem? (i := 55) rfl))) (by decide) (t := .boolean) (t' := (.object "java/lang/Object")) (by decide) (by decide)))
    replace F_b1_steps := F_b1_steps.other W_j32 (Or.inr (slot_ne (Or.inl (hw _ (List.mem_of_getElem? (i := 34) rfl))) (Or.inl (hw _ (List.mem_of_getElem? (i := 55) rfl))) (by decide) (t := (.object "java/util/List")) (t' := (.object "java/lang/Object")) (by decide) (by decide)))
    replace X_lb := X_lb.wr W_j32
    replace F_lb_size := F_lb_size.other W_j32 (Or.inl (Ne.symm ne_b1_lb))
    replace F_lb_elementData := F_lb_elementData.other W_j32 (Or.inl (Ne.symm ne_b1_lb))
    replace F_lb_modCount := F_lb_modCount.other W_j32 (Or.inl (Ne.symm ne_b1_lb))
    replace X_p1 := X_p1.wr W_j32
    replace F_p1_steps := F_p1_steps.other W_j32 (Or.inl ne_p1_b1)
    replace X_lp := X_lp.wr W_j32
    replace F_lp_size := F_lp_size.other W_j32 (Or.inl (Ne.symm ne_b1_lp))
    replace F_lp_elementData := F_lp_elementData.other W_j32 (Or.inl (Ne.symm ne_b1_lp))
    replace F_lp_modCount := F_lp_modCount.other W_j32 (Or.inl (Ne.symm ne_b1_lp))
    replace KK := KK.wr W_j32 (Or.inl (List.mem_of_getElem? (i := 0) rfl))
    replace H := k_aloadN C H drsv_16 rfl rfl (pc' := 17) rfl
    replace H := k_iconst C H (v := 1) drsv_17 rfl (pc' := 18) rfl
    replace H := k_putFld C H (hw _ (List.mem_of_getElem? (i := 56) rfl)) F_b1_resolved X_b1 (Or.inl (hw _ (List.mem_of_getElem? (i := 57) rfl))) (hw _ (List.mem_of_getElem? (i := 1) rfl)) (ty := .boolean) (by decide) (v' := (.int (1 : Int32))) rfl rfl n_b1 drsv_18 (pc' := 21) rfl
    obtain ⟨j33, W_j33, H⟩ := H
    replace X_b1 := X_b1.wr W_j33
    replace F_b1_value := F_b1_value.other W_j33 (Or.inr (slot_ne (Or.inl (hw _ (List.mem_of_getElem? (i := 55) rfl))) (Or.inl (hw _ (List.mem_of_getElem? (i := 57) rfl))) (by decide) (t := (.object "java/lang/Object")) (t' := .boolean) (by decide) (by decide)))
    replace F_b1_resolved := F_b1_resolved.same W_j33
    replace F_b1_steps := F_b1_steps.other W_j33 (Or.inr (slot_ne (Or.inl (hw _ (List.mem_of_getElem? (i := 34) rfl))) (Or.inl (hw _ (List.mem_of_getElem? (i := 57) rfl))) (by decide) (t := (.object "java/util/List")) (t' := .boolean) (by decide) (by decide)))
    replace X_lb := X_lb.wr W_j33
    replace F_lb_size := F_lb_size.other W_j33 (Or.inl (Ne.symm ne_b1_lb))
    replace F_lb_elementData := F_lb_elementData.other W_j33 (Or.inl (Ne.symm ne_b1_lb))
    replace F_lb_modCount := F_lb_modCount.other W_j33 (Or.inl (Ne.symm ne_b1_lb))
    replace X_p1 := X_p1.wr W_j33
    replace F_p1_steps := F_p1_steps.other W_j33 (Or.inl ne_p1_b1)
    replace X_lp := X_lp.wr W_j33
    replace F_lp_size := F_lp_size.other W_j33 (Or.inl (Ne.symm ne_b1_lp))
    replace F_lp_elementData := F_lp_elementData.other W_j33 (Or.inl (Ne.symm ne_b1_lp))
    replace F_lp_modCount := F_lp_modCount.other W_j33 (Or.inl (Ne.symm ne_b1_lp))
    replace KK := KK.wr W_j33 (Or.inl (List.mem_of_getElem? (i := 0) rfl))
    replace H := k_aloadN C H drsv_21 rfl rfl (pc' := 22) rfl
    replace H := k_instYes C H (hw _ (List.mem_of_getElem? (i := 50) rfl)) (Ins.self X_p1) drsv_22 (pc' := 25) rfl
    replace H := k_ifcN C H drsv_25 (feq (by decide : ¬ ((1 : Int32) = (0 : Int32)))).1 (pc' := 28) rfl
    replace H := k_aloadN C H drsv_28 rfl rfl (pc' := 29) rfl
    replace H := k_castYes C H (hw _ (List.mem_of_getElem? (i := 50) rfl)) (Ins.self X_p1) drsv_29 (pc' := 32) rfl
    replace H := k_astoreN C H drsv_32 (L' := #[.val (.ref b1), .val v, .val (.ref p1), .val (.ref p1), .unset, .unset]) rfl rfl (pc' := 33) rfl
    replace H := k_aloadN C H drsv_33 rfl rfl (pc' := 34) rfl
    replace H := k_getFld C H (hw _ (List.mem_of_getElem? (i := 33) rfl)) F_p1_steps drsv_34 (pc' := 37) rfl
    replace H := k_aloadN C H drsv_37 rfl rfl (pc' := 38) rfl
    replace H := k_getFld C H (hw _ (List.mem_of_getElem? (i := 33) rfl)) F_b1_steps drsv_38 (pc' := 41) rfl
    have AD1 : Arf Z j33 D kD (.object "java/lang/Object") 0 fD := own_arfK KK AD dD n_b1 n_lp
    have XD1 := XD.keep KK
    replace H := k_callInt C H (rmada l Z a0 hw lp lb j33 n0 D mp mb kD fD mr AD1 XD1 M X_lp F_lp_size F_lp_elementData F_lp_modCount n_lp X_lb F_lb_size F_lb_elementData F_lb_modCount n_lb) X_lp (hw _ (List.mem_of_getElem? (i := 142) rfl)) (hw _ (List.mem_of_getElem? (i := 143) rfl)) (hw _ (List.mem_of_getElem? (i := 144) rfl)) rfl (hw _ (List.mem_of_getElem? (i := 145) rfl)) (hw _ (List.mem_of_getElem? (i := 146) rfl)) (hw _ (List.mem_of_getElem? (i := 147) rfl)) (hw _ (List.mem_of_getElem? (i := 148) rfl)) (hw _ (List.mem_of_getElem? (i := 65) rfl)) (hw _ (List.mem_of_getElem? (i := 11) rfl)) (hw _ (List.mem_of_getElem? (i := 149) rfl)) (by decide) drsv_41 rfl [(.ref lb)] [] pdrsv_3 rfl rfl rfl 0 rfl (by decide) (by decide) (by decide) (by decide) (pc' := 46) rfl
    obtain ⟨_, j34, ⟨rfl, K_j34, F_lp_size', F_lp_elementData', F_lp_modCount'⟩, H⟩ := H
    replace H : K 46 #[.val (.ref b1), .val v, .val (.ref p1), .val (.ref p1), .unset, .unset] [(.int (0 : Int32))] j34 1 0 := H
    replace X_b1 := X_b1.keep K_j34
    replace F_b1_value := F_b1_value.keep K_j34 (ninS ne_b1_lp nin0)
    replace F_b1_resolved := F_b1_resolved.keep K_j34 (ninS ne_b1_lp nin0)
    replace F_b1_steps := F_b1_steps.keep K_j34 (ninS ne_b1_lp nin0)
    replace X_p1 := X_p1.keep K_j34
    replace F_p1_steps := F_p1_steps.keep K_j34 (ninS ne_p1_lp nin0)
    replace X_lp := X_lp.keep K_j34
    replace KK := KK.trans K_j34 (allS (Or.inl (List.mem_of_getElem? (i := 1) rfl)) all0)
    replace F_lp_size := F_lp_size'
    clear F_lp_size'
    replace F_lp_elementData := F_lp_elementData'
    clear F_lp_elementData'
    replace F_lp_modCount := F_lp_modCount'
    clear F_lp_modCount'
    replace H := k_pop C H drsv_46 rfl (pc' := 47) rfl
    replace H := k_goto C H drsv_47 (by decide) (pc' := 93) rfl
    replace H := k_aloadN C H drsv_93 rfl rfl (pc' := 94) rfl
    replace H := k_anull C H drsv_94 (pc' := 95) rfl
    replace H := k_putFld C H (hw _ (List.mem_of_getElem? (i := 33) rfl)) F_b1_steps X_b1 (Or.inl (hw _ (List.mem_of_getElem? (i := 34) rfl))) (hw _ (List.mem_of_getElem? (i := 1) rfl)) (ty := (.object "java/util/List")) (by decide) (v' := .null) rfl rfl n_b1 drsv_95 (pc' := 98) rfl
    obtain ⟨j35, W_j35, H⟩ := H
    replace X_b1 := X_b1.wr W_j35
    replace F_b1_value := F_b1_value.other W_j35 (Or.inr (slot_ne (Or.inl (hw _ (List.mem_of_getElem? (i := 55) rfl))) (Or.inl (hw _ (List.mem_of_getElem? (i := 34) rfl))) (by decide) (t := (.object "java/lang/Object")) (t' := (.object "java/util/List")) (by decide) (by decide)))
    replace F_b1_resolved := F_b1_resolved.other W_j35 (Or.inr (slot_ne (Or.inl (hw _ (List.mem_of_getElem? (i := 57) rfl))) (Or.inl (hw _ (List.mem_of_getElem? (i := 34) rfl))) (by decide) (t := .boolean) (t' := (.object "java/util/List")) (by decide) (by decide)))
    replace F_b1_steps := F_b1_steps.same W_j35
    replace X_p1 := X_p1.wr W_j35
    replace F_p1_steps := F_p1_steps.other W_j35 (Or.inl ne_p1_b1)
    replace X_lp := X_lp.wr W_j35
    replace F_lp_size := F_lp_size.other W_j35 (Or.inl (Ne.symm ne_b1_lp))
    replace F_lp_elementData := F_lp_elementData.other W_j35 (Or.inl (Ne.symm ne_b1_lp))
    replace F_lp_modCount := F_lp_modCount.other W_j35 (Or.inl (Ne.symm ne_b1_lp))
    replace KK := KK.wr W_j35 (Or.inl (List.mem_of_getElem? (i := 0) rfl))
    exact k_retV C H drsv_98 (by decide) (by decide) ⟨rfl, ⟨X_b1, F_b1_resolved, F_b1_value⟩, own_sv2 KK X_b0 X_lp0 n_b1 n_lp F_lp_size F_lp_elementData F_lp_modCount⟩
theorem drss_0 : decode prog_29_method_3_code 0 = .ok (.aload_n 1, 1) := by decide +kernel
theorem drss_1 : decode prog_29_method_3_code 1 = .ok (.invokestatic 22, 3) := by decide +kernel
theorem drss_4 : decode prog_29_method_3_code 4 = .ok (.astore_n 2, 1) := by decide +kernel
theorem drss_5 : decode prog_29_method_3_code 5 = .ok (.aload_n 2, 1) := by decide +kernel
theorem drss_6 : decode prog_29_method_3_code 6 = .ok (.aload_n 0, 1) := by decide +kernel
theorem drss_7 : decode prog_29_method_3_code 7 = .ok (.if_acmp .ne 4, 3) := by decide +kernel
theorem drss_10 : decode prog_29_method_3_code 10 = .ok (.return_, 1) := by decide +kernel
theorem pdrss_0 : parseMethodDescriptor "(Ljava/lang/Object;)Ljava/lang/Object;" = some ⟨[(.object "java/lang/Object")], some (.object "java/lang/Object")⟩ := by decide +kernel
theorem pl_rss : plainFor (⟨"com/example/sealer/sealer/Promise", "resolve", "(Ljava/lang/Object;)V"⟩ : MethodName) = true := plainFor_of_name (by first | (simp [plainName, overriddenIn]; done) | decide +kernel)
theorem ef_rss (mm : MethodId) (b1 : Addr) (v : Value) (hv : v.isRef = true) : entryFrame mm #[(.ref b1), v] 6 = mkF mm 0 #[.val (.ref b1), .val v, .unset, .unset, .unset, .unset] [] := by rcases ref_cases hv with rfl | ⟨_, rfl⟩ <;> first | (simp [entryFrame, mkF, argsToLocals, Value.category]; done) | rfl
set_option maxRecDepth 65536 in
set_option maxHeartbeats 40000000 in
theorem rmrss (l : Launch) (Z : State) (a0 : Array Value) (hw : ∀ d ∈ tables_1, d.before a0 Z = true) (b1 : Addr) (v : Value) (hv : v.isRef = true) (h0 : Heap) (n0 : Nat) (D : Addr) (n : Nat) (RS : own_Res Z h0 n0 D n v (.ref b1)) :
    Con l (⟨"com/example/sealer/sealer/Promise", "resolve", "(Ljava/lang/Object;)V"⟩ : MethodName) prog_29_method_3_code 6 none ({ frames := 1, cells := 0, slots := 0, locals := 14 } : Room) Z #[(.ref b1), v] h0 n0 (fun o h => o = none ∧ h0 = h) := by
  refine Con.enter pl_rss (fun mm => ef_rss mm b1 v hv) ?_
  intro K O C H
  replace H := k_aloadN C H drss_0 rfl hv (pc' := 1) rfl
  replace H := k_callSta C H (rmres l Z a0 hw v hv h0 n0 D n (.ref b1) RS) (hw _ (List.mem_of_getElem? (i := 47) rfl)) (hw _ (List.mem_of_getElem? (i := 48) rfl)) (hw _ (List.mem_of_getElem? (i := 2) rfl)) (hw _ (List.mem_of_getElem? (i := 49) rfl)) (by decide) drss_1 rfl [v] [] pdrss_0 rfl rfl rfl 0 rfl (by decide) (by decide) (by decide) (by decide) (pc' := 4) rfl
  obtain ⟨_, _, ⟨rfl, rfl⟩, H⟩ := H
  replace H : K 4 #[.val (.ref b1), .val v, .unset, .unset, .unset, .unset] [(.ref b1)] h0 0 0 := H
  replace H := k_astoreN C H drss_4 (L' := #[.val (.ref b1), .val v, .val (.ref b1), .unset, .unset, .unset]) rfl rfl (pc' := 5) rfl
  replace H := k_aloadN C H drss_5 rfl rfl (pc' := 6) rfl
  replace H := k_aloadN C H drss_6 rfl rfl (pc' := 7) rfl
  replace H := k_acmp C H drss_7 rfl rfl (same := true) (decide_eq_true rfl) (by decide) (pc' := 10) (by decide)
  exact k_retV C H drss_10 (by decide) (by decide) ⟨rfl, rfl⟩
theorem pdfin_0 : parseMethodDescriptor "(Ljava/lang/Object;)Ljava/lang/Object;" = some ⟨[(.object "java/lang/Object")], some (.object "java/lang/Object")⟩ := by decide +kernel
theorem pdfin_1 : parseMethodDescriptor "(Ljava/lang/Object;)V" = some ⟨[(.object "java/lang/Object")], none⟩ := by decide +kernel
set_option maxRecDepth 65536 in
set_option maxHeartbeats 40000000 in
theorem rmfin (l : Launch) (Z : State) (a0 : Array Value) (hw : ∀ d ∈ tables_1, d.before a0 Z = true) (g0 : Heap) (n0 : Nat) (D : Addr) (dD : D < n0) (kD : ClassId) (fD : Nat → Value) (mr : Addr) (AD : Arf Z g0 D kD (.object "java/lang/Object") 0 fD) (XD : Exa Z g0 D "[Ljava/lang/Object;") (M : Mir Z "[Ljava/lang/Object;" mr) (x0 x1 e : Int32) (p0 p1 p2 q : Addr) (ne_p0_p1 : p0 ≠ p1) (ne_p0_p2 : p0 ≠ p2) (ne_p0_q : p0 ≠ q) (ne_p1_p2 : p1 ≠ p2) (ne_p1_q : p1 ≠ q) (ne_p2_q : p2 ≠ q) (ve : Value) (hv : ve.isRef = true) (s8 : Slot) (hs8 : s8 = .unset ∨ ∃ c, s8 = .val (.ref c)) (U_p0 : own_Un Z g0 n0 D p0) (U_p1 : own_Un Z g0 n0 D p1) (U_p2 : own_Un Z g0 n0 D p2) (U_q : own_Un Z g0 n0 D q) (LE : own_Leaf Z g0 n0 D ve) (nv_p0 : ve ≠ .ref p0) (nv_p1 : ve ≠ .ref p1) (nv_p2 : ve ≠ .ref p2) {K : Kt} {O : Prop} (C : Ctx l room_1 n0 Z x.cls code maxLocals x.name ret (fun o h => o = some (.int (1 : Int32))) K O) (H : K 105 #[.val (.int x0), .val (.int x1), .val (.ref p0), .val (.ref p1), .val (.ref p2), .val (.ref q), .val (.int e), .val ve, s8, .unset, .unset, .unset] [] g0 11 30) : O := by
  replace H := k_iloadN C H at_105 rfl (pc' := 106) rfl
  replace H := k_bipush C H (v := 64) at_106 rfl (pc' := 108) rfl
  replace H := k_iand C H at_108 (pc' := 109) rfl
  by_cases hc109 : (x1 &&& (64 : Int32)) = (0 : Int32)
  · replace H := k_ifcY C H at_109 (teq hc109).1 (by decide) (pc' := 190) rfl
    replace H := k_iloadN C H at_190 rfl (pc' := 191) rfl
    replace H := k_iconst C H (v := 3) at_191 rfl (pc' := 192) rfl
    replace H := k_iand C H at_192 (pc' := 193) rfl
    rcases own_k3 x1 with hk | hk | hk | hk
    · rw [hk] at H
      replace H := k_istore C H at_193 (L' := #[.val (.int x0), .val (.int x1), .val (.ref p0), .val (.ref p1), .val (.ref p2), .val (.ref q), .val (.int e), .val ve, .val (.int (0 : Int32)), .unset, .unset, .unset]) (by rcases hs8 with rfl | ⟨_, rfl⟩ <;> rfl) (pc' := 195) rfl
      replace H := k_iloadN C H at_195 rfl (pc' := 196) rfl
      replace H := k_bipush C H (v := 16) at_196 rfl (pc' := 198) rfl
      replace H := k_iand C H at_198 (pc' := 199) rfl
      by_cases hc199 : (x1 &&& (16 : Int32)) = (0 : Int32)
      · replace H := k_ifcY C H at_199 (teq hc199).1 (by decide) (pc' := 206) rfl
        replace H := k_iconst C H (v := 0) at_206 rfl (pc' := 207) rfl
        replace H := k_istore C H at_207 (L' := #[.val (.int x0), .val (.int x1), .val (.ref p0), .val (.ref p1), .val (.ref p2), .val (.ref q), .val (.int e), .val ve, .val (.int (0 : Int32)), .val (.int (0 : Int32)), .unset, .unset]) rfl (pc' := 209) rfl
        replace H := k_iload C H at_209 rfl (pc' := 211) rfl
        replace H := k_ifcY C H at_211 (teq (by decide : (0 : Int32) = (0 : Int32))).1 (by decide) (pc' := 275) rfl
        replace H := k_iload C H at_275 rfl (pc' := 277) rfl
        replace H := k_iconst C H (v := 3) at_277 rfl (pc' := 278) rfl
        replace H := k_icmpY C H at_278 (tlt (by decide : (0 : Int32) < (3 : Int32))).1 (by decide) (pc' := 288) rfl
        replace H := k_iload C H at_288 rfl (pc' := 290) rfl
        replace H := k_iconst C H (v := 2) at_290 rfl (pc' := 291) rfl
        replace H := k_icmpY C H at_291 (tlt (by decide : (0 : Int32) < (2 : Int32))).1 (by decide) (pc' := 311) rfl
        replace H := k_iload C H at_311 rfl (pc' := 313) rfl
        replace H := k_iconst C H (v := 1) at_313 rfl (pc' := 314) rfl
        replace H := k_icmpY C H at_314 (tlt (by decide : (0 : Int32) < (1 : Int32))).1 (by decide) (pc' := 333) rfl
        replace H := k_iload C H at_333 rfl (pc' := 335) rfl
        replace H := k_ifcN C H at_335 (teq (by decide : (0 : Int32) = (0 : Int32))).2 (pc' := 338) rfl
        replace H := k_aload C H at_338 rfl hv (pc' := 340) rfl
        replace H := k_goto C H at_340 (by decide) (pc' := 344) rfl
        replace H := k_astore C H at_344 (L' := #[.val (.int x0), .val (.int x1), .val (.ref p0), .val (.ref p1), .val (.ref p2), .val (.ref q), .val (.int e), .val ve, .val (.int (0 : Int32)), .val (.int (0 : Int32)), .val ve, .unset]) hv (by rcases ref_cases hv with q | ⟨_, q⟩ <;> rw [q] <;> rfl) (pc' := 346) rfl
        replace H := k_iload C H at_346 rfl (pc' := 348) rfl
        replace H := k_iconst C H (v := 2) at_348 rfl (pc' := 349) rfl
        replace H := k_icmpY C H at_349 (tlt (by decide : (0 : Int32) < (2 : Int32))).1 (by decide) (pc' := 356) rfl
        replace H := k_aload C H at_356 rfl hv (pc' := 358) rfl
        replace H := k_astore C H at_358 (L' := #[.val (.int x0), .val (.int x1), .val (.ref p0), .val (.ref p1), .val (.ref p2), .val (.ref q), .val (.int e), .val ve, .val (.int (0 : Int32)), .val (.int (0 : Int32)), .val ve, .val ve]) hv (by rcases ref_cases hv with q | ⟨_, q⟩ <;> rw [q] <;> rfl) (pc' := 360) rfl
        replace H := k_aload C H at_360 rfl hv (pc' := 362) rfl
        replace H := k_callSta C H (rmres l Z a0 hw ve hv g0 n0 D 0 ve (own_r0 LE)) (hw _ (List.mem_of_getElem? (i := 97) rfl)) (hw _ (List.mem_of_getElem? (i := 48) rfl)) (hw _ (List.mem_of_getElem? (i := 2) rfl)) (hw _ (List.mem_of_getElem? (i := 49) rfl)) (by decide) at_362 rfl [ve] [] pdfin_0 rfl rfl rfl 0 rfl (by decide) (by decide) (by decide) (by decide) (pc' := 365) rfl
        obtain ⟨_, _, ⟨rfl, rfl⟩, H⟩ := H
        replace H : K 365 #[.val (.int x0), .val (.int x1), .val (.ref p0), .val (.ref p1), .val (.ref p2), .val (.ref q), .val (.int e), .val ve, .val (.int (0 : Int32)), .val (.int (0 : Int32)), .val ve, .val ve] [ve] g0 11 30 := H
        replace H := k_aload C H at_365 rfl hv (pc' := 367) rfl
        replace H := k_acmp C H at_367 hv hv (same := true) (decide_eq_true rfl) (by decide) (pc' := 370) (by decide)
        replace H := k_aload C H at_370 rfl hv (pc' := 372) rfl
        replace H := k_callSta C H (rmres l Z a0 hw ve hv g0 n0 D 0 ve (own_r0 LE)) (hw _ (List.mem_of_getElem? (i := 97) rfl)) (hw _ (List.mem_of_getElem? (i := 48) rfl)) (hw _ (List.mem_of_getElem? (i := 2) rfl)) (hw _ (List.mem_of_getElem? (i := 49) rfl)) (by decide) at_372 rfl [ve] [] pdfin_0 rfl rfl rfl 0 rfl (by decide) (by decide) (by decide) (by decide) (pc' := 375) rfl
        obtain ⟨_, _, ⟨rfl, rfl⟩, H⟩ := H
        replace H : K 375 #[.val (.int x0), .val (.int x1), .val (.ref p0), .val (.ref p1), .val (.ref p2), .val (.ref q), .val (.int e), .val ve, .val (.int (0 : Int32)), .val (.int (0 : Int32)), .val ve, .val ve] [ve] g0 11 30 := H
        replace H := k_aload C H at_375 rfl hv (pc' := 377) rfl
        replace H := k_acmp C H at_377 hv hv (same := true) (decide_eq_true rfl) (by decide) (pc' := 380) (by decide)
        replace H := k_aload C H at_380 rfl rfl (pc' := 382) rfl
        replace H := k_callSta C H (rmres l Z a0 hw (.ref q) rfl g0 n0 D 0 (.ref q) (own_r0 (Or.inr (Or.inr ⟨_, rfl, U_q⟩)))) (hw _ (List.mem_of_getElem? (i := 97) rfl)) (hw _ (List.mem_of_getElem? (i := 48) rfl)) (hw _ (List.mem_of_getElem? (i := 2) rfl)) (hw _ (List.mem_of_getElem? (i := 49) rfl)) (by decide) at_382 rfl [(.ref q)] [] pdfin_0 rfl rfl rfl 0 rfl (by decide) (by decide) (by decide) (by decide) (pc' := 385) rfl
        obtain ⟨_, _, ⟨rfl, rfl⟩, H⟩ := H
        replace H : K 385 #[.val (.int x0), .val (.int x1), .val (.ref p0), .val (.ref p1), .val (.ref p2), .val (.ref q), .val (.int e), .val ve, .val (.int (0 : Int32)), .val (.int (0 : Int32)), .val ve, .val ve] [(.ref q)] g0 11 30 := H
        replace H := k_aload C H at_385 rfl rfl (pc' := 387) rfl
        replace H := k_acmp C H at_387 rfl rfl (same := true) (decide_eq_true rfl) (by decide) (pc' := 390) (by decide)
        replace H := k_iconst C H (v := 1) at_390 rfl (pc' := 391) rfl
        replace H := k_goto C H at_391 (by decide) (pc' := 395) rfl
        exact k_retZ C H at_395 (by decide) (by decide) (by decide) rfl
      · replace H := k_ifcN C H at_199 (feq hc199).1 (pc' := 202) rfl
        replace H := k_iconst C H (v := 1) at_202 rfl (pc' := 203) rfl
        replace H := k_goto C H at_203 (by decide) (pc' := 207) rfl
        replace H := k_istore C H at_207 (L' := #[.val (.int x0), .val (.int x1), .val (.ref p0), .val (.ref p1), .val (.ref p2), .val (.ref q), .val (.int e), .val ve, .val (.int (0 : Int32)), .val (.int (1 : Int32)), .unset, .unset]) rfl (pc' := 209) rfl
        replace H := k_iload C H at_209 rfl (pc' := 211) rfl
        replace H := k_ifcN C H at_211 (feq (by decide : ¬ ((1 : Int32) = (0 : Int32)))).1 (pc' := 214) rfl
        replace H := k_iload C H at_214 rfl (pc' := 216) rfl
        replace H := k_iconst C H (v := 1) at_216 rfl (pc' := 217) rfl
        replace H := k_icmpY C H at_217 (tlt (by decide : (0 : Int32) < (1 : Int32))).1 (by decide) (pc' := 236) rfl
        replace H := k_iload C H at_236 rfl (pc' := 238) rfl
        replace H := k_iconst C H (v := 2) at_238 rfl (pc' := 239) rfl
        replace H := k_icmpY C H at_239 (tlt (by decide : (0 : Int32) < (2 : Int32))).1 (by decide) (pc' := 259) rfl
        replace H := k_iload C H at_259 rfl (pc' := 261) rfl
        replace H := k_iconst C H (v := 3) at_261 rfl (pc' := 262) rfl
        replace H := k_icmpY C H at_262 (tlt (by decide : (0 : Int32) < (3 : Int32))).1 (by decide) (pc' := 333) rfl
        replace H := k_iload C H at_333 rfl (pc' := 335) rfl
        replace H := k_ifcN C H at_335 (teq (by decide : (0 : Int32) = (0 : Int32))).2 (pc' := 338) rfl
        replace H := k_aload C H at_338 rfl hv (pc' := 340) rfl
        replace H := k_goto C H at_340 (by decide) (pc' := 344) rfl
        replace H := k_astore C H at_344 (L' := #[.val (.int x0), .val (.int x1), .val (.ref p0), .val (.ref p1), .val (.ref p2), .val (.ref q), .val (.int e), .val ve, .val (.int (0 : Int32)), .val (.int (1 : Int32)), .val ve, .unset]) hv (by rcases ref_cases hv with q | ⟨_, q⟩ <;> rw [q] <;> rfl) (pc' := 346) rfl
        replace H := k_iload C H at_346 rfl (pc' := 348) rfl
        replace H := k_iconst C H (v := 2) at_348 rfl (pc' := 349) rfl
        replace H := k_icmpY C H at_349 (tlt (by decide : (0 : Int32) < (2 : Int32))).1 (by decide) (pc' := 356) rfl
        replace H := k_aload C H at_356 rfl hv (pc' := 358) rfl
        replace H := k_astore C H at_358 (L' := #[.val (.int x0), .val (.int x1), .val (.ref p0), .val (.ref p1), .val (.ref p2), .val (.ref q), .val (.int e), .val ve, .val (.int (0 : Int32)), .val (.int (1 : Int32)), .val ve, .val ve]) hv (by rcases ref_cases hv with q | ⟨_, q⟩ <;> rw [q] <;> rfl) (pc' := 360) rfl
        replace H := k_aload C H at_360 rfl hv (pc' := 362) rfl
        replace H := k_callSta C H (rmres l Z a0 hw ve hv g0 n0 D 0 ve (own_r0 LE)) (hw _ (List.mem_of_getElem? (i := 97) rfl)) (hw _ (List.mem_of_getElem? (i := 48) rfl)) (hw _ (List.mem_of_getElem? (i := 2) rfl)) (hw _ (List.mem_of_getElem? (i := 49) rfl)) (by decide) at_362 rfl [ve] [] pdfin_0 rfl rfl rfl 0 rfl (by decide) (by decide) (by decide) (by decide) (pc' := 365) rfl
        obtain ⟨_, _, ⟨rfl, rfl⟩, H⟩ := H
        replace H : K 365 #[.val (.int x0), .val (.int x1), .val (.ref p0), .val (.ref p1), .val (.ref p2), .val (.ref q), .val (.int e), .val ve, .val (.int (0 : Int32)), .val (.int (1 : Int32)), .val ve, .val ve] [ve] g0 11 30 := H
        replace H := k_aload C H at_365 rfl hv (pc' := 367) rfl
        replace H := k_acmp C H at_367 hv hv (same := true) (decide_eq_true rfl) (by decide) (pc' := 370) (by decide)
        replace H := k_aload C H at_370 rfl hv (pc' := 372) rfl
        replace H := k_callSta C H (rmres l Z a0 hw ve hv g0 n0 D 0 ve (own_r0 LE)) (hw _ (List.mem_of_getElem? (i := 97) rfl)) (hw _ (List.mem_of_getElem? (i := 48) rfl)) (hw _ (List.mem_of_getElem? (i := 2) rfl)) (hw _ (List.mem_of_getElem? (i := 49) rfl)) (by decide) at_372 rfl [ve] [] pdfin_0 rfl rfl rfl 0 rfl (by decide) (by decide) (by decide) (by decide) (pc' := 375) rfl
        obtain ⟨_, _, ⟨rfl, rfl⟩, H⟩ := H
        replace H : K 375 #[.val (.int x0), .val (.int x1), .val (.ref p0), .val (.ref p1), .val (.ref p2), .val (.ref q), .val (.int e), .val ve, .val (.int (0 : Int32)), .val (.int (1 : Int32)), .val ve, .val ve] [ve] g0 11 30 := H
        replace H := k_aload C H at_375 rfl hv (pc' := 377) rfl
        replace H := k_acmp C H at_377 hv hv (same := true) (decide_eq_true rfl) (by decide) (pc' := 380) (by decide)
        replace H := k_aload C H at_380 rfl rfl (pc' := 382) rfl
        replace H := k_callSta C H (rmres l Z a0 hw (.ref q) rfl g0 n0 D 0 (.ref q) (own_r0 (Or.inr (Or.inr ⟨_, rfl, U_q⟩)))) (hw _ (List.mem_of_getElem? (i := 97) rfl)) (hw _ (List.mem_of_getElem? (i := 48) rfl)) (hw _ (List.mem_of_getElem? (i := 2) rfl)) (hw _ (List.mem_of_getElem? (i := 49) rfl)) (by decide) at_382 rfl [(.ref q)] [] pdfin_0 rfl rfl rfl 0 rfl (by decide) (by decide) (by decide) (by decide) (pc' := 385) rfl
        obtain ⟨_, _, ⟨rfl, rfl⟩, H⟩ := H
        replace H : K 385 #[.val (.int x0), .val (.int x1), .val (.ref p0), .val (.ref p1), .val (.ref p2), .val (.ref q), .val (.int e), .val ve, .val (.int (0 : Int32)), .val (.int (1 : Int32)), .val ve, .val ve] [(.ref q)] g0 11 30 := H
        replace H := k_aload C H at_385 rfl rfl (pc' := 387) rfl
        replace H := k_acmp C H at_387 rfl rfl (same := true) (decide_eq_true rfl) (by decide) (pc' := 390) (by decide)
        replace H := k_iconst C H (v := 1) at_390 rfl (pc' := 391) rfl
        replace H := k_goto C H at_391 (by decide) (pc' := 395) rfl
        exact k_retZ C H at_395 (by decide) (by decide) (by decide) rfl
    · rw [hk] at H
      replace H := k_istore C H at_193 (L' := #[.val (.int x0), .val (.int x1), .val (.ref p0), .val (.ref p1), .val (.ref p2), .val (.ref q), .val (.int e), .val ve, .val (.int (1 : Int32)), .unset, .unset, .unset]) (by rcases hs8 with rfl | ⟨_, rfl⟩ <;> rfl) (pc' := 195) rfl
      replace H := k_iloadN C H at_195 rfl (pc' := 196) rfl
      replace H := k_bipush C H (v := 16) at_196 rfl (pc' := 198) rfl
      replace H := k_iand C H at_198 (pc' := 199) rfl
      by_cases hc199 : (x1 &&& (16 : Int32)) = (0 : Int32)
      · replace H := k_ifcY C H at_199 (teq hc199).1 (by decide) (pc' := 206) rfl
        replace H := k_iconst C H (v := 0) at_206 rfl (pc' := 207) rfl
        replace H := k_istore C H at_207 (L' := #[.val (.int x0), .val (.int x1), .val (.ref p0), .val (.ref p1), .val (.ref p2), .val (.ref q), .val (.int e), .val ve, .val (.int (1 : Int32)), .val (.int (0 : Int32)), .unset, .unset]) rfl (pc' := 209) rfl
        replace H := k_iload C H at_209 rfl (pc' := 211) rfl
        replace H := k_ifcY C H at_211 (teq (by decide : (0 : Int32) = (0 : Int32))).1 (by decide) (pc' := 275) rfl
        replace H := k_iload C H at_275 rfl (pc' := 277) rfl
        replace H := k_iconst C H (v := 3) at_277 rfl (pc' := 278) rfl
        replace H := k_icmpY C H at_278 (tlt (by decide : (1 : Int32) < (3 : Int32))).1 (by decide) (pc' := 288) rfl
        replace H := k_iload C H at_288 rfl (pc' := 290) rfl
        replace H := k_iconst C H (v := 2) at_290 rfl (pc' := 291) rfl
        replace H := k_icmpY C H at_291 (tlt (by decide : (1 : Int32) < (2 : Int32))).1 (by decide) (pc' := 311) rfl
        replace H := k_iload C H at_311 rfl (pc' := 313) rfl
        replace H := k_iconst C H (v := 1) at_313 rfl (pc' := 314) rfl
        replace H := k_icmpN C H at_314 (flt (by decide : ¬ ((1 : Int32) < (1 : Int32)))).1 (pc' := 317) rfl
        replace H := k_aloadN C H at_317 rfl rfl (pc' := 318) rfl
        replace H := k_iload C H at_318 rfl (pc' := 320) rfl
        replace H := k_iconst C H (v := 1) at_320 rfl (pc' := 321) rfl
        replace H := k_icmpN C H at_321 (teq (by decide : (1 : Int32) = (1 : Int32))).2 (pc' := 324) rfl
        replace H := k_aload C H at_324 rfl hv (pc' := 326) rfl
        replace H := k_goto C H at_326 (by decide) (pc' := 330) rfl
        replace H := k_callVir C H (rmrsv l Z a0 hw p0 ve hv g0 n0 D dD kD fD mr AD XD M 0 ve U_p0 (own_r0 LE) nv_p0) (U_p0).2.1 (hw _ (List.mem_of_getElem? (i := 42) rfl)) (hw _ (List.mem_of_getElem? (i := 43) rfl)) (hw _ (List.mem_of_getElem? (i := 45) rfl)) (hw _ (List.mem_of_getElem? (i := 44) rfl)) (hw _ (List.mem_of_getElem? (i := 2) rfl)) (hw _ (List.mem_of_getElem? (i := 46) rfl)) (by decide) at_330 rfl [ve] [] pdfin_1 rfl rfl rfl 0 rfl (by decide) (by decide) (by decide) (by decide) (pc' := 333) rfl
        obtain ⟨_, j36, ⟨rfl, D_p0, SV⟩, H⟩ := H
        replace H : K 333 #[.val (.int x0), .val (.int x1), .val (.ref p0), .val (.ref p1), .val (.ref p2), .val (.ref q), .val (.int e), .val ve, .val (.int (1 : Int32)), .val (.int (0 : Int32)), .unset, .unset] [] j36 12 34 := H
        replace U_p1 := SV.2.2.2.1 _ (Ne.symm ne_p0_p1) U_p1
        replace U_p2 := SV.2.2.2.1 _ (Ne.symm ne_p0_p2) U_p2
        replace U_q := SV.2.2.2.1 _ (Ne.symm ne_p0_q) U_q
        replace LE := own_leafS SV nv_p0 LE
        replace AD := own_arfS SV dD AD
        replace XD := SV.2.2.1 _ _ XD
        clear SV U_p0
        replace H := k_iload C H at_333 rfl (pc' := 335) rfl
        replace H := k_ifcY C H at_335 (feq (by decide : ¬ ((1 : Int32) = (0 : Int32)))).2 (by decide) (pc' := 343) rfl
        replace H := k_aloadN C H at_343 rfl rfl (pc' := 344) rfl
        replace H := k_astore C H at_344 (L' := #[.val (.int x0), .val (.int x1), .val (.ref p0), .val (.ref p1), .val (.ref p2), .val (.ref q), .val (.int e), .val ve, .val (.int (1 : Int32)), .val (.int (0 : Int32)), .val (.ref p0), .unset]) rfl rfl (pc' := 346) rfl
        replace H := k_iload C H at_346 rfl (pc' := 348) rfl
        replace H := k_iconst C H (v := 2) at_348 rfl (pc' := 349) rfl
        replace H := k_icmpY C H at_349 (tlt (by decide : (1 : Int32) < (2 : Int32))).1 (by decide) (pc' := 356) rfl
        replace H := k_aload C H at_356 rfl hv (pc' := 358) rfl
        replace H := k_astore C H at_358 (L' := #[.val (.int x0), .val (.int x1), .val (.ref p0), .val (.ref p1), .val (.ref p2), .val (.ref q), .val (.int e), .val ve, .val (.int (1 : Int32)), .val (.int (0 : Int32)), .val (.ref p0), .val ve]) hv (by rcases ref_cases hv with q | ⟨_, q⟩ <;> rw [q] <;> rfl) (pc' := 360) rfl
        replace H := k_aload C H at_360 rfl rfl (pc' := 362) rfl
        replace H := k_callSta C H (rmres l Z a0 hw (.ref p0) rfl j36 n0 D 1 ve (own_rS D_p0 hv (own_r0 LE))) (hw _ (List.mem_of_getElem? (i := 97) rfl)) (hw _ (List.mem_of_getElem? (i := 48) rfl)) (hw _ (List.mem_of_getElem? (i := 2) rfl)) (hw _ (List.mem_of_getElem? (i := 49) rfl)) (by decide) at_362 rfl [(.ref p0)] [] pdfin_0 rfl rfl rfl 0 rfl (by decide) (by decide) (by decide) (by decide) (pc' := 365) rfl
        obtain ⟨_, _, ⟨rfl, rfl⟩, H⟩ := H
        replace H : K 365 #[.val (.int x0), .val (.int x1), .val (.ref p0), .val (.ref p1), .val (.ref p2), .val (.ref q), .val (.int e), .val ve, .val (.int (1 : Int32)), .val (.int (0 : Int32)), .val (.ref p0), .val ve] [ve] j36 12 34 := H
        replace H := k_aload C H at_365 rfl hv (pc' := 367) rfl
        replace H := k_acmp C H at_367 hv hv (same := true) (decide_eq_true rfl) (by decide) (pc' := 370) (by decide)
        replace H := k_aload C H at_370 rfl hv (pc' := 372) rfl
        replace H := k_callSta C H (rmres l Z a0 hw ve hv j36 n0 D 0 ve (own_r0 LE)) (hw _ (List.mem_of_getElem? (i := 97) rfl)) (hw _ (List.mem_of_getElem? (i := 48) rfl)) (hw _ (List.mem_of_getElem? (i := 2) rfl)) (hw _ (List.mem_of_getElem? (i := 49) rfl)) (by decide) at_372 rfl [ve] [] pdfin_0 rfl rfl rfl 0 rfl (by decide) (by decide) (by decide) (by decide) (pc' := 375) rfl
        obtain ⟨_, _, ⟨rfl, rfl⟩, H⟩ := H
        replace H : K 375 #[.val (.int x0), .val (.int x1), .val (.ref p0), .val (.ref p1), .val (.ref p2), .val (.ref q), .val (.int e), .val ve, .val (.int (1 : Int32)), .val (.int (0 : Int32)), .val (.ref p0), .val ve] [ve] j36 12 34 := H
        replace H := k_aload C H at_375 rfl hv (pc' := 377) rfl
        replace H := k_acmp C H at_377 hv hv (same := true) (decide_eq_true rfl) (by decide) (pc' := 380) (by decide)
        replace H := k_aload C H at_380 rfl rfl (pc' := 382) rfl
        replace H := k_callSta C H (rmres l Z a0 hw (.ref q) rfl j36 n0 D 0 (.ref q) (own_r0 (Or.inr (Or.inr ⟨_, rfl, U_q⟩)))) (hw _ (List.mem_of_getElem? (i := 97) rfl)) (hw _ (List.mem_of_getElem? (i := 48) rfl)) (hw _ (List.mem_of_getElem? (i := 2) rfl)) (hw _ (List.mem_of_getElem? (i := 49) rfl)) (by decide) at_382 rfl [(.ref q)] [] pdfin_0 rfl rfl rfl 0 rfl (by decide) (by decide) (by decide) (by decide) (pc' := 385) rfl
        obtain ⟨_, _, ⟨rfl, rfl⟩, H⟩ := H
        replace H : K 385 #[.val (.int x0), .val (.int x1), .val (.ref p0), .val (.ref p1), .val (.ref p2), .val (.ref q), .val (.int e), .val ve, .val (.int (1 : Int32)), .val (.int (0 : Int32)), .val (.ref p0), .val ve] [(.ref q)] j36 12 34 := H
        replace H := k_aload C H at_385 rfl rfl (pc' := 387) rfl
        replace H := k_acmp C H at_387 rfl rfl (same := true) (decide_eq_true rfl) (by decide) (pc' := 390) (by decide)
        replace H := k_iconst C H (v := 1) at_390 rfl (pc' := 391) rfl
        replace H := k_goto C H at_391 (by decide) (pc' := 395) rfl
        exact k_retZ C H at_395 (by decide) (by decide) (by decide) rfl
      · replace H := k_ifcN C H at_199 (feq hc199).1 (pc' := 202) rfl
        replace H := k_iconst C H (v := 1) at_202 rfl (pc' := 203) rfl
        replace H := k_goto C H at_203 (by decide) (pc' := 207) rfl
        replace H := k_istore C H at_207 (L' := #[.val (.int x0), .val (.int x1), .val (.ref p0), .val (.ref p1), .val (.ref p2), .val (.ref q), .val (.int e), .val ve, .val (.int (1 : Int32)), .val (.int (1 : Int32)), .unset, .unset]) rfl (pc' := 209) rfl
        replace H := k_iload C H at_209 rfl (pc' := 211) rfl
        replace H := k_ifcN C H at_211 (feq (by decide : ¬ ((1 : Int32) = (0 : Int32)))).1 (pc' := 214) rfl
        replace H := k_iload C H at_214 rfl (pc' := 216) rfl
        replace H := k_iconst C H (v := 1) at_216 rfl (pc' := 217) rfl
        replace H := k_icmpN C H at_217 (flt (by decide : ¬ ((1 : Int32) < (1 : Int32)))).1 (pc' := 220) rfl
        replace H := k_aloadN C H at_220 rfl rfl (pc' := 221) rfl
        replace H := k_iload C H at_221 rfl (pc' := 223) rfl
        replace H := k_iconst C H (v := 1) at_223 rfl (pc' := 224) rfl
        replace H := k_icmpN C H at_224 (teq (by decide : (1 : Int32) = (1 : Int32))).2 (pc' := 227) rfl
        replace H := k_aload C H at_227 rfl hv (pc' := 229) rfl
        replace H := k_goto C H at_229 (by decide) (pc' := 233) rfl
        replace H := k_callVir C H (rmrsv l Z a0 hw p0 ve hv g0 n0 D dD kD fD mr AD XD M 0 ve U_p0 (own_r0 LE) nv_p0) (U_p0).2.1 (hw _ (List.mem_of_getElem? (i := 42) rfl)) (hw _ (List.mem_of_getElem? (i := 43) rfl)) (hw _ (List.mem_of_getElem? (i := 45) rfl)) (hw _ (List.mem_of_getElem? (i := 44) rfl)) (hw _ (List.mem_of_getElem? (i := 2) rfl)) (hw _ (List.mem_of_getElem? (i := 46) rfl)) (by decide) at_233 rfl [ve] [] pdfin_1 rfl rfl rfl 0 rfl (by decide) (by decide) (by decide) (by decide) (pc' := 236) rfl
        obtain ⟨_, j37, ⟨rfl, D_p0, SV⟩, H⟩ := H
        replace H : K 236 #[.val (.int x0), .val (.int x1), .val (.ref p0), .val (.ref p1), .val (.ref p2), .val (.ref q), .val (.int e), .val ve, .val (.int (1 : Int32)), .val (.int (1 : Int32)), .unset, .unset] [] j37 12 34 := H
        replace U_p1 := SV.2.2.2.1 _ (Ne.symm ne_p0_p1) U_p1
        replace U_p2 := SV.2.2.2.1 _ (Ne.symm ne_p0_p2) U_p2
        replace U_q := SV.2.2.2.1 _ (Ne.symm ne_p0_q) U_q
        replace LE := own_leafS SV nv_p0 LE
        replace AD := own_arfS SV dD AD
        replace XD := SV.2.2.1 _ _ XD
        clear SV U_p0
        replace H := k_iload C H at_236 rfl (pc' := 238) rfl
        replace H := k_iconst C H (v := 2) at_238 rfl (pc' := 239) rfl
        replace H := k_icmpY C H at_239 (tlt (by decide : (1 : Int32) < (2 : Int32))).1 (by decide) (pc' := 259) rfl
        replace H := k_iload C H at_259 rfl (pc' := 261) rfl
        replace H := k_iconst C H (v := 3) at_261 rfl (pc' := 262) rfl
        replace H := k_icmpY C H at_262 (tlt (by decide : (1 : Int32) < (3 : Int32))).1 (by decide) (pc' := 333) rfl
        replace H := k_iload C H at_333 rfl (pc' := 335) rfl
        replace H := k_ifcY C H at_335 (feq (by decide : ¬ ((1 : Int32) = (0 : Int32)))).2 (by decide) (pc' := 343) rfl
        replace H := k_aloadN C H at_343 rfl rfl (pc' := 344) rfl
        replace H := k_astore C H at_344 (L' := #[.val (.int x0), .val (.int x1), .val (.ref p0), .val (.ref p1), .val (.ref p2), .val (.ref q), .val (.int e), .val ve, .val (.int (1 : Int32)), .val (.int (1 : Int32)), .val (.ref p0), .unset]) rfl rfl (pc' := 346) rfl
        replace H := k_iload C H at_346 rfl (pc' := 348) rfl
        replace H := k_iconst C H (v := 2) at_348 rfl (pc' := 349) rfl
        replace H := k_icmpY C H at_349 (tlt (by decide : (1 : Int32) < (2 : Int32))).1 (by decide) (pc' := 356) rfl
        replace H := k_aload C H at_356 rfl hv (pc' := 358) rfl
        replace H := k_astore C H at_358 (L' := #[.val (.int x0), .val (.int x1), .val (.ref p0), .val (.ref p1), .val (.ref p2), .val (.ref q), .val (.int e), .val ve, .val (.int (1 : Int32)), .val (.int (1 : Int32)), .val (.ref p0), .val ve]) hv (by rcases ref_cases hv with q | ⟨_, q⟩ <;> rw [q] <;> rfl) (pc' := 360) rfl
        replace H := k_aload C H at_360 rfl rfl (pc' := 362) rfl
        replace H := k_callSta C H (rmres l Z a0 hw (.ref p0) rfl j37 n0 D 1 ve (own_rS D_p0 hv (own_r0 LE))) (hw _ (List.mem_of_getElem? (i := 97) rfl)) (hw _ (List.mem_of_getElem? (i := 48) rfl)) (hw _ (List.mem_of_getElem? (i := 2) rfl)) (hw _ (List.mem_of_getElem? (i := 49) rfl)) (by decide) at_362 rfl [(.ref p0)] [] pdfin_0 rfl rfl rfl 0 rfl (by decide) (by decide) (by decide) (by decide) (pc' := 365) rfl
        obtain ⟨_, _, ⟨rfl, rfl⟩, H⟩ := H
        replace H : K 365 #[.val (.int x0), .val (.int x1), .val (.ref p0), .val (.ref p1), .val (.ref p2), .val (.ref q), .val (.int e), .val ve, .val (.int (1 : Int32)), .val (.int (1 : Int32)), .val (.ref p0), .val ve] [ve] j37 12 34 := H
        replace H := k_aload C H at_365 rfl hv (pc' := 367) rfl
        replace H := k_acmp C H at_367 hv hv (same := true) (decide_eq_true rfl) (by decide) (pc' := 370) (by decide)
        replace H := k_aload C H at_370 rfl hv (pc' := 372) rfl
        replace H := k_callSta C H (rmres l Z a0 hw ve hv j37 n0 D 0 ve (own_r0 LE)) (hw _ (List.mem_of_getElem? (i := 97) rfl)) (hw _ (List.mem_of_getElem? (i := 48) rfl)) (hw _ (List.mem_of_getElem? (i := 2) rfl)) (hw _ (List.mem_of_getElem? (i := 49) rfl)) (by decide) at_372 rfl [ve] [] pdfin_0 rfl rfl rfl 0 rfl (by decide) (by decide) (by decide) (by decide) (pc' := 375) rfl
        obtain ⟨_, _, ⟨rfl, rfl⟩, H⟩ := H
        replace H : K 375 #[.val (.int x0), .val (.int x1), .val (.ref p0), .val (.ref p1), .val (.ref p2), .val (.ref q), .val (.int e), .val ve, .val (.int (1 : Int32)), .val (.int (1 : Int32)), .val (.ref p0), .val ve] [ve] j37 12 34 := H
        replace H := k_aload C H at_375 rfl hv (pc' := 377) rfl
        replace H := k_acmp C H at_377 hv hv (same := true) (decide_eq_true rfl) (by decide) (pc' := 380) (by decide)
        replace H := k_aload C H at_380 rfl rfl (pc' := 382) rfl
        replace H := k_callSta C H (rmres l Z a0 hw (.ref q) rfl j37 n0 D 0 (.ref q) (own_r0 (Or.inr (Or.inr ⟨_, rfl, U_q⟩)))) (hw _ (List.mem_of_getElem? (i := 97) rfl)) (hw _ (List.mem_of_getElem? (i := 48) rfl)) (hw _ (List.mem_of_getElem? (i := 2) rfl)) (hw _ (List.mem_of_getElem? (i := 49) rfl)) (by decide) at_382 rfl [(.ref q)] [] pdfin_0 rfl rfl rfl 0 rfl (by decide) (by decide) (by decide) (by decide) (pc' := 385) rfl
        obtain ⟨_, _, ⟨rfl, rfl⟩, H⟩ := H
        replace H : K 385 #[.val (.int x0), .val (.int x1), .val (.ref p0), .val (.ref p1), .val (.ref p2), .val (.ref q), .val (.int e), .val ve, .val (.int (1 : Int32)), .val (.int (1 : Int32)), .val (.ref p0), .val ve] [(.ref q)] j37 12 34 := H
        replace H := k_aload C H at_385 rfl rfl (pc' := 387) rfl
        replace H := k_acmp C H at_387 rfl rfl (same := true) (decide_eq_true rfl) (by decide) (pc' := 390) (by decide)
        replace H := k_iconst C H (v := 1) at_390 rfl (pc' := 391) rfl
        replace H := k_goto C H at_391 (by decide) (pc' := 395) rfl
        exact k_retZ C H at_395 (by decide) (by decide) (by decide) rfl
    · rw [hk] at H
      replace H := k_istore C H at_193 (L' := #[.val (.int x0), .val (.int x1), .val (.ref p0), .val (.ref p1), .val (.ref p2), .val (.ref q), .val (.int e), .val ve, .val (.int (2 : Int32)), .unset, .unset, .unset]) (by rcases hs8 with rfl | ⟨_, rfl⟩ <;> rfl) (pc' := 195) rfl
      replace H := k_iloadN C H at_195 rfl (pc' := 196) rfl
      replace H := k_bipush C H (v := 16) at_196 rfl (pc' := 198) rfl
      replace H := k_iand C H at_198 (pc' := 199) rfl
      by_cases hc199 : (x1 &&& (16 : Int32)) = (0 : Int32)
      · replace H := k_ifcY C H at_199 (teq hc199).1 (by decide) (pc' := 206) rfl
        replace H := k_iconst C H (v := 0) at_206 rfl (pc' := 207) rfl
        replace H := k_istore C H at_207 (L' := #[.val (.int x0), .val (.int x1), .val (.ref p0), .val (.ref p1), .val (.ref p2), .val (.ref q), .val (.int e), .val ve, .val (.int (2 : Int32)), .val (.int (0 : Int32)), .unset, .unset]) rfl (pc' := 209) rfl
        replace H := k_iload C H at_209 rfl (pc' := 211) rfl
        replace H := k_ifcY C H at_211 (teq (by decide : (0 : Int32) = (0 : Int32))).1 (by decide) (pc' := 275) rfl
        replace H := k_iload C H at_275 rfl (pc' := 277) rfl
        replace H := k_iconst C H (v := 3) at_277 rfl (pc' := 278) rfl
        replace H := k_icmpY C H at_278 (tlt (by decide : (2 : Int32) < (3 : Int32))).1 (by decide) (pc' := 288) rfl
        replace H := k_iload C H at_288 rfl (pc' := 290) rfl
        replace H := k_iconst C H (v := 2) at_290 rfl (pc' := 291) rfl
        replace H := k_icmpN C H at_291 (flt (by decide : ¬ ((2 : Int32) < (2 : Int32)))).1 (pc' := 294) rfl
        replace H := k_aloadN C H at_294 rfl rfl (pc' := 295) rfl
        replace H := k_iload C H at_295 rfl (pc' := 297) rfl
        replace H := k_iconst C H (v := 2) at_297 rfl (pc' := 298) rfl
        replace H := k_icmpN C H at_298 (teq (by decide : (2 : Int32) = (2 : Int32))).2 (pc' := 301) rfl
        replace H := k_aload C H at_301 rfl hv (pc' := 303) rfl
        replace H := k_goto C H at_303 (by decide) (pc' := 308) rfl
        replace H := k_callVir C H (rmrsv l Z a0 hw p1 ve hv g0 n0 D dD kD fD mr AD XD M 0 ve U_p1 (own_r0 LE) nv_p1) (U_p1).2.1 (hw _ (List.mem_of_getElem? (i := 42) rfl)) (hw _ (List.mem_of_getElem? (i := 43) rfl)) (hw _ (List.mem_of_getElem? (i := 45) rfl)) (hw _ (List.mem_of_getElem? (i := 44) rfl)) (hw _ (List.mem_of_getElem? (i := 2) rfl)) (hw _ (List.mem_of_getElem? (i := 46) rfl)) (by decide) at_308 rfl [ve] [] pdfin_1 rfl rfl rfl 0 rfl (by decide) (by decide) (by decide) (by decide) (pc' := 311) rfl
        obtain ⟨_, j38, ⟨rfl, D_p1, SV⟩, H⟩ := H
        replace H : K 311 #[.val (.int x0), .val (.int x1), .val (.ref p0), .val (.ref p1), .val (.ref p2), .val (.ref q), .val (.int e), .val ve, .val (.int (2 : Int32)), .val (.int (0 : Int32)), .unset, .unset] [] j38 12 34 := H
        replace U_p0 := SV.2.2.2.1 _ ne_p0_p1 U_p0
        replace U_p2 := SV.2.2.2.1 _ (Ne.symm ne_p1_p2) U_p2
        replace U_q := SV.2.2.2.1 _ (Ne.symm ne_p1_q) U_q
        replace LE := own_leafS SV nv_p1 LE
        replace AD := own_arfS SV dD AD
        replace XD := SV.2.2.1 _ _ XD
        clear SV U_p1
        replace H := k_iload C H at_311 rfl (pc' := 313) rfl
        replace H := k_iconst C H (v := 1) at_313 rfl (pc' := 314) rfl
        replace H := k_icmpN C H at_314 (flt (by decide : ¬ ((2 : Int32) < (1 : Int32)))).1 (pc' := 317) rfl
        replace H := k_aloadN C H at_317 rfl rfl (pc' := 318) rfl
        replace H := k_iload C H at_318 rfl (pc' := 320) rfl
        replace H := k_iconst C H (v := 1) at_320 rfl (pc' := 321) rfl
        replace H := k_icmpY C H at_321 (feq (by decide : ¬ ((2 : Int32) = (1 : Int32)))).2 (by decide) (pc' := 329) rfl
        replace H := k_aloadN C H at_329 rfl rfl (pc' := 330) rfl
        replace H := k_callVir C H (rmrsv l Z a0 hw p0 (.ref p1) rfl j38 n0 D dD kD fD mr AD XD M 1 ve U_p0 (own_rS D_p1 hv (own_r0 LE)) nv_p0) (U_p0).2.1 (hw _ (List.mem_of_getElem? (i := 42) rfl)) (hw _ (List.mem_of_getElem? (i := 43) rfl)) (hw _ (List.mem_of_getElem? (i := 45) rfl)) (hw _ (List.mem_of_getElem? (i := 44) rfl)) (hw _ (List.mem_of_getElem? (i := 2) rfl)) (hw _ (List.mem_of_getElem? (i := 46) rfl)) (by decide) at_330 rfl [(.ref p1)] [] pdfin_1 rfl rfl rfl 0 rfl (by decide) (by decide) (by decide) (by decide) (pc' := 333) rfl
        obtain ⟨_, j39, ⟨rfl, D_p0, SV⟩, H⟩ := H
        replace H : K 333 #[.val (.int x0), .val (.int x1), .val (.ref p0), .val (.ref p1), .val (.ref p2), .val (.ref q), .val (.int e), .val ve, .val (.int (2 : Int32)), .val (.int (0 : Int32)), .unset, .unset] [] j39 13 38 := H
        replace D_p1 := SV.2.2.2.2 _ _ (Ne.symm ne_p0_p1) D_p1
        replace U_p2 := SV.2.2.2.1 _ (Ne.symm ne_p0_p2) U_p2
        replace U_q := SV.2.2.2.1 _ (Ne.symm ne_p0_q) U_q
        replace LE := own_leafS SV nv_p0 LE
        replace AD := own_arfS SV dD AD
        replace XD := SV.2.2.1 _ _ XD
        clear SV U_p0
        replace H := k_iload C H at_333 rfl (pc' := 335) rfl
        replace H := k_ifcY C H at_335 (feq (by decide : ¬ ((2 : Int32) = (0 : Int32)))).2 (by decide) (pc' := 343) rfl
        replace H := k_aloadN C H at_343 rfl rfl (pc' := 344) rfl
        replace H := k_astore C H at_344 (L' := #[.val (.int x0), .val (.int x1), .val (.ref p0), .val (.ref p1), .val (.ref p2), .val (.ref q), .val (.int e), .val ve, .val (.int (2 : Int32)), .val (.int (0 : Int32)), .val (.ref p0), .unset]) rfl rfl (pc' := 346) rfl
        replace H := k_iload C H at_346 rfl (pc' := 348) rfl
        replace H := k_iconst C H (v := 2) at_348 rfl (pc' := 349) rfl
        replace H := k_icmpN C H at_349 (flt (by decide : ¬ ((2 : Int32) < (2 : Int32)))).1 (pc' := 352) rfl
        replace H := k_aloadN C H at_352 rfl rfl (pc' := 353) rfl
        replace H := k_goto C H at_353 (by decide) (pc' := 358) rfl
        replace H := k_astore C H at_358 (L' := #[.val (.int x0), .val (.int x1), .val (.ref p0), .val (.ref p1), .val (.ref p2), .val (.ref q), .val (.int e), .val ve, .val (.int (2 : Int32)), .val (.int (0 : Int32)), .val (.ref p0), .val (.ref p1)]) rfl rfl (pc' := 360) rfl
        replace H := k_aload C H at_360 rfl rfl (pc' := 362) rfl
        replace H := k_callSta C H (rmres l Z a0 hw (.ref p0) rfl j39 n0 D 2 ve (own_rS D_p0 rfl (own_rS D_p1 hv (own_r0 LE)))) (hw _ (List.mem_of_getElem? (i := 97) rfl)) (hw _ (List.mem_of_getElem? (i := 48) rfl)) (hw _ (List.mem_of_getElem? (i := 2) rfl)) (hw _ (List.mem_of_getElem? (i := 49) rfl)) (by decide) at_362 rfl [(.ref p0)] [] pdfin_0 rfl rfl rfl 0 rfl (by decide) (by decide) (by decide) (by decide) (pc' := 365) rfl
        obtain ⟨_, _, ⟨rfl, rfl⟩, H⟩ := H
        replace H : K 365 #[.val (.int x0), .val (.int x1), .val (.ref p0), .val (.ref p1), .val (.ref p2), .val (.ref q), .val (.int e), .val ve, .val (.int (2 : Int32)), .val (.int (0 : Int32)), .val (.ref p0), .val (.ref p1)] [ve] j39 13 38 := H
        replace H := k_aload C H at_365 rfl hv (pc' := 367) rfl
        replace H := k_acmp C H at_367 hv hv (same := true) (decide_eq_true rfl) (by decide) (pc' := 370) (by decide)
        replace H := k_aload C H at_370 rfl rfl (pc' := 372) rfl
        replace H := k_callSta C H (rmres l Z a0 hw (.ref p1) rfl j39 n0 D 1 ve (own_rS D_p1 hv (own_r0 LE))) (hw _ (List.mem_of_getElem? (i := 97) rfl)) (hw _ (List.mem_of_getElem? (i := 48) rfl)) (hw _ (List.mem_of_getElem? (i := 2) rfl)) (hw _ (List.mem_of_getElem? (i := 49) rfl)) (by decide) at_372 rfl [(.ref p1)] [] pdfin_0 rfl rfl rfl 0 rfl (by decide) (by decide) (by decide) (by decide) (pc' := 375) rfl
        obtain ⟨_, _, ⟨rfl, rfl⟩, H⟩ := H
        replace H : K 375 #[.val (.int x0), .val (.int x1), .val (.ref p0), .val (.ref p1), .val (.ref p2), .val (.ref q), .val (.int e), .val ve, .val (.int (2 : Int32)), .val (.int (0 : Int32)), .val (.ref p0), .val (.ref p1)] [ve] j39 13 38 := H
        replace H := k_aload C H at_375 rfl hv (pc' := 377) rfl
        replace H := k_acmp C H at_377 hv hv (same := true) (decide_eq_true rfl) (by decide) (pc' := 380) (by decide)
        replace H := k_aload C H at_380 rfl rfl (pc' := 382) rfl
        replace H := k_callSta C H (rmres l Z a0 hw (.ref q) rfl j39 n0 D 0 (.ref q) (own_r0 (Or.inr (Or.inr ⟨_, rfl, U_q⟩)))) (hw _ (List.mem_of_getElem? (i := 97) rfl)) (hw _ (List.mem_of_getElem? (i := 48) rfl)) (hw _ (List.mem_of_getElem? (i := 2) rfl)) (hw _ (List.mem_of_getElem? (i := 49) rfl)) (by decide) at_382 rfl [(.ref q)] [] pdfin_0 rfl rfl rfl 0 rfl (by decide) (by decide) (by decide) (by decide) (pc' := 385) rfl
        obtain ⟨_, _, ⟨rfl, rfl⟩, H⟩ := H
        replace H : K 385 #[.val (.int x0), .val (.int x1), .val (.ref p0), .val (.ref p1), .val (.ref p2), .val (.ref q), .val (.int e), .val ve, .val (.int (2 : Int32)), .val (.int (0 : Int32)), .val (.ref p0), .val (.ref p1)] [(.ref q)] j39 13 38 := H
        replace H := k_aload C H at_385 rfl rfl (pc' := 387) rfl
        replace H := k_acmp C H at_387 rfl rfl (same := true) (decide_eq_true rfl) (by decide) (pc' := 390) (by decide)
        replace H := k_iconst C H (v := 1) at_390 rfl (pc' := 391) rfl
        replace H := k_goto C H at_391 (by decide) (pc' := 395) rfl
        exact k_retZ C H at_395 (by decide) (by decide) (by decide) rfl
      · replace H := k_ifcN C H at_199 (feq hc199).1 (pc' := 202) rfl
        replace H := k_iconst C H (v := 1) at_202 rfl (pc' := 203) rfl
        replace H := k_goto C H at_203 (by decide) (pc' := 207) rfl
        replace H := k_istore C H at_207 (L' := #[.val (.int x0), .val (.int x1), .val (.ref p0), .val (.ref p1), .val (.ref p2), .val (.ref q), .val (.int e), .val ve, .val (.int (2 : Int32)), .val (.int (1 : Int32)), .unset, .unset]) rfl (pc' := 209) rfl
        replace H := k_iload C H at_209 rfl (pc' := 211) rfl
        replace H := k_ifcN C H at_211 (feq (by decide : ¬ ((1 : Int32) = (0 : Int32)))).1 (pc' := 214) rfl
        replace H := k_iload C H at_214 rfl (pc' := 216) rfl
        replace H := k_iconst C H (v := 1) at_216 rfl (pc' := 217) rfl
        replace H := k_icmpN C H at_217 (flt (by decide : ¬ ((2 : Int32) < (1 : Int32)))).1 (pc' := 220) rfl
        replace H := k_aloadN C H at_220 rfl rfl (pc' := 221) rfl
        replace H := k_iload C H at_221 rfl (pc' := 223) rfl
        replace H := k_iconst C H (v := 1) at_223 rfl (pc' := 224) rfl
        replace H := k_icmpY C H at_224 (feq (by decide : ¬ ((2 : Int32) = (1 : Int32)))).2 (by decide) (pc' := 232) rfl
        replace H := k_aloadN C H at_232 rfl rfl (pc' := 233) rfl
        replace H := k_callVir C H (rmrsv l Z a0 hw p0 (.ref p1) rfl g0 n0 D dD kD fD mr AD XD M 0 (.ref p1) U_p0 (own_r0 (Or.inr (Or.inr ⟨_, rfl, U_p1⟩))) (fun z => (Ne.symm ne_p0_p1) (Value.ref.inj z))) (U_p0).2.1 (hw _ (List.mem_of_getElem? (i := 42) rfl)) (hw _ (List.mem_of_getElem? (i := 43) rfl)) (hw _ (List.mem_of_getElem? (i := 45) rfl)) (hw _ (List.mem_of_getElem? (i := 44) rfl)) (hw _ (List.mem_of_getElem? (i := 2) rfl)) (hw _ (List.mem_of_getElem? (i := 46) rfl)) (by decide) at_233 rfl [(.ref p1)] [] pdfin_1 rfl rfl rfl 0 rfl (by decide) (by decide) (by decide) (by decide) (pc' := 236) rfl
        obtain ⟨_, j40, ⟨rfl, D_p0, SV⟩, H⟩ := H
        replace H : K 236 #[.val (.int x0), .val (.int x1), .val (.ref p0), .val (.ref p1), .val (.ref p2), .val (.ref q), .val (.int e), .val ve, .val (.int (2 : Int32)), .val (.int (1 : Int32)), .unset, .unset] [] j40 12 34 := H
        replace U_p1 := SV.2.2.2.1 _ (Ne.symm ne_p0_p1) U_p1
        replace U_p2 := SV.2.2.2.1 _ (Ne.symm ne_p0_p2) U_p2
        replace U_q := SV.2.2.2.1 _ (Ne.symm ne_p0_q) U_q
        replace LE := own_leafS SV nv_p0 LE
        replace AD := own_arfS SV dD AD
        replace XD := SV.2.2.1 _ _ XD
        clear SV U_p0
        replace H := k_iload C H at_236 rfl (pc' := 238) rfl
        replace H := k_iconst C H (v := 2) at_238 rfl (pc' := 239) rfl
        replace H := k_icmpN C H at_239 (flt (by decide : ¬ ((2 : Int32) < (2 : Int32)))).1 (pc' := 242) rfl
        replace H := k_aloadN C H at_242 rfl rfl (pc' := 243) rfl
        replace H := k_iload C H at_243 rfl (pc' := 245) rfl
        replace H := k_iconst C H (v := 2) at_245 rfl (pc' := 246) rfl
        replace H := k_icmpN C H at_246 (teq (by decide : (2 : Int32) = (2 : Int32))).2 (pc' := 249) rfl
        replace H := k_aload C H at_249 rfl hv (pc' := 251) rfl
        replace H := k_goto C H at_251 (by decide) (pc' := 256) rfl
        replace H := k_callVir C H (rmrsv l Z a0 hw p1 ve hv j40 n0 D dD kD fD mr AD XD M 0 ve U_p1 (own_r0 LE) nv_p1) (U_p1).2.1 (hw _ (List.mem_of_getElem? (i := 42) rfl)) (hw _ (List.mem_of_getElem? (i := 43) rfl)) (hw _ (List.mem_of_getElem? (i := 45) rfl)) (hw _ (List.mem_of_getElem? (i := 44) rfl)) (hw _ (List.mem_of_getElem? (i := 2) rfl)) (hw _ (List.mem_of_getElem? (i := 46) rfl)) (by decide) at_256 rfl [ve] [] pdfin_1 rfl rfl rfl 0 rfl (by decide) (by decide) (by decide) (by decide) (pc' := 259) rfl
        obtain ⟨_, j41, ⟨rfl, D_p1, SV⟩, H⟩ := H
        replace H : K 259 #[.val (.int x0), .val (.int x1), .val (.ref p0), .val (.ref p1), .val (.ref p2), .val (.ref q), .val (.int e), .val ve, .val (.int (2 : Int32)), .val (.int (1 : Int32)), .unset, .unset] [] j41 13 38 := H
        replace D_p0 := SV.2.2.2.2 _ _ ne_p0_p1 D_p0
        replace U_p2 := SV.2.2.2.1 _ (Ne.symm ne_p1_p2) U_p2
        replace U_q := SV.2.2.2.1 _ (Ne.symm ne_p1_q) U_q
        replace LE := own_leafS SV nv_p1 LE
        replace AD := own_arfS SV dD AD
        replace XD := SV.2.2.1 _ _ XD
        clear SV U_p1
        replace H := k_iload C H at_259 rfl (pc' := 261) rfl
        replace H := k_iconst C H (v := 3) at_261 rfl (pc' := 262) rfl
        replace H := k_icmpY C H at_262 (tlt (by decide : (2 : Int32) < (3 : Int32))).1 (by decide) (pc' := 333) rfl
        replace H := k_iload C H at_333 rfl (pc' := 335) rfl
        replace H := k_ifcY C H at_335 (feq (by decide : ¬ ((2 : Int32) = (0 : Int32)))).2 (by decide) (pc' := 343) rfl
        replace H := k_aloadN C H at_343 rfl rfl (pc' := 344) rfl
        replace H := k_astore C H at_344 (L' := #[.val (.int x0), .val (.int x1), .val (.ref p0), .val (.ref p1), .val (.ref p2), .val (.ref q), .val (.int e), .val ve, .val (.int (2 : Int32)), .val (.int (1 : Int32)), .val (.ref p0), .unset]) rfl rfl (pc' := 346) rfl
        replace H := k_iload C H at_346 rfl (pc' := 348) rfl
        replace H := k_iconst C H (v := 2) at_348 rfl (pc' := 349) rfl
        replace H := k_icmpN C H at_349 (flt (by decide : ¬ ((2 : Int32) < (2 : Int32)))).1 (pc' := 352) rfl
        replace H := k_aloadN C H at_352 rfl rfl (pc' := 353) rfl
        replace H := k_goto C H at_353 (by decide) (pc' := 358) rfl
        replace H := k_astore C H at_358 (L' := #[.val (.int x0), .val (.int x1), .val (.ref p0), .val (.ref p1), .val (.ref p2), .val (.ref q), .val (.int e), .val ve, .val (.int (2 : Int32)), .val (.int (1 : Int32)), .val (.ref p0), .val (.ref p1)]) rfl rfl (pc' := 360) rfl
        replace H := k_aload C H at_360 rfl rfl (pc' := 362) rfl
        replace H := k_callSta C H (rmres l Z a0 hw (.ref p0) rfl j41 n0 D 2 ve (own_rS D_p0 rfl (own_rS D_p1 hv (own_r0 LE)))) (hw _ (List.mem_of_getElem? (i := 97) rfl)) (hw _ (List.mem_of_getElem? (i := 48) rfl)) (hw _ (List.mem_of_getElem? (i := 2) rfl)) (hw _ (List.mem_of_getElem? (i := 49) rfl)) (by decide) at_362 rfl [(.ref p0)] [] pdfin_0 rfl rfl rfl 0 rfl (by decide) (by decide) (by decide) (by decide) (pc' := 365) rfl
        obtain ⟨_, _, ⟨rfl, rfl⟩, H⟩ := H
        replace H : K 365 #[.val (.int x0), .val (.int x1), .val (.ref p0), .val (.ref p1), .val (.ref p2), .val (.ref q), .val (.int e), .val ve, .val (.int (2 : Int32)), .val (.int (1 : Int32)), .val (.ref p0), .val (.ref p1)] [ve] j41 13 38 := H
        replace H := k_aload C H at_365 rfl hv (pc' := 367) rfl
        replace H := k_acmp C H at_367 hv hv (same := true) (decide_eq_true rfl) (by decide) (pc' := 370) (by decide)
        replace H := k_aload C H at_370 rfl rfl (pc' := 372) rfl
        replace H := k_callSta C H (rmres l Z a0 hw (.ref p1) rfl j41 n0 D 1 ve (own_rS D_p1 hv (own_r0 LE))) (hw _ (List.mem_of_getElem? (i := 97) rfl)) (hw _ (List.mem_of_getElem? (i := 48) rfl)) (hw _ (List.mem_of_getElem? (i := 2) rfl)) (hw _ (List.mem_of_getElem? (i := 49) rfl)) (by decide) at_372 rfl [(.ref p1)] [] pdfin_0 rfl rfl rfl 0 rfl (by decide) (by decide) (by decide) (by decide) (pc' := 375) rfl
        obtain ⟨_, _, ⟨rfl, rfl⟩, H⟩ := H
        replace H : K 375 #[.val (.int x0), .val (.int x1), .val (.ref p0), .val (.ref p1), .val (.ref p2), .val (.ref q), .val (.int e), .val ve, .val (.int (2 : Int32)), .val (.int (1 : Int32)), .val (.ref p0), .val (.ref p1)] [ve] j41 13 38 := H
        replace H := k_aload C H at_375 rfl hv (pc' := 377) rfl
        replace H := k_acmp C H at_377 hv hv (same := true) (decide_eq_true rfl) (by decide) (pc' := 380) (by decide)
        replace H := k_aload C H at_380 rfl rfl (pc' := 382) rfl
        replace H := k_callSta C H (rmres l Z a0 hw (.ref q) rfl j41 n0 D 0 (.ref q) (own_r0 (Or.inr (Or.inr ⟨_, rfl, U_q⟩)))) (hw _ (List.mem_of_getElem? (i := 97) rfl)) (hw _ (List.mem_of_getElem? (i := 48) rfl)) (hw _ (List.mem_of_getElem? (i := 2) rfl)) (hw _ (List.mem_of_getElem? (i := 49) rfl)) (by decide) at_382 rfl [(.ref q)] [] pdfin_0 rfl rfl rfl 0 rfl (by decide) (by decide) (by decide) (by decide) (pc' := 385) rfl
        obtain ⟨_, _, ⟨rfl, rfl⟩, H⟩ := H
        replace H : K 385 #[.val (.int x0), .val (.int x1), .val (.ref p0), .val (.ref p1), .val (.ref p2), .val (.ref q), .val (.int e), .val ve, .val (.int (2 : Int32)), .val (.int (1 : Int32)), .val (.ref p0), .val (.ref p1)] [(.ref q)] j41 13 38 := H
        replace H := k_aload C H at_385 rfl rfl (pc' := 387) rfl
        replace H := k_acmp C H at_387 rfl rfl (same := true) (decide_eq_true rfl) (by decide) (pc' := 390) (by decide)
        replace H := k_iconst C H (v := 1) at_390 rfl (pc' := 391) rfl
        replace H := k_goto C H at_391 (by decide) (pc' := 395) rfl
        exact k_retZ C H at_395 (by decide) (by decide) (by decide) rfl
    · rw [hk] at H
      replace H := k_istore C H at_193 (L' := #[.val (.int x0), .val (.int x1), .val (.ref p0), .val (.ref p1), .val (.ref p2), .val (.ref q), .val (.int e), .val ve, .val (.int (3 : Int32)), .unset, .unset, .unset]) (by rcases hs8 with rfl | ⟨_, rfl⟩ <;> rfl) (pc' := 195) rfl
      replace H := k_iloadN C H at_195 rfl (pc' := 196) rfl
      replace H := k_bipush C H (v := 16) at_196 rfl (pc' := 198) rfl
      replace H := k_iand C H at_198 (pc' := 199) rfl
      by_cases hc199 : (x1 &&& (16 : Int32)) = (0 : Int32)
      · replace H := k_ifcY C H at_199 (teq hc199).1 (by decide) (pc' := 206) rfl
        replace H := k_iconst C H (v := 0) at_206 rfl (pc' := 207) rfl
        replace H := k_istore C H at_207 (L' := #[.val (.int x0), .val (.int x1), .val (.ref p0), .val (.ref p1), .val (.ref p2), .val (.ref q), .val (.int e), .val ve, .val (.int (3 : Int32)), .val (.int (0 : Int32)), .unset, .unset]) rfl (pc' := 209) rfl
        replace H := k_iload C H at_209 rfl (pc' := 211) rfl
        replace H := k_ifcY C H at_211 (teq (by decide : (0 : Int32) = (0 : Int32))).1 (by decide) (pc' := 275) rfl
        replace H := k_iload C H at_275 rfl (pc' := 277) rfl
        replace H := k_iconst C H (v := 3) at_277 rfl (pc' := 278) rfl
        replace H := k_icmpN C H at_278 (flt (by decide : ¬ ((3 : Int32) < (3 : Int32)))).1 (pc' := 281) rfl
        replace H := k_aload C H at_281 rfl rfl (pc' := 283) rfl
        replace H := k_aload C H at_283 rfl hv (pc' := 285) rfl
        replace H := k_callVir C H (rmrsv l Z a0 hw p2 ve hv g0 n0 D dD kD fD mr AD XD M 0 ve U_p2 (own_r0 LE) nv_p2) (U_p2).2.1 (hw _ (List.mem_of_getElem? (i := 42) rfl)) (hw _ (List.mem_of_getElem? (i := 43) rfl)) (hw _ (List.mem_of_getElem? (i := 45) rfl)) (hw _ (List.mem_of_getElem? (i := 44) rfl)) (hw _ (List.mem_of_getElem? (i := 2) rfl)) (hw _ (List.mem_of_getElem? (i := 46) rfl)) (by decide) at_285 rfl [ve] [] pdfin_1 rfl rfl rfl 0 rfl (by decide) (by decide) (by decide) (by decide) (pc' := 288) rfl
        obtain ⟨_, j42, ⟨rfl, D_p2, SV⟩, H⟩ := H
        replace H : K 288 #[.val (.int x0), .val (.int x1), .val (.ref p0), .val (.ref p1), .val (.ref p2), .val (.ref q), .val (.int e), .val ve, .val (.int (3 : Int32)), .val (.int (0 : Int32)), .unset, .unset] [] j42 12 34 := H
        replace U_p0 := SV.2.2.2.1 _ ne_p0_p2 U_p0
        replace U_p1 := SV.2.2.2.1 _ ne_p1_p2 U_p1
        replace U_q := SV.2.2.2.1 _ (Ne.symm ne_p2_q) U_q
        replace LE := own_leafS SV nv_p2 LE
        replace AD := own_arfS SV dD AD
        replace XD := SV.2.2.1 _ _ XD
        clear SV U_p2
        replace H := k_iload C H at_288 rfl (pc' := 290) rfl
        replace H := k_iconst C H (v := 2) at_290 rfl (pc' := 291) rfl
        replace H := k_icmpN C H at_291 (flt (by decide : ¬ ((3 : Int32) < (2 : Int32)))).1 (pc' := 294) rfl
        replace H := k_aloadN C H at_294 rfl rfl (pc' := 295) rfl
        replace H := k_iload C H at_295 rfl (pc' := 297) rfl
        replace H := k_iconst C H (v := 2) at_297 rfl (pc' := 298) rfl
        replace H := k_icmpY C H at_298 (feq (by decide : ¬ ((3 : Int32) = (2 : Int32)))).2 (by decide) (pc' := 306) rfl
        replace H := k_aload C H at_306 rfl rfl (pc' := 308) rfl
        replace H := k_callVir C H (rmrsv l Z a0 hw p1 (.ref p2) rfl j42 n0 D dD kD fD mr AD XD M 1 ve U_p1 (own_rS D_p2 hv (own_r0 LE)) nv_p1) (U_p1).2.1 (hw _ (List.mem_of_getElem? (i := 42) rfl)) (hw _ (List.mem_of_getElem? (i := 43) rfl)) (hw _ (List.mem_of_getElem? (i := 45) rfl)) (hw _ (List.mem_of_getElem? (i := 44) rfl)) (hw _ (List.mem_of_getElem? (i := 2) rfl)) (hw _ (List.mem_of_getElem? (i := 46) rfl)) (by decide) at_308 rfl [(.ref p2)] [] pdfin_1 rfl rfl rfl 0 rfl (by decide) (by decide) (by decide) (by decide) (pc' := 311) rfl
        obtain ⟨_, j43, ⟨rfl, D_p1, SV⟩, H⟩ := H
        replace H : K 311 #[.val (.int x0), .val (.int x1), .val (.ref p0), .val (.ref p1), .val (.ref p2), .val (.ref q), .val (.int e), .val ve, .val (.int (3 : Int32)), .val (.int (0 : Int32)), .unset, .unset] [] j43 13 38 := H
        replace U_p0 := SV.2.2.2.1 _ ne_p0_p1 U_p0
        replace D_p2 := SV.2.2.2.2 _ _ (Ne.symm ne_p1_p2) D_p2
        replace U_q := SV.2.2.2.1 _ (Ne.symm ne_p1_q) U_q
        replace LE := own_leafS SV nv_p1 LE
        replace AD := own_arfS SV dD AD
        replace XD := SV.2.2.1 _ _ XD
        clear SV U_p1
        replace H := k_iload C H at_311 rfl (pc' := 313) rfl
        replace H := k_iconst C H (v := 1) at_313 rfl (pc' := 314) rfl
        replace H := k_icmpN C H at_314 (flt (by decide : ¬ ((3 : Int32) < (1 : Int32)))).1 (pc' := 317) rfl
        replace H := k_aloadN C H at_317 rfl rfl (pc' := 318) rfl
        replace H := k_iload C H at_318 rfl (pc' := 320) rfl
        replace H := k_iconst C H (v := 1) at_320 rfl (pc' := 321) rfl
        replace H := k_icmpY C H at_321 (feq (by decide : ¬ ((3 : Int32) = (1 : Int32)))).2 (by decide) (pc' := 329) rfl
        replace H := k_aloadN C H at_329 rfl rfl (pc' := 330) rfl
        replace H := k_callVir C H (rmrsv l Z a0 hw p0 (.ref p1) rfl j43 n0 D dD kD fD mr AD XD M 2 ve U_p0 (own_rS D_p1 rfl (own_rS D_p2 hv (own_r0 LE))) nv_p0) (U_p0).2.1 (hw _ (List.mem_of_getElem? (i := 42) rfl)) (hw _ (List.mem_of_getElem? (i := 43) rfl)) (hw _ (List.mem_of_getElem? (i := 45) rfl)) (hw _ (List.mem_of_getElem? (i := 44) rfl)) (hw _ (List.mem_of_getElem? (i := 2) rfl)) (hw _ (List.mem_of_getElem? (i := 46) rfl)) (by decide) at_330 rfl [(.ref p1)] [] pdfin_1 rfl rfl rfl 0 rfl (by decide) (by decide) (by decide) (by decide) (pc' := 333) rfl
        obtain ⟨_, j44, ⟨rfl, D_p0, SV⟩, H⟩ := H
        replace H : K 333 #[.val (.int x0), .val (.int x1), .val (.ref p0), .val (.ref p1), .val (.ref p2), .val (.ref q), .val (.int e), .val ve, .val (.int (3 : Int32)), .val (.int (0 : Int32)), .unset, .unset] [] j44 14 42 := H
        replace D_p1 := SV.2.2.2.2 _ _ (Ne.symm ne_p0_p1) D_p1
        replace D_p2 := SV.2.2.2.2 _ _ (Ne.symm ne_p0_p2) D_p2
        replace U_q := SV.2.2.2.1 _ (Ne.symm ne_p0_q) U_q
        replace LE := own_leafS SV nv_p0 LE
        replace AD := own_arfS SV dD AD
        replace XD := SV.2.2.1 _ _ XD
        clear SV U_p0
        replace H := k_iload C H at_333 rfl (pc' := 335) rfl
        replace H := k_ifcY C H at_335 (feq (by decide : ¬ ((3 : Int32) = (0 : Int32)))).2 (by decide) (pc' := 343) rfl
        replace H := k_aloadN C H at_343 rfl rfl (pc' := 344) rfl
        replace H := k_astore C H at_344 (L' := #[.val (.int x0), .val (.int x1), .val (.ref p0), .val (.ref p1), .val (.ref p2), .val (.ref q), .val (.int e), .val ve, .val (.int (3 : Int32)), .val (.int (0 : Int32)), .val (.ref p0), .unset]) rfl rfl (pc' := 346) rfl
        replace H := k_iload C H at_346 rfl (pc' := 348) rfl
        replace H := k_iconst C H (v := 2) at_348 rfl (pc' := 349) rfl
        replace H := k_icmpN C H at_349 (flt (by decide : ¬ ((3 : Int32) < (2 : Int32)))).1 (pc' := 352) rfl
        replace H := k_aloadN C H at_352 rfl rfl (pc' := 353) rfl
        replace H := k_goto C H at_353 (by decide) (pc' := 358) rfl
        replace H := k_astore C H at_358 (L' := #[.val (.int x0), .val (.int x1), .val (.ref p0), .val (.ref p1), .val (.ref p2), .val (.ref q), .val (.int e), .val ve, .val (.int (3 : Int32)), .val (.int (0 : Int32)), .val (.ref p0), .val (.ref p1)]) rfl rfl (pc' := 360) rfl
        replace H := k_aload C H at_360 rfl rfl (pc' := 362) rfl
        replace H := k_callSta C H (rmres l Z a0 hw (.ref p0) rfl j44 n0 D 3 ve (own_rS D_p0 rfl (own_rS D_p1 rfl (own_rS D_p2 hv (own_r0 LE))))) (hw _ (List.mem_of_getElem? (i := 97) rfl)) (hw _ (List.mem_of_getElem? (i := 48) rfl)) (hw _ (List.mem_of_getElem? (i := 2) rfl)) (hw _ (List.mem_of_getElem? (i := 49) rfl)) (by decide) at_362 rfl [(.ref p0)] [] pdfin_0 rfl rfl rfl 0 rfl (by decide) (by decide) (by decide) (by decide) (pc' := 365) rfl
        obtain ⟨_, _, ⟨rfl, rfl⟩, H⟩ := H
        replace H : K 365 #[.val (.int x0), .val (.int x1), .val (.ref p0), .val (.ref p1), .val (.ref p2), .val (.ref q), .val (.int e), .val ve, .val (.int (3 : Int32)), .val (.int (0 : Int32)), .val (.ref p0), .val (.ref p1)] [ve] j44 14 42 := H
        replace H := k_aload C H at_365 rfl hv (pc' := 367) rfl
        replace H := k_acmp C H at_367 hv hv (same := true) (decide_eq_true rfl) (by decide) (pc' := 370) (by decide)
        replace H := k_aload C H at_370 rfl rfl (pc' := 372) rfl
        replace H := k_callSta C H (rmres l Z a0 hw (.ref p1) rfl j44 n0 D 2 ve (own_rS D_p1 rfl (own_rS D_p2 hv (own_r0 LE)))) (hw _ (List.mem_of_getElem? (i := 97) rfl)) (hw _ (List.mem_of_getElem? (i := 48) rfl)) (hw _ (List.mem_of_getElem? (i := 2) rfl)) (hw _ (List.mem_of_getElem? (i := 49) rfl)) (by decide) at_372 rfl [(.ref p1)] [] pdfin_0 rfl rfl rfl 0 rfl (by decide) (by decide) (by decide) (by decide) (pc' := 375) rfl
        obtain ⟨_, _, ⟨rfl, rfl⟩, H⟩ := H
        replace H : K 375 #[.val (.int x0), .val (.int x1), .val (.ref p0), .val (.ref p1), .val (.ref p2), .val (.ref q), .val (.int e), .val ve, .val (.int (3 : Int32)), .val (.int (0 : Int32)), .val (.ref p0), .val (.ref p1)] [ve] j44 14 42 := H
        replace H := k_aload C H at_375 rfl hv (pc' := 377) rfl
        replace H := k_acmp C H at_377 hv hv (same := true) (decide_eq_true rfl) (by decide) (pc' := 380) (by decide)
        replace H := k_aload C H at_380 rfl rfl (pc' := 382) rfl
        replace H := k_callSta C H (rmres l Z a0 hw (.ref q) rfl j44 n0 D 0 (.ref q) (own_r0 (Or.inr (Or.inr ⟨_, rfl, U_q⟩)))) (hw _ (List.mem_of_getElem? (i := 97) rfl)) (hw _ (List.mem_of_getElem? (i := 48) rfl)) (hw _ (List.mem_of_getElem? (i := 2) rfl)) (hw _ (List.mem_of_getElem? (i := 49) rfl)) (by decide) at_382 rfl [(.ref q)] [] pdfin_0 rfl rfl rfl 0 rfl (by decide) (by decide) (by decide) (by decide) (pc' := 385) rfl
        obtain ⟨_, _, ⟨rfl, rfl⟩, H⟩ := H
        replace H : K 385 #[.val (.int x0), .val (.int x1), .val (.ref p0), .val (.ref p1), .val (.ref p2), .val (.ref q), .val (.int e), .val ve, .val (.int (3 : Int32)), .val (.int (0 : Int32)), .val (.ref p0), .val (.ref p1)] [(.ref q)] j44 14 42 := H
        replace H := k_aload C H at_385 rfl rfl (pc' := 387) rfl
        replace H := k_acmp C H at_387 rfl rfl (same := true) (decide_eq_true rfl) (by decide) (pc' := 390) (by decide)
        replace H := k_iconst C H (v := 1) at_390 rfl (pc' := 391) rfl
        replace H := k_goto C H at_391 (by decide) (pc' := 395) rfl
        exact k_retZ C H at_395 (by decide) (by decide) (by decide) rfl
      · replace H := k_ifcN C H at_199 (feq hc199).1 (pc' := 202) rfl
        replace H := k_iconst C H (v := 1) at_202 rfl (pc' := 203) rfl
        replace H := k_goto C H at_203 (by decide) (pc' := 207) rfl
        replace H := k_istore C H at_207 (L' := #[.val (.int x0), .val (.int x1), .val (.ref p0), .val (.ref p1), .val (.ref p2), .val (.ref q), .val (.int e), .val ve, .val (.int (3 : Int32)), .val (.int (1 : Int32)), .unset, .unset]) rfl (pc' := 209) rfl
        replace H := k_iload C H at_209 rfl (pc' := 211) rfl
        replace H := k_ifcN C H at_211 (feq (by decide : ¬ ((1 : Int32) = (0 : Int32)))).1 (pc' := 214) rfl
        replace H := k_iload C H at_214 rfl (pc' := 216) rfl
        replace H := k_iconst C H (v := 1) at_216 rfl (pc' := 217) rfl
        replace H := k_icmpN C H at_217 (flt (by decide : ¬ ((3 : Int32) < (1 : Int32)))).1 (pc' := 220) rfl
        replace H := k_aloadN C H at_220 rfl rfl (pc' := 221) rfl
        replace H := k_iload C H at_221 rfl (pc' := 223) rfl
        replace H := k_iconst C H (v := 1) at_223 rfl (pc' := 224) rfl
        replace H := k_icmpY C H at_224 (feq (by decide : ¬ ((3 : Int32) = (1 : Int32)))).2 (by decide) (pc' := 232) rfl
        replace H := k_aloadN C H at_232 rfl rfl (pc' := 233) rfl
        replace H := k_callVir C H (rmrsv l Z a0 hw p0 (.ref p1) rfl g0 n0 D dD kD fD mr AD XD M 0 (.ref p1) U_p0 (own_r0 (Or.inr (Or.inr ⟨_, rfl, U_p1⟩))) (fun z => (Ne.symm ne_p0_p1) (Value.ref.inj z))) (U_p0).2.1 (hw _ (List.mem_of_getElem? (i := 42) rfl)) (hw _ (List.mem_of_getElem? (i := 43) rfl)) (hw _ (List.mem_of_getElem? (i := 45) rfl)) (hw _ (List.mem_of_getElem? (i := 44) rfl)) (hw _ (List.mem_of_getElem? (i := 2) rfl)) (hw _ (List.mem_of_getElem? (i := 46) rfl)) (by decide) at_233 rfl [(.ref p1)] [] pdfin_1 rfl rfl rfl 0 rfl (by decide) (by decide) (by decide) (by decide) (pc' := 236) rfl
        obtain ⟨_, j45, ⟨rfl, D_p0, SV⟩, H⟩ := H
        replace H : K 236 #[.val (.int x0), .val (.int x1), .val (.ref p0), .val (.ref p1), .val (.ref p2), .val (.ref q), .val (.int e), .val ve, .val (.int (3 : Int32)), .val (.int (1 : Int32)), .unset, .unset] [] j45 12 34 := H
        replace U_p1 := SV.2.2.2.1 _ (Ne.symm ne_p0_p1) U_p1
        replace U_p2 := SV.2.2.2.1 _ (Ne.symm ne_p0_p2) U_p2
        replace U_q := SV.2.2.2.1 _ (Ne.symm ne_p0_q) U_q
        replace LE := own_leafS SV nv_p0 LE
        replace AD := own_arfS SV dD AD
        replace XD := SV.2.2.1 _ _ XD
        clear SV U_p0
        replace H := k_iload C H at_236 rfl (pc' := 238) rfl
        replace H := k_iconst C H (v := 2) at_238 rfl (pc' := 239) rfl
        replace H := k_icmpN C H at_239 (flt (by decide : ¬ ((3 : Int32) < (2 : Int32)))).1 (pc' := 242) rfl
        replace H := k_aloadN C H at_242 rfl rfl (pc' := 243) rfl
        replace H := k_iload C H at_243 rfl (pc' := 245) rfl
        replace H := k_iconst C H (v := 2) at_245 rfl (pc' := 246) rfl
        replace H := k_icmpY C H at_246 (feq (by decide : ¬ ((3 : Int32) = (2 : Int32)))).2 (by decide) (pc' := 254) rfl
        replace H := k_aload C H at_254 rfl rfl (pc' := 256) rfl
        replace H := k_callVir C H (rmrsv l Z a0 hw p1 (.ref p2) rfl j45 n0 D dD kD fD mr AD XD M 0 (.ref p2) U_p1 (own_r0 (Or.inr (Or.inr ⟨_, rfl, U_p2⟩))) (fun z => (Ne.symm ne_p1_p2) (Value.ref.inj z))) (U_p1).2.1 (hw _ (List.mem_of_getElem? (i := 42) rfl)) (hw _ (List.mem_of_getElem? (i := 43) rfl)) (hw _ (List.mem_of_getElem? (i := 45) rfl)) (hw _ (List.mem_of_getElem? (i := 44) rfl)) (hw _ (List.mem_of_getElem? (i := 2) rfl)) (hw _ (List.mem_of_getElem? (i := 46) rfl)) (by decide) at_256 rfl [(.ref p2)] [] pdfin_1 rfl rfl rfl 0 rfl (by decide) (by decide) (by decide) (by decide) (pc' := 259) rfl
        obtain ⟨_, j46, ⟨rfl, D_p1, SV⟩, H⟩ := H
        replace H : K 259 #[.val (.int x0), .val (.int x1), .val (.ref p0), .val (.ref p1), .val (.ref p2), .val (.ref q), .val (.int e), .val ve, .val (.int (3 : Int32)), .val (.int (1 : Int32)), .unset, .unset] [] j46 13 38 := H
        replace D_p0 := SV.2.2.2.2 _ _ ne_p0_p1 D_p0
        replace U_p2 := SV.2.2.2.1 _ (Ne.symm ne_p1_p2) U_p2
        replace U_q := SV.2.2.2.1 _ (Ne.symm ne_p1_q) U_q
        replace LE := own_leafS SV nv_p1 LE
        replace AD := own_arfS SV dD AD
        replace XD := SV.2.2.1 _ _ XD
        clear SV U_p1
        replace H := k_iload C H at_259 rfl (pc' := 261) rfl
        replace H := k_iconst C H (v := 3) at_261 rfl (pc' := 262) rfl
        replace H := k_icmpN C H at_262 (flt (by decide : ¬ ((3 : Int32) < (3 : Int32)))).1 (pc' := 265) rfl
        replace H := k_aload C H at_265 rfl rfl (pc' := 267) rfl
        replace H := k_aload C H at_267 rfl hv (pc' := 269) rfl
        replace H := k_callVir C H (rmrsv l Z a0 hw p2 ve hv j46 n0 D dD kD fD mr AD XD M 0 ve U_p2 (own_r0 LE) nv_p2) (U_p2).2.1 (hw _ (List.mem_of_getElem? (i := 42) rfl)) (hw _ (List.mem_of_getElem? (i := 43) rfl)) (hw _ (List.mem_of_getElem? (i := 45) rfl)) (hw _ (List.mem_of_getElem? (i := 44) rfl)) (hw _ (List.mem_of_getElem? (i := 2) rfl)) (hw _ (List.mem_of_getElem? (i := 46) rfl)) (by decide) at_269 rfl [ve] [] pdfin_1 rfl rfl rfl 0 rfl (by decide) (by decide) (by decide) (by decide) (pc' := 272) rfl
        obtain ⟨_, j47, ⟨rfl, D_p2, SV⟩, H⟩ := H
        replace H : K 272 #[.val (.int x0), .val (.int x1), .val (.ref p0), .val (.ref p1), .val (.ref p2), .val (.ref q), .val (.int e), .val ve, .val (.int (3 : Int32)), .val (.int (1 : Int32)), .unset, .unset] [] j47 14 42 := H
        replace D_p0 := SV.2.2.2.2 _ _ ne_p0_p2 D_p0
        replace D_p1 := SV.2.2.2.2 _ _ ne_p1_p2 D_p1
        replace U_q := SV.2.2.2.1 _ (Ne.symm ne_p2_q) U_q
        replace LE := own_leafS SV nv_p2 LE
        replace AD := own_arfS SV dD AD
        replace XD := SV.2.2.1 _ _ XD
        clear SV U_p2
        replace H := k_goto C H at_272 (by decide) (pc' := 333) rfl
        replace H := k_iload C H at_333 rfl (pc' := 335) rfl
        replace H := k_ifcY C H at_335 (feq (by decide : ¬ ((3 : Int32) = (0 : Int32)))).2 (by decide) (pc' := 343) rfl
        replace H := k_aloadN C H at_343 rfl rfl (pc' := 344) rfl
        replace H := k_astore C H at_344 (L' := #[.val (.int x0), .val (.int x1), .val (.ref p0), .val (.ref p1), .val (.ref p2), .val (.ref q), .val (.int e), .val ve, .val (.int (3 : Int32)), .val (.int (1 : Int32)), .val (.ref p0), .unset]) rfl rfl (pc' := 346) rfl
        replace H := k_iload C H at_346 rfl (pc' := 348) rfl
        replace H := k_iconst C H (v := 2) at_348 rfl (pc' := 349) rfl
        replace H := k_icmpN C H at_349 (flt (by decide : ¬ ((3 : Int32) < (2 : Int32)))).1 (pc' := 352) rfl
        replace H := k_aloadN C H at_352 rfl rfl (pc' := 353) rfl
        replace H := k_goto C H at_353 (by decide) (pc' := 358) rfl
        replace H := k_astore C H at_358 (L' := #[.val (.int x0), .val (.int x1), .val (.ref p0), .val (.ref p1), .val (.ref p2), .val (.ref q), .val (.int e), .val ve, .val (.int (3 : Int32)), .val (.int (1 : Int32)), .val (.ref p0), .val (.ref p1)]) rfl rfl (pc' := 360) rfl
        replace H := k_aload C H at_360 rfl rfl (pc' := 362) rfl
        replace H := k_callSta C H (rmres l Z a0 hw (.ref p0) rfl j47 n0 D 3 ve (own_rS D_p0 rfl (own_rS D_p1 rfl (own_rS D_p2 hv (own_r0 LE))))) (hw _ (List.mem_of_getElem? (i := 97) rfl)) (hw _ (List.mem_of_getElem? (i := 48) rfl)) (hw _ (List.mem_of_getElem? (i := 2) rfl)) (hw _ (List.mem_of_getElem? (i := 49) rfl)) (by decide) at_362 rfl [(.ref p0)] [] pdfin_0 rfl rfl rfl 0 rfl (by decide) (by decide) (by decide) (by decide) (pc' := 365) rfl
        obtain ⟨_, _, ⟨rfl, rfl⟩, H⟩ := H
        replace H : K 365 #[.val (.int x0), .val (.int x1), .val (.ref p0), .val (.ref p1), .val (.ref p2), .val (.ref q), .val (.int e), .val ve, .val (.int (3 : Int32)), .val (.int (1 : Int32)), .val (.ref p0), .val (.ref p1)] [ve] j47 14 42 := H
        replace H := k_aload C H at_365 rfl hv (pc' := 367) rfl
        replace H := k_acmp C H at_367 hv hv (same := true) (decide_eq_true rfl) (by decide) (pc' := 370) (by decide)
        replace H := k_aload C H at_370 rfl rfl (pc' := 372) rfl
        replace H := k_callSta C H (rmres l Z a0 hw (.ref p1) rfl j47 n0 D 2 ve (own_rS D_p1 rfl (own_rS D_p2 hv (own_r0 LE)))) (hw _ (List.mem_of_getElem? (i := 97) rfl)) (hw _ (List.mem_of_getElem? (i := 48) rfl)) (hw _ (List.mem_of_getElem? (i := 2) rfl)) (hw _ (List.mem_of_getElem? (i := 49) rfl)) (by decide) at_372 rfl [(.ref p1)] [] pdfin_0 rfl rfl rfl 0 rfl (by decide) (by decide) (by decide) (by decide) (pc' := 375) rfl
        obtain ⟨_, _, ⟨rfl, rfl⟩, H⟩ := H
        replace H : K 375 #[.val (.int x0), .val (.int x1), .val (.ref p0), .val (.ref p1), .val (.ref p2), .val (.ref q), .val (.int e), .val ve, .val (.int (3 : Int32)), .val (.int (1 : Int32)), .val (.ref p0), .val (.ref p1)] [ve] j47 14 42 := H
        replace H := k_aload C H at_375 rfl hv (pc' := 377) rfl
        replace H := k_acmp C H at_377 hv hv (same := true) (decide_eq_true rfl) (by decide) (pc' := 380) (by decide)
        replace H := k_aload C H at_380 rfl rfl (pc' := 382) rfl
        replace H := k_callSta C H (rmres l Z a0 hw (.ref q) rfl j47 n0 D 0 (.ref q) (own_r0 (Or.inr (Or.inr ⟨_, rfl, U_q⟩)))) (hw _ (List.mem_of_getElem? (i := 97) rfl)) (hw _ (List.mem_of_getElem? (i := 48) rfl)) (hw _ (List.mem_of_getElem? (i := 2) rfl)) (hw _ (List.mem_of_getElem? (i := 49) rfl)) (by decide) at_382 rfl [(.ref q)] [] pdfin_0 rfl rfl rfl 0 rfl (by decide) (by decide) (by decide) (by decide) (pc' := 385) rfl
        obtain ⟨_, _, ⟨rfl, rfl⟩, H⟩ := H
        replace H : K 385 #[.val (.int x0), .val (.int x1), .val (.ref p0), .val (.ref p1), .val (.ref p2), .val (.ref q), .val (.int e), .val ve, .val (.int (3 : Int32)), .val (.int (1 : Int32)), .val (.ref p0), .val (.ref p1)] [(.ref q)] j47 14 42 := H
        replace H := k_aload C H at_385 rfl rfl (pc' := 387) rfl
        replace H := k_acmp C H at_387 rfl rfl (same := true) (decide_eq_true rfl) (by decide) (pc' := 390) (by decide)
        replace H := k_iconst C H (v := 1) at_390 rfl (pc' := 391) rfl
        replace H := k_goto C H at_391 (by decide) (pc' := 395) rfl
        exact k_retZ C H at_395 (by decide) (by decide) (by decide) rfl
  · replace H := k_ifcN C H at_109 (feq hc109).1 (pc' := 112) rfl
    replace H := k_iloadN C H at_112 rfl (pc' := 113) rfl
    replace H := k_bipush C H (v := 32) at_113 rfl (pc' := 115) rfl
    replace H := k_iand C H at_115 (pc' := 116) rfl
    by_cases hc116 : (x1 &&& (32 : Int32)) = (0 : Int32)
    · replace H := k_ifcY C H at_116 (teq hc116).1 (by decide) (pc' := 148) rfl
      replace H := k_aloadN C H at_148 rfl rfl (pc' := 149) rfl
      replace H := k_aloadN C H at_149 rfl rfl (pc' := 150) rfl
      replace H := k_callVir C H (rmrsv l Z a0 hw p0 (.ref p1) rfl g0 n0 D dD kD fD mr AD XD M 0 (.ref p1) U_p0 (own_r0 (Or.inr (Or.inr ⟨_, rfl, U_p1⟩))) (fun z => (Ne.symm ne_p0_p1) (Value.ref.inj z))) (U_p0).2.1 (hw _ (List.mem_of_getElem? (i := 42) rfl)) (hw _ (List.mem_of_getElem? (i := 43) rfl)) (hw _ (List.mem_of_getElem? (i := 45) rfl)) (hw _ (List.mem_of_getElem? (i := 44) rfl)) (hw _ (List.mem_of_getElem? (i := 2) rfl)) (hw _ (List.mem_of_getElem? (i := 46) rfl)) (by decide) at_150 rfl [(.ref p1)] [] pdfin_1 rfl rfl rfl 0 rfl (by decide) (by decide) (by decide) (by decide) (pc' := 153) rfl
      obtain ⟨_, j48, ⟨rfl, D_p0, SV⟩, H⟩ := H
      replace H : K 153 #[.val (.int x0), .val (.int x1), .val (.ref p0), .val (.ref p1), .val (.ref p2), .val (.ref q), .val (.int e), .val ve, s8, .unset, .unset, .unset] [] j48 12 34 := H
      replace U_p1 := SV.2.2.2.1 _ (Ne.symm ne_p0_p1) U_p1
      replace U_p2 := SV.2.2.2.1 _ (Ne.symm ne_p0_p2) U_p2
      replace U_q := SV.2.2.2.1 _ (Ne.symm ne_p0_q) U_q
      replace LE := own_leafS SV nv_p0 LE
      replace AD := own_arfS SV dD AD
      replace XD := SV.2.2.1 _ _ XD
      clear SV U_p0
      replace H := k_aloadN C H at_153 rfl rfl (pc' := 154) rfl
      replace H := k_aloadN C H at_154 rfl rfl (pc' := 155) rfl
      replace H := k_callVir C H (rmrss l Z a0 hw p1 (.ref p0) rfl j48 n0 D 1 (own_rS D_p0 rfl (own_r0 (Or.inr (Or.inr ⟨_, rfl, U_p1⟩))))) (U_p1).2.1 (hw _ (List.mem_of_getElem? (i := 42) rfl)) (hw _ (List.mem_of_getElem? (i := 43) rfl)) (hw _ (List.mem_of_getElem? (i := 45) rfl)) (hw _ (List.mem_of_getElem? (i := 44) rfl)) (hw _ (List.mem_of_getElem? (i := 2) rfl)) (hw _ (List.mem_of_getElem? (i := 46) rfl)) (by decide) at_155 rfl [(.ref p0)] [] pdfin_1 rfl rfl rfl 0 rfl (by decide) (by decide) (by decide) (by decide) (pc' := 158) rfl
      obtain ⟨_, _, ⟨rfl, rfl⟩, H⟩ := H
      replace H : K 158 #[.val (.int x0), .val (.int x1), .val (.ref p0), .val (.ref p1), .val (.ref p2), .val (.ref q), .val (.int e), .val ve, s8, .unset, .unset, .unset] [] j48 12 34 := H
      replace H := k_aloadN C H at_158 rfl rfl (pc' := 159) rfl
      replace H := k_callSta C H (rmres l Z a0 hw (.ref p0) rfl j48 n0 D 1 (.ref p1) (own_rS D_p0 rfl (own_r0 (Or.inr (Or.inr ⟨_, rfl, U_p1⟩))))) (hw _ (List.mem_of_getElem? (i := 97) rfl)) (hw _ (List.mem_of_getElem? (i := 48) rfl)) (hw _ (List.mem_of_getElem? (i := 2) rfl)) (hw _ (List.mem_of_getElem? (i := 49) rfl)) (by decide) at_159 rfl [(.ref p0)] [] pdfin_0 rfl rfl rfl 0 rfl (by decide) (by decide) (by decide) (by decide) (pc' := 162) rfl
      obtain ⟨_, _, ⟨rfl, rfl⟩, H⟩ := H
      replace H : K 162 #[.val (.int x0), .val (.int x1), .val (.ref p0), .val (.ref p1), .val (.ref p2), .val (.ref q), .val (.int e), .val ve, s8, .unset, .unset, .unset] [(.ref p1)] j48 12 34 := H
      replace H := k_aloadN C H at_162 rfl rfl (pc' := 163) rfl
      replace H := k_acmp C H at_163 rfl rfl (same := true) (decide_eq_true rfl) (by decide) (pc' := 166) (by decide)
      replace H := k_aloadN C H at_166 rfl rfl (pc' := 167) rfl
      replace H := k_callSta C H (rmres l Z a0 hw (.ref p1) rfl j48 n0 D 0 (.ref p1) (own_r0 (Or.inr (Or.inr ⟨_, rfl, U_p1⟩)))) (hw _ (List.mem_of_getElem? (i := 97) rfl)) (hw _ (List.mem_of_getElem? (i := 48) rfl)) (hw _ (List.mem_of_getElem? (i := 2) rfl)) (hw _ (List.mem_of_getElem? (i := 49) rfl)) (by decide) at_167 rfl [(.ref p1)] [] pdfin_0 rfl rfl rfl 0 rfl (by decide) (by decide) (by decide) (by decide) (pc' := 170) rfl
      obtain ⟨_, _, ⟨rfl, rfl⟩, H⟩ := H
      replace H : K 170 #[.val (.int x0), .val (.int x1), .val (.ref p0), .val (.ref p1), .val (.ref p2), .val (.ref q), .val (.int e), .val ve, s8, .unset, .unset, .unset] [(.ref p1)] j48 12 34 := H
      replace H := k_aloadN C H at_170 rfl rfl (pc' := 171) rfl
      replace H := k_acmp C H at_171 rfl rfl (same := true) (decide_eq_true rfl) (by decide) (pc' := 174) (by decide)
      replace H := k_aload C H at_174 rfl hv (pc' := 176) rfl
      replace H := k_callSta C H (rmres l Z a0 hw ve hv j48 n0 D 0 ve (own_r0 LE)) (hw _ (List.mem_of_getElem? (i := 97) rfl)) (hw _ (List.mem_of_getElem? (i := 48) rfl)) (hw _ (List.mem_of_getElem? (i := 2) rfl)) (hw _ (List.mem_of_getElem? (i := 49) rfl)) (by decide) at_176 rfl [ve] [] pdfin_0 rfl rfl rfl 0 rfl (by decide) (by decide) (by decide) (by decide) (pc' := 179) rfl
      obtain ⟨_, _, ⟨rfl, rfl⟩, H⟩ := H
      replace H : K 179 #[.val (.int x0), .val (.int x1), .val (.ref p0), .val (.ref p1), .val (.ref p2), .val (.ref q), .val (.int e), .val ve, s8, .unset, .unset, .unset] [ve] j48 12 34 := H
      replace H := k_aload C H at_179 rfl hv (pc' := 181) rfl
      replace H := k_acmp C H at_181 hv hv (same := true) (decide_eq_true rfl) (by decide) (pc' := 184) (by decide)
      replace H := k_iconst C H (v := 1) at_184 rfl (pc' := 185) rfl
      replace H := k_goto C H at_185 (by decide) (pc' := 189) rfl
      exact k_retZ C H at_189 (by decide) (by decide) (by decide) rfl
    · replace H := k_ifcN C H at_116 (feq hc116).1 (pc' := 119) rfl
      replace H := k_aloadN C H at_119 rfl rfl (pc' := 120) rfl
      replace H := k_aloadN C H at_120 rfl rfl (pc' := 121) rfl
      replace H := k_callVir C H (rmrss l Z a0 hw p0 (.ref p0) rfl g0 n0 D 0 (own_r0 (Or.inr (Or.inr ⟨_, rfl, U_p0⟩)))) (U_p0).2.1 (hw _ (List.mem_of_getElem? (i := 42) rfl)) (hw _ (List.mem_of_getElem? (i := 43) rfl)) (hw _ (List.mem_of_getElem? (i := 45) rfl)) (hw _ (List.mem_of_getElem? (i := 44) rfl)) (hw _ (List.mem_of_getElem? (i := 2) rfl)) (hw _ (List.mem_of_getElem? (i := 46) rfl)) (by decide) at_121 rfl [(.ref p0)] [] pdfin_1 rfl rfl rfl 0 rfl (by decide) (by decide) (by decide) (by decide) (pc' := 124) rfl
      obtain ⟨_, _, ⟨rfl, rfl⟩, H⟩ := H
      replace H : K 124 #[.val (.int x0), .val (.int x1), .val (.ref p0), .val (.ref p1), .val (.ref p2), .val (.ref q), .val (.int e), .val ve, s8, .unset, .unset, .unset] [] g0 11 30 := H
      replace H := k_aloadN C H at_124 rfl rfl (pc' := 125) rfl
      replace H := k_callSta C H (rmres l Z a0 hw (.ref p0) rfl g0 n0 D 0 (.ref p0) (own_r0 (Or.inr (Or.inr ⟨_, rfl, U_p0⟩)))) (hw _ (List.mem_of_getElem? (i := 97) rfl)) (hw _ (List.mem_of_getElem? (i := 48) rfl)) (hw _ (List.mem_of_getElem? (i := 2) rfl)) (hw _ (List.mem_of_getElem? (i := 49) rfl)) (by decide) at_125 rfl [(.ref p0)] [] pdfin_0 rfl rfl rfl 0 rfl (by decide) (by decide) (by decide) (by decide) (pc' := 128) rfl
      obtain ⟨_, _, ⟨rfl, rfl⟩, H⟩ := H
      replace H : K 128 #[.val (.int x0), .val (.int x1), .val (.ref p0), .val (.ref p1), .val (.ref p2), .val (.ref q), .val (.int e), .val ve, s8, .unset, .unset, .unset] [(.ref p0)] g0 11 30 := H
      replace H := k_aloadN C H at_128 rfl rfl (pc' := 129) rfl
      replace H := k_acmp C H at_129 rfl rfl (same := true) (decide_eq_true rfl) (by decide) (pc' := 132) (by decide)
      replace H := k_aload C H at_132 rfl hv (pc' := 134) rfl
      replace H := k_callSta C H (rmres l Z a0 hw ve hv g0 n0 D 0 ve (own_r0 LE)) (hw _ (List.mem_of_getElem? (i := 97) rfl)) (hw _ (List.mem_of_getElem? (i := 48) rfl)) (hw _ (List.mem_of_getElem? (i := 2) rfl)) (hw _ (List.mem_of_getElem? (i := 49) rfl)) (by decide) at_134 rfl [ve] [] pdfin_0 rfl rfl rfl 0 rfl (by decide) (by decide) (by decide) (by decide) (pc' := 137) rfl
      obtain ⟨_, _, ⟨rfl, rfl⟩, H⟩ := H
      replace H : K 137 #[.val (.int x0), .val (.int x1), .val (.ref p0), .val (.ref p1), .val (.ref p2), .val (.ref q), .val (.int e), .val ve, s8, .unset, .unset, .unset] [ve] g0 11 30 := H
      replace H := k_aload C H at_137 rfl hv (pc' := 139) rfl
      replace H := k_acmp C H at_139 hv hv (same := true) (decide_eq_true rfl) (by decide) (pc' := 142) (by decide)
      replace H := k_iconst C H (v := 1) at_142 rfl (pc' := 143) rfl
      replace H := k_goto C H at_143 (by decide) (pc' := 147) rfl
      exact k_retZ C H at_147 (by decide) (by decide) (by decide) rfl
theorem noNP_str {a0 : Array Value} {Z : State} (hw : ∀ d ∈ tables_1, d.before a0 Z = true) : own_NP Z "java/lang/String" := ⟨by decide, noSub (hw _ (List.mem_of_getElem? (i := 141) rfl)) (hw _ (List.mem_of_getElem? (i := 53) rfl)) (hw _ (List.mem_of_getElem? (i := 1) rfl)) (by decide) (by decide)⟩
theorem noNP_int {a0 : Array Value} {Z : State} (hw : ∀ d ∈ tables_1, d.before a0 Z = true) : own_NP Z "java/lang/Integer" := by
  refine ⟨by decide, ?_⟩
  obtain ⟨t, kt, g1, g2, g3, g4, -⟩ := Cond.instantiable_spec (hw _ (List.mem_of_getElem? (i := 1) rfl))
  obtain ⟨co, ko, o1, o2, o3, -, -⟩ := Cond.noSuperclass_spec (hw _ (List.mem_of_getElem? (i := 53) rfl))
  have nsO : NS Z "java/lang/Object" "com/example/sealer/sealer/Promise" := ⟨co, t, o1, g1, fun fuel => by
    have ne := ids_ne o1 g1 (by decide)
    cases fuel with
    | zero => rfl
    | succ f => simp [Vm.isSubclassAux, ne, o2, o3]⟩
  obtain ⟨c, t', h0, g0, n3⟩ := NS.step (hw _ (List.mem_of_getElem? (i := 51) rfl)) (NS.step (hw _ (List.mem_of_getElem? (i := 52) rfl)) nsO (by decide)) (by decide)
  cases g1.symm.trans g0
  obtain ⟨p, k, kp, q1, q2, q3, q4, q5, -, q7⟩ := Cond.superclass_spec h0 (hw _ (List.mem_of_getElem? (i := 51) rfl))
  have ne := ids_ne h0 g0 (by decide)
  have gi : kt.isInterface = false := by
    cases hi : kt.isInterface with
    | false => rfl
    | true => simp [hi] at g4
  refine ⟨c, t, h0, g1, ?_⟩
  show Z.vm.assignableAux (255 + 1) c t = false
  simp [Vm.assignableAux, ne, q2, g2, q5, g3, gi, Vm.isSubclass, n3]
theorem pd0_0 : parseMethodDescriptor "()V" = some ⟨[], none⟩ := by decide +kernel
theorem pd0_1 : parseMethodDescriptor "(I)Ljava/lang/Integer;" = some ⟨[.int], some (.object "java/lang/Integer")⟩ := by decide +kernel
theorem pd0_2 : parseMethodDescriptor "([C)V" = some ⟨[(.array .char)], none⟩ := by decide +kernel
theorem pl_0 : plainFor x = true := plainFor_of_name (by first | (simp [plainName, overriddenIn]; done) | decide +kernel)
theorem ef_0 (mm : MethodId) (x0 : Int32) (x1 : Int32) : entryFrame mm #[(.int x0), (.int x1)] maxLocals = mkF mm 0 #[.val (.int x0), .val (.int x1), .unset, .unset, .unset, .unset, .unset, .unset, .unset, .unset, .unset, .unset] [] := by first | (simp [entryFrame, mkF, argsToLocals, Value.category, maxLocals]; done) | rfl
set_option maxRecDepth 65536 in
set_option maxHeartbeats 40000000 in
theorem rm0 (l : Launch) (Z : State) (a0 : Array Value) (hw : ∀ d ∈ tables_1, d.before a0 Z = true) (x0 : Int32) (x1 : Int32) (h0 : Heap) (n0 : Nat) (Z0 : n0 ≤ h0.size) (D : Addr) (dD : D < n0) (kD : ClassId) (fD : Nat → Value) (mr : Addr) (AD : Arf Z h0 D kD (.object "java/lang/Object") 0 fD) (XD : Exa Z h0 D "[Ljava/lang/Object;") (M : Mir Z "[Ljava/lang/Object;" mr) (S_D : Sta Z h0 "java/util/ArrayList" "DEFAULTCAPACITY_EMPTY_ELEMENTDATA" "[Ljava/lang/Object;" (.ref D)) (aC : Addr) (kC : ClassId) (fC : Nat → Value) (S_H : Sta Z h0 "java/lang/Integer$IntegerCache" "high" "I" (.int (127 : Int32))) (S_C : Sta Z h0 "java/lang/Integer$IntegerCache" "cache" "[Ljava/lang/Integer;" (.ref aC)) (AC : Arf Z h0 aC kC (.object "java/lang/Integer") 256 fC) (BC : ∀ i, i < 256 → ∃ b : Addr, fC i = .ref b ∧ Exa Z h0 b "java/lang/Integer") (kz : Int32) (S_K : Sta Z h0 "java/lang/String" "COMPACT_STRINGS" "Z" (.int kz)) (hkz : ¬ kz = (0 : Int32)) :
    Con l x code maxLocals ret room_1 Z #[(.int x0), (.int x1)] h0 n0 (fun o h => o = some (.int (1 : Int32))) := by
  refine Con.enter pl_0 (fun mm => ef_0 mm x0 x1) ?_
  intro K O C H
  have EB := own_extR h0
  replace H := k_newObj C H (hw _ (List.mem_of_getElem? (i := 0) rfl)) (hw _ (List.mem_of_getElem? (i := 1) rfl)) (hw _ (List.mem_of_getElem? (i := 2) rfl)) at_0 (by decide) (by decide) (pc' := 3) rfl
  obtain ⟨h_p0, p0, g_p0, E_p0, X_p0, D_p0, H⟩ := H
  replace H : K 3 #[.val (.int x0), .val (.int x1), .unset, .unset, .unset, .unset, .unset, .unset, .unset, .unset, .unset, .unset] [(.ref p0)] h_p0 1 3 := H
  have s_p0 : h0.size ≤ p0 := Nat.le_trans EB.1 (Nat.le_of_eq g_p0.symm)
  have n_p0 : n0 ≤ p0 := Nat.le_trans Z0 s_p0
  replace EB := own_extT EB E_p0
  have F_p0_value : Fld Z h_p0 p0 "com/example/sealer/sealer/Promise" "value" "Ljava/lang/Object;" .null := D_p0 (Or.inl (hw _ (List.mem_of_getElem? (i := 55) rfl))) (ty := (.object "java/lang/Object")) (by decide)
  have F_p0_resolved : Fld Z h_p0 p0 "com/example/sealer/sealer/Promise" "resolved" "Z" (.int (0 : Int32)) := D_p0 (Or.inl (hw _ (List.mem_of_getElem? (i := 57) rfl))) (ty := .boolean) (by decide)
  have F_p0_steps : Fld Z h_p0 p0 "com/example/sealer/sealer/Promise" "steps" "Ljava/util/List;" .null := D_p0 (Or.inl (hw _ (List.mem_of_getElem? (i := 34) rfl))) (ty := (.object "java/util/List")) (by decide)
  replace H := k_dup C H at_3 rfl (pc' := 4) rfl
  replace H := k_callCon C H (rmpri l Z a0 hw p0 h_p0 n0 D (Nat.le_trans Z0 EB.1) (S_D.ext EB) X_p0 F_p0_value F_p0_resolved F_p0_steps n_p0) rfl (hw _ (List.mem_of_getElem? (i := 3) rfl)) (hw _ (List.mem_of_getElem? (i := 4) rfl)) (hw _ (List.mem_of_getElem? (i := 2) rfl)) (hw _ (List.mem_of_getElem? (i := 5) rfl)) (by decide) at_4 rfl p0 [] [(.ref p0)] pd0_0 rfl rfl rfl 1 rfl (by decide) (by decide) (by decide) (by decide) (pc' := 7) rfl
  obtain ⟨_, k_p0, ⟨rfl, K_p0, U_p0⟩, H⟩ := H
  replace H : K 7 #[.val (.int x0), .val (.int x1), .unset, .unset, .unset, .unset, .unset, .unset, .unset, .unset, .unset, .unset] [(.ref p0)] k_p0 2 6 := H
  replace EB := own_extk EB K_p0 (allS s_p0 all0)
  replace H := k_astoreN C H at_7 (L' := #[.val (.int x0), .val (.int x1), .val (.ref p0), .unset, .unset, .unset, .unset, .unset, .unset, .unset, .unset, .unset]) rfl rfl (pc' := 8) rfl
  replace H := k_newObj C H (hw _ (List.mem_of_getElem? (i := 0) rfl)) (hw _ (List.mem_of_getElem? (i := 1) rfl)) (hw _ (List.mem_of_getElem? (i := 2) rfl)) at_8 (by decide) (by decide) (pc' := 11) rfl
  obtain ⟨h_p1, p1, g_p1, E_p1, X_p1, D_p1, H⟩ := H
  replace H : K 11 #[.val (.int x0), .val (.int x1), .val (.ref p0), .unset, .unset, .unset, .unset, .unset, .unset, .unset, .unset, .unset] [(.ref p1)] h_p1 3 9 := H
  have s_p1 : h0.size ≤ p1 := Nat.le_trans EB.1 (Nat.le_of_eq g_p1.symm)
  have n_p1 : n0 ≤ p1 := Nat.le_trans Z0 s_p1
  have ne_p0_p1 : p0 ≠ p1 := Nat.ne_of_lt (Nat.lt_of_lt_of_le (own_unL U_p0) (Nat.le_of_eq g_p1.symm))
  replace U_p0 := own_unE U_p0 E_p1
  replace EB := own_extT EB E_p1
  have F_p1_value : Fld Z h_p1 p1 "com/example/sealer/sealer/Promise" "value" "Ljava/lang/Object;" .null := D_p1 (Or.inl (hw _ (List.mem_of_getElem? (i := 55) rfl))) (ty := (.object "java/lang/Object")) (by decide)
  have F_p1_resolved : Fld Z h_p1 p1 "com/example/sealer/sealer/Promise" "resolved" "Z" (.int (0 : Int32)) := D_p1 (Or.inl (hw _ (List.mem_of_getElem? (i := 57) rfl))) (ty := .boolean) (by decide)
  have F_p1_steps : Fld Z h_p1 p1 "com/example/sealer/sealer/Promise" "steps" "Ljava/util/List;" .null := D_p1 (Or.inl (hw _ (List.mem_of_getElem? (i := 34) rfl))) (ty := (.object "java/util/List")) (by decide)
  replace H := k_dup C H at_11 rfl (pc' := 12) rfl
  replace H := k_callCon C H (rmpri l Z a0 hw p1 h_p1 n0 D (Nat.le_trans Z0 EB.1) (S_D.ext EB) X_p1 F_p1_value F_p1_resolved F_p1_steps n_p1) rfl (hw _ (List.mem_of_getElem? (i := 3) rfl)) (hw _ (List.mem_of_getElem? (i := 4) rfl)) (hw _ (List.mem_of_getElem? (i := 2) rfl)) (hw _ (List.mem_of_getElem? (i := 5) rfl)) (by decide) at_12 rfl p1 [] [(.ref p1)] pd0_0 rfl rfl rfl 1 rfl (by decide) (by decide) (by decide) (by decide) (pc' := 15) rfl
  obtain ⟨_, k_p1, ⟨rfl, K_p1, U_p1⟩, H⟩ := H
  replace H : K 15 #[.val (.int x0), .val (.int x1), .val (.ref p0), .unset, .unset, .unset, .unset, .unset, .unset, .unset, .unset, .unset] [(.ref p1)] k_p1 4 12 := H
  replace U_p0 := (own_sv1 K_p1 X_p1 n_p1).2.2.2.1 _ ne_p0_p1 U_p0
  replace EB := own_extk EB K_p1 (allS s_p1 all0)
  replace H := k_astoreN C H at_15 (L' := #[.val (.int x0), .val (.int x1), .val (.ref p0), .val (.ref p1), .unset, .unset, .unset, .unset, .unset, .unset, .unset, .unset]) rfl rfl (pc' := 16) rfl
  replace H := k_newObj C H (hw _ (List.mem_of_getElem? (i := 0) rfl)) (hw _ (List.mem_of_getElem? (i := 1) rfl)) (hw _ (List.mem_of_getElem? (i := 2) rfl)) at_16 (by decide) (by decide) (pc' := 19) rfl
  obtain ⟨h_p2, p2, g_p2, E_p2, X_p2, D_p2, H⟩ := H
  replace H : K 19 #[.val (.int x0), .val (.int x1), .val (.ref p0), .val (.ref p1), .unset, .unset, .unset, .unset, .unset, .unset, .unset, .unset] [(.ref p2)] h_p2 5 15 := H
  have s_p2 : h0.size ≤ p2 := Nat.le_trans EB.1 (Nat.le_of_eq g_p2.symm)
  have n_p2 : n0 ≤ p2 := Nat.le_trans Z0 s_p2
  have ne_p0_p2 : p0 ≠ p2 := Nat.ne_of_lt (Nat.lt_of_lt_of_le (own_unL U_p0) (Nat.le_of_eq g_p2.symm))
  replace U_p0 := own_unE U_p0 E_p2
  have ne_p1_p2 : p1 ≠ p2 := Nat.ne_of_lt (Nat.lt_of_lt_of_le (own_unL U_p1) (Nat.le_of_eq g_p2.symm))
  replace U_p1 := own_unE U_p1 E_p2
  replace EB := own_extT EB E_p2
  have F_p2_value : Fld Z h_p2 p2 "com/example/sealer/sealer/Promise" "value" "Ljava/lang/Object;" .null := D_p2 (Or.inl (hw _ (List.mem_of_getElem? (i := 55) rfl))) (ty := (.object "java/lang/Object")) (by decide)
  have F_p2_resolved : Fld Z h_p2 p2 "com/example/sealer/sealer/Promise" "resolved" "Z" (.int (0 : Int32)) := D_p2 (Or.inl (hw _ (List.mem_of_getElem? (i := 57) rfl))) (ty := .boolean) (by decide)
  have F_p2_steps : Fld Z h_p2 p2 "com/example/sealer/sealer/Promise" "steps" "Ljava/util/List;" .null := D_p2 (Or.inl (hw _ (List.mem_of_getElem? (i := 34) rfl))) (ty := (.object "java/util/List")) (by decide)
  replace H := k_dup C H at_19 rfl (pc' := 20) rfl
  replace H := k_callCon C H (rmpri l Z a0 hw p2 h_p2 n0 D (Nat.le_trans Z0 EB.1) (S_D.ext EB) X_p2 F_p2_value F_p2_resolved F_p2_steps n_p2) rfl (hw _ (List.mem_of_getElem? (i := 3) rfl)) (hw _ (List.mem_of_getElem? (i := 4) rfl)) (hw _ (List.mem_of_getElem? (i := 2) rfl)) (hw _ (List.mem_of_getElem? (i := 5) rfl)) (by decide) at_20 rfl p2 [] [(.ref p2)] pd0_0 rfl rfl rfl 1 rfl (by decide) (by decide) (by decide) (by decide) (pc' := 23) rfl
  obtain ⟨_, k_p2, ⟨rfl, K_p2, U_p2⟩, H⟩ := H
  replace H : K 23 #[.val (.int x0), .val (.int x1), .val (.ref p0), .val (.ref p1), .unset, .unset, .unset, .unset, .unset, .unset, .unset, .unset] [(.ref p2)] k_p2 6 18 := H
  replace U_p0 := (own_sv1 K_p2 X_p2 n_p2).2.2.2.1 _ ne_p0_p2 U_p0
  replace U_p1 := (own_sv1 K_p2 X_p2 n_p2).2.2.2.1 _ ne_p1_p2 U_p1
  replace EB := own_extk EB K_p2 (allS s_p2 all0)
  replace H := k_astore C H at_23 (L' := #[.val (.int x0), .val (.int x1), .val (.ref p0), .val (.ref p1), .val (.ref p2), .unset, .unset, .unset, .unset, .unset, .unset, .unset]) rfl rfl (pc' := 25) rfl
  replace H := k_newObj C H (hw _ (List.mem_of_getElem? (i := 0) rfl)) (hw _ (List.mem_of_getElem? (i := 1) rfl)) (hw _ (List.mem_of_getElem? (i := 2) rfl)) at_25 (by decide) (by decide) (pc' := 28) rfl
  obtain ⟨h_q, q, g_q, E_q, X_q, D_q, H⟩ := H
  replace H : K 28 #[.val (.int x0), .val (.int x1), .val (.ref p0), .val (.ref p1), .val (.ref p2), .unset, .unset, .unset, .unset, .unset, .unset, .unset] [(.ref q)] h_q 7 21 := H
  have s_q : h0.size ≤ q := Nat.le_trans EB.1 (Nat.le_of_eq g_q.symm)
  have n_q : n0 ≤ q := Nat.le_trans Z0 s_q
  have ne_p0_q : p0 ≠ q := Nat.ne_of_lt (Nat.lt_of_lt_of_le (own_unL U_p0) (Nat.le_of_eq g_q.symm))
  replace U_p0 := own_unE U_p0 E_q
  have ne_p1_q : p1 ≠ q := Nat.ne_of_lt (Nat.lt_of_lt_of_le (own_unL U_p1) (Nat.le_of_eq g_q.symm))
  replace U_p1 := own_unE U_p1 E_q
  have ne_p2_q : p2 ≠ q := Nat.ne_of_lt (Nat.lt_of_lt_of_le (own_unL U_p2) (Nat.le_of_eq g_q.symm))
  replace U_p2 := own_unE U_p2 E_q
  replace EB := own_extT EB E_q
  have F_q_value : Fld Z h_q q "com/example/sealer/sealer/Promise" "value" "Ljava/lang/Object;" .null := D_q (Or.inl (hw _ (List.mem_of_getElem? (i := 55) rfl))) (ty := (.object "java/lang/Object")) (by decide)
  have F_q_resolved : Fld Z h_q q "com/example/sealer/sealer/Promise" "resolved" "Z" (.int (0 : Int32)) := D_q (Or.inl (hw _ (List.mem_of_getElem? (i := 57) rfl))) (ty := .boolean) (by decide)
  have F_q_steps : Fld Z h_q q "com/example/sealer/sealer/Promise" "steps" "Ljava/util/List;" .null := D_q (Or.inl (hw _ (List.mem_of_getElem? (i := 34) rfl))) (ty := (.object "java/util/List")) (by decide)
  replace H := k_dup C H at_28 rfl (pc' := 29) rfl
  replace H := k_callCon C H (rmpri l Z a0 hw q h_q n0 D (Nat.le_trans Z0 EB.1) (S_D.ext EB) X_q F_q_value F_q_resolved F_q_steps n_q) rfl (hw _ (List.mem_of_getElem? (i := 3) rfl)) (hw _ (List.mem_of_getElem? (i := 4) rfl)) (hw _ (List.mem_of_getElem? (i := 2) rfl)) (hw _ (List.mem_of_getElem? (i := 5) rfl)) (by decide) at_29 rfl q [] [(.ref q)] pd0_0 rfl rfl rfl 1 rfl (by decide) (by decide) (by decide) (by decide) (pc' := 32) rfl
  obtain ⟨_, k_q, ⟨rfl, K_q, U_q⟩, H⟩ := H
  replace H : K 32 #[.val (.int x0), .val (.int x1), .val (.ref p0), .val (.ref p1), .val (.ref p2), .unset, .unset, .unset, .unset, .unset, .unset, .unset] [(.ref q)] k_q 8 24 := H
  replace U_p0 := (own_sv1 K_q X_q n_q).2.2.2.1 _ ne_p0_q U_p0
  replace U_p1 := (own_sv1 K_q X_q n_q).2.2.2.1 _ ne_p1_q U_p1
  replace U_p2 := (own_sv1 K_q X_q n_q).2.2.2.1 _ ne_p2_q U_p2
  replace EB := own_extk EB K_q (allS s_q all0)
  replace H := k_astore C H at_32 (L' := #[.val (.int x0), .val (.int x1), .val (.ref p0), .val (.ref p1), .val (.ref p2), .val (.ref q), .unset, .unset, .unset, .unset, .unset, .unset]) rfl rfl (pc' := 34) rfl
  replace H := k_iloadN C H at_34 rfl (pc' := 35) rfl
  replace H := k_iconst C H (v := 2) at_35 rfl (pc' := 36) rfl
  replace H := k_iushr C H at_36 (pc' := 37) rfl
  replace H := k_iconst C H (v := 3) at_37 rfl (pc' := 38) rfl
  replace H := k_iand C H at_38 (pc' := 39) rfl
  obtain ⟨e, e_e, H⟩ : ∃ e : Int32, e = ((x1.toUInt32 >>> ((2 : Int32) &&& 31).toUInt32).toInt32 &&& (3 : Int32)) ∧ K 39 #[.val (.int x0), .val (.int x1), .val (.ref p0), .val (.ref p1), .val (.ref p2), .val (.ref q), .unset, .unset, .unset, .unset, .unset, .unset] [(.int e)] k_q 8 24 := ⟨_, rfl, H⟩
  replace H := k_istore C H at_39 (L' := #[.val (.int x0), .val (.int x1), .val (.ref p0), .val (.ref p1), .val (.ref p2), .val (.ref q), .val (.int e), .unset, .unset, .unset, .unset, .unset]) rfl (pc' := 41) rfl
  replace H := k_iload C H at_41 rfl (pc' := 43) rfl
  by_cases hc43 : e = (0 : Int32)
  · replace H := k_ifcN C H at_43 (teq hc43).2 (pc' := 46) rfl
    replace H := k_iloadN C H at_46 rfl (pc' := 47) rfl
    replace H := k_callSta C H (rmval l Z a0 hw x0 k_q n0 aC kC fC (Nat.le_trans Z0 EB.1) (S_H.ext EB) (S_C.ext EB) (AC.ext EB) (fun i hi => (BC i hi).imp fun b z => ⟨z.1, z.2.ext EB⟩)) (hw _ (List.mem_of_getElem? (i := 35) rfl)) (hw _ (List.mem_of_getElem? (i := 36) rfl)) (hw _ (List.mem_of_getElem? (i := 37) rfl)) (hw _ (List.mem_of_getElem? (i := 38) rfl)) (by decide) at_47 rfl [(.int x0)] [] pd0_1 rfl rfl rfl 0 rfl (by decide) (by decide) (by decide) (by decide) (pc' := 50) rfl
    obtain ⟨_, gv, ⟨bx, rfl, K_v, X_bx⟩, H⟩ := H
    replace H : K 50 #[.val (.int x0), .val (.int x1), .val (.ref p0), .val (.ref p1), .val (.ref p2), .val (.ref q), .val (.int e), .unset, .unset, .unset, .unset, .unset] [(.ref bx)] gv 9 25 := H
    have EE := own_k0 K_v
    replace H := k_astore C H at_50 (L' := #[.val (.int x0), .val (.int x1), .val (.ref p0), .val (.ref p1), .val (.ref p2), .val (.ref q), .val (.int e), .val (.ref bx), .unset, .unset, .unset, .unset]) rfl rfl (pc' := 52) rfl
    replace H := k_goto C H at_52 (by decide) (pc' := 105) rfl
    replace H := k_more C H (cl' := 11) (sl' := 30) (by decide) (by decide)
    exact rmfin l Z a0 hw gv n0 D dD kD fD mr (AD.ext (own_extT EB EE)) (XD.ext (own_extT EB EE)) M x0 x1 e p0 p1 p2 q ne_p0_p1 ne_p0_p2 ne_p0_q ne_p1_p2 ne_p1_q ne_p2_q (.ref bx) rfl .unset (Or.inl rfl) (own_unE U_p0 EE) (own_unE U_p1 EE) (own_unE U_p2 EE) (own_unE U_q EE) (Or.inr (Or.inl ⟨bx, _, rfl, X_bx, noNP_int hw⟩)) (fun z => (X_bx.ne (U_p0.2.1.ext EE) (by decide)) (Value.ref.inj z)) (fun z => (X_bx.ne (U_p1.2.1.ext EE) (by decide)) (Value.ref.inj z)) (fun z => (X_bx.ne (U_p2.2.1.ext EE) (by decide)) (Value.ref.inj z)) C H
  · replace H := k_ifcY C H at_43 (feq hc43).2 (by decide) (pc' := 55) rfl
    replace H := k_iload C H at_55 rfl (pc' := 57) rfl
    replace H := k_iconst C H (v := 1) at_57 rfl (pc' := 58) rfl
    by_cases hc58 : e = (1 : Int32)
    · replace H := k_icmpN C H at_58 (teq hc58).2 (pc' := 61) rfl
      replace H := k_anull C H at_61 (pc' := 62) rfl
      replace H := k_astore C H at_62 (L' := #[.val (.int x0), .val (.int x1), .val (.ref p0), .val (.ref p1), .val (.ref p2), .val (.ref q), .val (.int e), .val .null, .unset, .unset, .unset, .unset]) rfl rfl (pc' := 64) rfl
      replace H := k_goto C H at_64 (by decide) (pc' := 105) rfl
      replace H := k_more C H (cl' := 11) (sl' := 30) (by decide) (by decide)
      exact rmfin l Z a0 hw k_q n0 D dD kD fD mr (AD.ext (own_extT EB (own_extR k_q))) (XD.ext (own_extT EB (own_extR k_q))) M x0 x1 e p0 p1 p2 q ne_p0_p1 ne_p0_p2 ne_p0_q ne_p1_p2 ne_p1_q ne_p2_q .null rfl .unset (Or.inl rfl) (own_unE U_p0 (own_extR k_q)) (own_unE U_p1 (own_extR k_q)) (own_unE U_p2 (own_extR k_q)) (own_unE U_q (own_extR k_q)) (Or.inl rfl) (fun z => nomatch z) (fun z => nomatch z) (fun z => nomatch z) C H
    · replace H := k_icmpY C H at_58 (feq hc58).2 (by decide) (pc' := 67) rfl
      replace H := k_iload C H at_67 rfl (pc' := 69) rfl
      replace H := k_iconst C H (v := 2) at_69 rfl (pc' := 70) rfl
      by_cases hc70 : e = (2 : Int32)
      · replace H := k_icmpN C H at_70 (teq hc70).2 (pc' := 73) rfl
        replace H := k_aload C H at_73 rfl rfl (pc' := 75) rfl
        replace H := k_astore C H at_75 (L' := #[.val (.int x0), .val (.int x1), .val (.ref p0), .val (.ref p1), .val (.ref p2), .val (.ref q), .val (.int e), .val (.ref q), .unset, .unset, .unset, .unset]) rfl rfl (pc' := 77) rfl
        replace H := k_goto C H at_77 (by decide) (pc' := 105) rfl
        replace H := k_more C H (cl' := 11) (sl' := 30) (by decide) (by decide)
        exact rmfin l Z a0 hw k_q n0 D dD kD fD mr (AD.ext (own_extT EB (own_extR k_q))) (XD.ext (own_extT EB (own_extR k_q))) M x0 x1 e p0 p1 p2 q ne_p0_p1 ne_p0_p2 ne_p0_q ne_p1_p2 ne_p1_q ne_p2_q (.ref q) rfl .unset (Or.inl rfl) (own_unE U_p0 (own_extR k_q)) (own_unE U_p1 (own_extR k_q)) (own_unE U_p2 (own_extR k_q)) (own_unE U_q (own_extR k_q)) (Or.inr (Or.inr ⟨q, rfl, U_q⟩)) (fun z => ne_p0_q (Value.ref.inj z).symm) (fun z => ne_p1_q (Value.ref.inj z).symm) (fun z => ne_p2_q (Value.ref.inj z).symm) C H
      · replace H := k_icmpY C H at_70 (feq hc70).2 (by decide) (pc' := 80) rfl
        replace H := k_iconst C H (v := 1) at_80 rfl (pc' := 81) rfl
        replace H := k_newArr C H (hw _ (List.mem_of_getElem? (i := 113) rfl)) at_81 (by decide) (cap := 1) (by decide) (by decide) (by decide) (by decide) (pc' := 83) rfl
        obtain ⟨h_c, c, c_c, g_c, E_c, A_c, H⟩ := H
        replace H : K 83 #[.val (.int x0), .val (.int x1), .val (.ref p0), .val (.ref p1), .val (.ref p2), .val (.ref q), .val (.int e), .unset, .unset, .unset, .unset, .unset] [(.ref c)] h_c 9 25 := H
        have V_c : Ari Z h_c c .char 1 (fun _ => 0) := Ari.ofNew A_c (by decide) rfl
        have s_c : k_q.size ≤ c := Nat.le_of_eq g_c.symm
        have n_c : n0 ≤ c := Nat.le_trans (Nat.le_trans Z0 EB.1) s_c
        have EE : Ext k_q h_c := E_c
        replace H := k_dup C H at_83 rfl (pc' := 84) rfl
        replace H := k_iconst C H (v := 0) at_84 rfl (pc' := 85) rfl
        replace H := k_iloadN C H at_85 rfl (pc' := 86) rfl
        replace H := k_sipush C H (v := 255) at_86 rfl (pc' := 89) rfl
        replace H := k_iand C H at_89 (pc' := 90) rfl
        replace H := k_i2c C H at_90 (pc' := 91) rfl
        replace H := k_castore C H V_c (i := 0) (by decide) (by decide) n_c at_91 (pc' := 92) rfl
        obtain ⟨h_d, W_c, V_c, H⟩ := H
        replace EE := own_extk EE (Keep.of_wr W_c) (allS s_c all0)
        replace H := k_astore C H at_92 (L' := #[.val (.int x0), .val (.int x1), .val (.ref p0), .val (.ref p1), .val (.ref p2), .val (.ref q), .val (.int e), .unset, .val (.ref c), .unset, .unset, .unset]) rfl rfl (pc' := 94) rfl
        replace H := k_newObj C H (hw _ (List.mem_of_getElem? (i := 114) rfl)) (hw _ (List.mem_of_getElem? (i := 115) rfl)) (hw _ (List.mem_of_getElem? (i := 116) rfl)) at_94 (by decide) (by decide) (pc' := 97) rfl
        obtain ⟨h_s, s, g_s, E_s, X_s, D_s, H⟩ := H
        replace H : K 97 #[.val (.int x0), .val (.int x1), .val (.ref p0), .val (.ref p1), .val (.ref p2), .val (.ref q), .val (.int e), .unset, .val (.ref c), .unset, .unset, .unset] [(.ref s)] h_s 10 29 := H
        have s_s : k_q.size ≤ s := Nat.le_trans EE.1 (Nat.le_of_eq g_s.symm)
        have n_s : n0 ≤ s := Nat.le_trans (Nat.le_trans Z0 EB.1) s_s
        replace EE := own_extT EE E_s
        replace V_c := V_c.ext E_s
        have F_s_value : Fld Z h_s s "java/lang/String" "value" "[B" .null := D_s (Or.inr (hw _ (List.mem_of_getElem? (i := 140) rfl))) (ty := (.array .byte)) (by decide)
        have F_s_coder : Fld Z h_s s "java/lang/String" "coder" "B" (.int (0 : Int32)) := D_s (Or.inr (hw _ (List.mem_of_getElem? (i := 138) rfl))) (ty := .byte) (by decide)
        replace H := k_dup C H at_97 rfl (pc' := 98) rfl
        replace H := k_aload C H at_98 rfl rfl (pc' := 100) rfl
        replace H := k_callCon C H (rmst1 l Z a0 hw s c h_s n0 _ _ X_s F_s_value F_s_coder n_s kz (S_K.ext (own_extT EB EE)) hkz (Nat.le_trans Z0 (own_extT EB EE).1) _ V_c (own_ch x0)) rfl (hw _ (List.mem_of_getElem? (i := 117) rfl)) (hw _ (List.mem_of_getElem? (i := 118) rfl)) (hw _ (List.mem_of_getElem? (i := 116) rfl)) (hw _ (List.mem_of_getElem? (i := 119) rfl)) (by decide) at_100 rfl s [(.ref c)] [(.ref s)] pd0_2 rfl rfl rfl 1 rfl (by decide) (by decide) (by decide) (by decide) (pc' := 103) rfl
        obtain ⟨_, k_s, ⟨rfl, K_s⟩, H⟩ := H
        replace H : K 103 #[.val (.int x0), .val (.int x1), .val (.ref p0), .val (.ref p1), .val (.ref p2), .val (.ref q), .val (.int e), .unset, .val (.ref c), .unset, .unset, .unset] [(.ref s)] k_s 11 30 := H
        replace EE := own_extk EE K_s (allS s_s all0)
        replace X_s := X_s.keep K_s
        replace H := k_astore C H at_103 (L' := #[.val (.int x0), .val (.int x1), .val (.ref p0), .val (.ref p1), .val (.ref p2), .val (.ref q), .val (.int e), .val (.ref s), .val (.ref c), .unset, .unset, .unset]) rfl rfl (pc' := 105) rfl
        replace H := k_more C H (cl' := 11) (sl' := 30) (by decide) (by decide)
        exact rmfin l Z a0 hw k_s n0 D dD kD fD mr (AD.ext (own_extT EB EE)) (XD.ext (own_extT EB EE)) M x0 x1 e p0 p1 p2 q ne_p0_p1 ne_p0_p2 ne_p0_q ne_p1_p2 ne_p1_q ne_p2_q (.ref s) rfl (.val (.ref c)) (Or.inr ⟨c, rfl⟩) (own_unE U_p0 EE) (own_unE U_p1 EE) (own_unE U_p2 EE) (own_unE U_q EE) (Or.inr (Or.inl ⟨s, _, rfl, X_s, noNP_str hw⟩)) (fun z => (X_s.ne (U_p0.2.1.ext EE) (by decide)) (Value.ref.inj z)) (fun z => (X_s.ne (U_p1.2.1.ext EE) (by decide)) (Value.ref.inj z)) (fun z => (X_s.ne (U_p2.2.1.ext EE) (by decide)) (Value.ref.inj z)) C H
theorem own_jdk {args : Array Value} {s : State} {c : Jvm.Cond} : ∀ (L : List Jvm.Cond), (L.foldr Jvm.Cond.and c).before args s = true → ∀ d ∈ L, d.before args s = true
  | [], _, d, hd => nomatch hd
  | a :: L, h, d, hd => by
    have h' : (Jvm.Cond.and a (L.foldr Jvm.Cond.and c)).before args s = true := h
    rw [Cond.before_and, Bool.and_eq_true] at h'
    rcases List.mem_cons.mp hd with rfl | q
    · exact h'.1
    · exact own_jdk L h'.2 d q
theorem own_len {args : Array Value} {s : State} {t : Term} {a : Addr} {c : Cell} {z : Int32} (ht : t.eval args s none [] s = some (.ref a)) (ha : s.arrayAt? a = some c) (h : (Term.length t).eval args s none [] s = some (.int z)) : c.slots.size < 2 ^ 31 ∧ (c.slots.size : Int) = z.toInt := by
  have q : c.slots.size < 2 ^ 31 := by
    apply Decidable.byContradiction
    intro q
    simp [Term.eval, ht, ha, q] at h
  refine ⟨q, ?_⟩
  rw [len_f ht ha q] at h
  have e : c.slots.size.toInt32 = z := by simpa using h
  rw [← e, len_toInt q]
theorem own_box {Z : State} {args : Array Value} {t : Term} {a : Addr} {c : Cell} {K : String} {G : Jvm.Cond} (et : ∀ idx, t.eval args Z none idx Z = some (.ref a)) (A : Arr Z Z.heap a c (.object K)) (q : c.slots.size < 2 ^ 31)
    (h : (Jvm.Cond.all t (.and (.exactly (.elem t (.index 0)) K) G)).value args Z none Z [] = some true) (i : Nat) (hi : i < c.slots.size) : ∃ b : Addr, c.slots[i]? = some (.ref b) ∧ Exa Z Z.heap b K := by
  have nn : ¬ i.toInt32 < 0 := natNeg (Nat.lt_trans hi q)
  have ec : i.toInt32.toNatClampNeg = i := natClamp (Nat.lt_trans hi q)
  obtain ⟨u1, u2⟩ := and_e (Cond.all_elim (et []) (A.fin (Vm.Alike.refl _)) h i.toInt32.toNatClampNeg (by rw [ec]; exact hi))
  obtain ⟨box, eb⟩ := exa_v u1
  have e := (elem_f (et _) (idx_at nn) (A.fin (Vm.Alike.refl _)) nn).symm.trans eb
  rw [ec] at e
  exact ⟨box, e, exa_at eb u1⟩
set_option maxRecDepth 65536 in
set_option maxHeartbeats 40000000 in
theorem comes_1 {Post : Tables → Env → Array Value → State → Outcome → State → Prop} (hpost : ∀ tb e args s v u, (limb_1_1.after args s (.returned v) u = true ∧ limb_1_2.after args s (.returned v) u = true) → FrameEnd s (.returned v) u (Jvm.fieldLocs frame_1_writes args s ++ Jvm.arrayLocs frame_1_arrays args s ++ Jvm.staticLocs frame_1_statics s) 40 192 → Post tb e args s (.returned v) u) :
    ArmFor flags0 classFile x code maxLocals ret World_1 tables_1 room_1 Calls_1 rest_1 Pre_1 Post := by
  intro l hfl _ _ p e ha hc hk s m args below hf hA hF happ hP
  obtain ⟨hcalls, hrest, hpre⟩ := hP
  obtain ⟨-, -, -, hnamed, -, -, -, hat⟩ := (Spec.applies_iff hf).mp happ
  obtain ⟨hg, hn⟩ := and_e (Cond.before_iff.mp (show (Jvm.Cond.and given_1 narrow_1).before args s = true from hpre))
  obtain ⟨g0, r0⟩ := and_e hg
  obtain ⟨g1, r1⟩ := and_e r0
  obtain ⟨w0, w1, rfl⟩ : ∃ w0 w1 : Value, args = #[w0, w1] := by
    have hs : args.size = 2 := by simpa [Cond.value, given_1] using g0
    obtain ⟨L⟩ := args
    match L, hs with
    | [w0, w1], _ => exact ⟨w0, w1, rfl⟩
  have hw := fun d (hd : d ∈ tables_1) => atoms_spec (ws := Jvm.Cond.code x code maxLocals ret :: tables_1) hat d (List.mem_cons_of_mem _ hd)
  obtain ⟨i0, ei0⟩ := is_v g1
  obtain rfl : w0 = (.int i0) := Option.some.inj ei0
  obtain ⟨i1, ei1⟩ := is_v r1
  obtain rfl : w1 = (.int i1) := Option.some.inj ei1
  obtain ⟨⟨cM, kM, mr, hm⟩, -⟩ := hcalls
  have M : Mir s "[Ljava/lang/Object;" mr := ⟨cM, kM, hm⟩
  have hj := own_jdk jdkStatics_1 (c := restOwn_1) (rest_1_c_eq ▸ (show rest_1_c.before _ s = true from hrest))
  obtain ⟨D, vD⟩ := exa_v (Cond.before_iff.mp (hj _ (List.mem_of_getElem? (i := 7) rfl)))
  have XD := Exa.start vD (Cond.before_iff.mp (hj _ (List.mem_of_getElem? (i := 7) rfl)))
  have S_D := Sta.start vD (Or.inr ⟨(hw _ (List.mem_of_getElem? (i := 11) rfl)), (hj _ (List.mem_of_getElem? (i := 2) rfl))⟩)
  obtain ⟨cD, aD⟩ := Arr.start vD (Cond.before_iff.mp (hj _ (List.mem_of_getElem? (i := 6) rfl)))
  have lD := own_len vD (aD.fin (Vm.Alike.refl _)) (eqv_i (Term.int_eval (0 : Int32)) (Cond.before_iff.mp (hj _ (List.mem_of_getElem? (i := 8) rfl))))
  have AD : Arf s s.heap D cD.cls (.object "java/lang/Object") 0 (fun _ => .null) := ⟨cD, aD, rfl, by have e := lD.2; rw [show (0 : Int32).toInt = 0 from by decide] at e; omega, by decide, fun i hi => absurd hi (Nat.not_lt_zero i)⟩
  have vH := eqv_i (Term.int_eval (127 : Int32)) (Cond.before_iff.mp (hj _ (List.mem_of_getElem? (i := 12) rfl)))
  have S_H := Sta.start vH (Or.inl (hj _ (List.mem_of_getElem? (i := 10) rfl)))
  obtain ⟨aC, vC⟩ := exa_v (Cond.before_iff.mp (hj _ (List.mem_of_getElem? (i := 14) rfl)))
  have S_C := Sta.start vC (Or.inr ⟨(hw _ (List.mem_of_getElem? (i := 40) rfl)), (hj _ (List.mem_of_getElem? (i := 11) rfl))⟩)
  obtain ⟨cC, aCC⟩ := Arr.start vC (Cond.before_iff.mp (hj _ (List.mem_of_getElem? (i := 13) rfl)))
  have lC := own_len vC (aCC.fin (Vm.Alike.refl _)) (eqv_i (Term.int_eval (256 : Int32)) (Cond.before_iff.mp (hj _ (List.mem_of_getElem? (i := 15) rfl))))
  have zC : cC.slots.size = 256 := by have e := lC.2; rw [show (256 : Int32).toInt = 256 from by decide] at e; omega
  have BX := own_box (fun idx => vC) aCC lC.1 (Cond.before_iff.mp (hj _ (List.mem_of_getElem? (i := 16) rfl)))
  have AC : Arf s s.heap aC cC.cls (.object "java/lang/Integer") 256 (fun i => (cC.slots[i]?).getD .null) := ⟨cC, aCC, rfl, zC, by decide, fun i hi => by obtain ⟨b, e1, -⟩ := BX i (zC ▸ hi); simp only [e1, Option.getD_some]⟩
  have BC : ∀ i, i < 256 → ∃ b : Addr, (fun i => (cC.slots[i]?).getD Value.null) i = .ref b ∧ Exa s s.heap b "java/lang/Integer" := fun i hi => by obtain ⟨b, e1, e2⟩ := BX i (zC ▸ hi); exact ⟨b, by simp only [e1, Option.getD_some], e2⟩
  obtain ⟨kz, vK⟩ := is_v (Cond.before_iff.mp (hj _ (List.mem_of_getElem? (i := 18) rfl)))
  have S_K := Sta.start vK (Or.inl (hj _ (List.mem_of_getElem? (i := 17) rfl)))
  have hkz : ¬ kz = (0 : Int32) := fun q => by have z := (Cond.before_iff.mp (hj _ (List.mem_of_getElem? (i := 19) rfl))); rw [q] at vK; simp [Jvm.Cond.value, vK, Term.int_eval] at z
  obtain ⟨n, o, h1, h2, h3, _, L, rfl, ⟨rfl, N⟩, hq⟩ := rm0 l s _ hw i0 i1 s.heap s.heap.size (Nat.le_refl _) D XD.lt cD.cls _ mr AD XD M S_D aC cC.cls _ S_H S_C AC BC kz S_K hkz tables_1 p e ha hc hk s m _ below hf ((Spec.applies_iff_loose hf).mp happ).1 ⟨rfl, State.Warmed39.refl s, rfl⟩ trivial
  refine ⟨n, _, h1, h2, h3, hpost _ _ _ _ _ _ ⟨Cond.after_iff.mpr rfl, Cond.after_iff.mpr (eq_i res_at (Term.int_eval (1)) rfl)⟩ ⟨hq.1, hq.2.1, (hq.2.2.sift fun y hy => Or.inr (N y hy)).mono (by decide) (by decide)⟩⟩
theorem main_1_1 : Claimed_1_1 := comes_1 fun _ _ _ _ _ _ h hF => ⟨h.1, hF⟩
theorem main_1_2 : Claimed_1_2 := comes_1 fun _ _ _ _ _ _ h hF => ⟨h.2, hF⟩
end Jvm.Pilot.@@N@@
namespace Jvm.Pilot.@@N@@
open Jvm Jvm.ClassFile Sem Op Lib Jvm.Free Jvm.Stand Jvm.Pilot.@@N@@.Jvm.D
/-! MADE BY PROGRAM (witnessworld.py) out of the Statement's table words and the real class files: 39 classes; the members and pool entries that the words name. The judged class is class 1, her method 1. -/
namespace start1
open Jvm.ClassFile
def u (s : String) : CpInfo := .utf8 (stringToUtf16 s)
/-- a pool by its gaps: so many unusable entries, then the entry; so many at the end -/
def gap : Nat → List CpInfo → List CpInfo
  | 0, r => r
  | n + 1, r => .unusable :: gap n r
def poolList (es : List (Nat × CpInfo)) (last : Nat) : List CpInfo := es.foldr (fun e r => gap e.1 (e.2 :: r)) (gap last [])
def pool (es : List (Nat × CpInfo)) (last : Nat) : Array CpInfo := ⟨poolList es last⟩
def fileOf (pool : Array CpInfo) (this : Nat) (attrs : Array Attribute := #[]) (ms : Array MethodInfo := #[]) (fl : Nat := 33) (sup : Nat := 0) (ifs : Array Nat := #[]) (fds : Array FieldInfo := #[]) : ClassFile where
  minorVersion := 0
  majorVersion := 65
  constantPool := pool
  accessFlags := fl
  thisClass := this
  superClass := sup
  interfaces := ifs
  fields := fds
  methods := ms
  attributes := attrs
def plain (name : String) (sup : Option ClassId) : Class where
  name := name
  kind := .ordinary
  loader := none
  accessFlags := 33
  super := sup
  interfaces := #[]
  cf := none
  fields := #[]
  methods := #[]
  instanceTypes := #[]
  staticTypes := #[]
  resolved := #[]
  callSites := []
  init := .initialized
  statics := none
  mirror := none

def pool0 : Array CpInfo := pool [(5, u "<init>"), (0, u "()V"), (1, .class_ 10), (1, u "java/lang/Object"), (0, u "getClass"), (0, u "()Ljava/lang/Class;")] 111

def k0c0 : Code := { maxStack := 0, maxLocals := 1, code := object_method_1_code, exceptionTable := #[], attributes := #[] }
def k0m0 : Method := { name := "<init>", desc := "()V", sig := { parameters := [], returnType := none }, accessFlags := 1, code := some k0c0 }
def k0m1 : Method := { name := "getClass", desc := "()Ljava/lang/Class;", sig := { parameters := [], returnType := some (.object "java/lang/Class") }, accessFlags := 273, code := none }
/-- java/lang/Object -/
def k0 : Class := { plain "java/lang/Object" none with
  accessFlags := 33
  interfaces := #[]
  cf := some (fileOf pool0 8 #[] #[{ accessFlags := 1, nameIndex := 5, descriptorIndex := 6, attributes := #[] }, { accessFlags := 273, nameIndex := 11, descriptorIndex := 12, attributes := #[] }] 33 0 #[] #[])
  fields := #[]
  methods := #[k0m0, k0m1]
  instanceTypes := #[]
  staticTypes := #[]
  resolved := Array.replicate 124 none
  statics := none }

def pool1 : Array CpInfo := pool [(2, .class_ 4), (0, .nameAndType 5 6), (0, u "java/lang/Object"), (0, u "<init>"), (0, u "()V"), (0, .class_ 8), (0, u "com/example/sealer/sealer/Promise"), (0, .methodref 7 3), (0, .methodref 11 12), (0, .class_ 13), (0, .nameAndType 14 15), (0, u "java/lang/Integer"), (0, u "valueOf"), (0, u "(I)Ljava/lang/Integer;"), (0, .class_ 17), (0, u "java/lang/String"), (0, .methodref 16 19), (0, .nameAndType 5 20), (0, u "([C)V"), (0, .methodref 7 22), (0, .nameAndType 23 24), (0, u "resolve"), (0, u "(Ljava/lang/Object;)V"), (0, .methodref 7 26), (0, .nameAndType 27 28), (0, u "resolution"), (0, u "(Ljava/lang/Object;)Ljava/lang/Object;"), (0, .class_ 30), (0, u "com/example/sealer/sealer/PromiseResolutionPinLaw"), (2, u "law"), (0, u "(II)Z")] 3

def k1m0 : Method := { name := "<init>", desc := "()V", sig := { parameters := [], returnType := none }, accessFlags := 1, code := none }
def k1c1 : Code := { maxStack := 5, maxLocals := 12, code := code, exceptionTable := #[], attributes := #[] }
def k1m1 : Method := { name := "law", desc := "(II)Z", sig := { parameters := [.int, .int], returnType := some .boolean }, accessFlags := 9, code := some k1c1 }
/-- com/example/sealer/sealer/PromiseResolutionPinLaw -/
def k1 : Class := { plain "com/example/sealer/sealer/PromiseResolutionPinLaw" (some 0) with
  accessFlags := 49
  interfaces := #[]
  cf := some (fileOf pool1 29 #[] #[{ accessFlags := 1, nameIndex := 5, descriptorIndex := 6, attributes := #[] }, { accessFlags := 9, nameIndex := 33, descriptorIndex := 34, attributes := #[] }] 49 2 #[] #[])
  fields := #[]
  methods := #[k1m0, k1m1]
  instanceTypes := #[]
  staticTypes := #[]
  resolved := Array.replicate 38 none
  statics := none }

def pool2 : Array CpInfo := pool [(1, .methodref 2 3), (0, .class_ 4), (0, .nameAndType 5 6), (0, u "java/lang/Object"), (0, u "<init>"), (0, u "()V"), (0, .class_ 8), (0, u "java/util/ArrayList"), (0, .methodref 7 3), (0, .fieldref 11 12), (0, .class_ 13), (0, .nameAndType 14 15), (0, u "com/example/sealer/sealer/Promise"), (0, u "steps"), (0, u "Ljava/util/List;"), (1, .class_ 19), (1, u "java/util/List"), (2, .methodref 11 23), (0, .nameAndType 24 25), (0, u "resolution"), (0, u "(Ljava/lang/Object;)Ljava/lang/Object;"), (0, .fieldref 11 27), (0, .nameAndType 28 29), (0, u "value"), (0, u "Ljava/lang/Object;"), (0, .fieldref 11 31), (0, .nameAndType 32 33), (0, u "resolved"), (0, u "Z"), (0, .interfaceMethodref 17 35), (0, .nameAndType 36 37), (0, u "addAll"), (0, u "(Ljava/util/Collection;)Z"), (0, .interfaceMethodref 17 39), (0, .nameAndType 40 41), (0, u "iterator"), (0, u "()Ljava/util/Iterator;"), (0, .interfaceMethodref 43 44), (0, .class_ 45), (0, .nameAndType 46 47), (0, u "java/util/Iterator"), (0, u "hasNext"), (0, u "()Z"), (17, u "resolve"), (0, u "(Ljava/lang/Object;)V")] 5

def k2c0 : Code := { maxStack := 3, maxLocals := 1, code := prog_29_method_1_code, exceptionTable := #[], attributes := #[] }
def k2m0 : Method := { name := "<init>", desc := "()V", sig := { parameters := [], returnType := none }, accessFlags := 0, code := some k2c0 }
def k2c1 : Code := { maxStack := 2, maxLocals := 6, code := prog_29_method_3_code, exceptionTable := #[], attributes := #[] }
def k2m1 : Method := { name := "resolve", desc := "(Ljava/lang/Object;)V", sig := { parameters := [(.object "java/lang/Object")], returnType := none }, accessFlags := 0, code := some k2c1 }
def k2c2 : Code := { maxStack := 1, maxLocals := 3, code := prog_29_method_4_code, exceptionTable := #[], attributes := #[] }
def k2m2 : Method := { name := "resolution", desc := "(Ljava/lang/Object;)Ljava/lang/Object;", sig := { parameters := [(.object "java/lang/Object")], returnType := some (.object "java/lang/Object") }, accessFlags := 8, code := some k2c2 }
/-- com/example/sealer/sealer/Promise -/
def k2 : Class := { plain "com/example/sealer/sealer/Promise" (some 0) with
  accessFlags := 48
  interfaces := #[]
  cf := some (fileOf pool2 11 #[] #[{ accessFlags := 0, nameIndex := 5, descriptorIndex := 6, attributes := #[] }, { accessFlags := 0, nameIndex := 65, descriptorIndex := 66, attributes := #[] }, { accessFlags := 8, nameIndex := 24, descriptorIndex := 25, attributes := #[] }] 48 2 #[] #[{ accessFlags := 2, nameIndex := 32, descriptorIndex := 33, attributes := #[] }, { accessFlags := 2, nameIndex := 28, descriptorIndex := 29, attributes := #[] }, { accessFlags := 2, nameIndex := 14, descriptorIndex := 15, attributes := #[] }])
  fields := #[{ name := "resolved", type := .boolean, accessFlags := 2, slot := 0, constantValue := 0 }, { name := "value", type := (.object "java/lang/Object"), accessFlags := 2, slot := 1, constantValue := 0 }, { name := "steps", type := (.object "java/util/List"), accessFlags := 2, slot := 2, constantValue := 0 }]
  methods := #[k2m0, k2m1, k2m2]
  instanceTypes := #[.boolean, (.object "java/lang/Object"), (.object "java/util/List")]
  staticTypes := #[]
  resolved := Array.replicate 72 none
  statics := none }

def pool3 : Array CpInfo := pool [(8, .class_ 10), (1, u "java/lang/Iterable"), (24, .class_ 36), (0, u "java/lang/Object")] 25

/-- java/lang/Iterable -/
def k3 : Class := { plain "java/lang/Iterable" (some 0) with
  accessFlags := 1537
  interfaces := #[]
  cf := some (fileOf pool3 8 #[] #[] 1537 35 #[] #[])
  fields := #[]
  methods := #[]
  instanceTypes := #[]
  staticTypes := #[]
  resolved := Array.replicate 62 none
  statics := none }

def pool4 : Array CpInfo := pool [(10, .class_ 12), (1, u "java/util/Collection"), (0, u "toArray"), (46, .class_ 61), (0, u "java/lang/Object"), (0, .class_ 63), (0, u "java/lang/Iterable"), (6, u "()[Ljava/lang/Object;")] 44

def k4m0 : Method := { name := "toArray", desc := "()[Ljava/lang/Object;", sig := { parameters := [], returnType := some (.array (.object "java/lang/Object")) }, accessFlags := 1025, code := none }
/-- java/util/Collection -/
def k4 : Class := { plain "java/util/Collection" (some 0) with
  accessFlags := 1537
  interfaces := #[3]
  cf := some (fileOf pool4 10 #[] #[{ accessFlags := 1025, nameIndex := 13, descriptorIndex := 70, attributes := #[] }] 1537 60 #[62] #[])
  fields := #[]
  methods := #[k4m0]
  instanceTypes := #[]
  staticTypes := #[]
  resolved := Array.replicate 115 none
  statics := none }

def pool5 : Array CpInfo := pool [(1, .methodref 2 3), (0, .class_ 4), (0, .nameAndType 5 6), (0, u "java/lang/Object"), (0, u "<init>"), (0, u "()V"), (1, .class_ 10), (1, u "java/util/AbstractCollection"), (66, .class_ 78), (0, u "java/util/Collection")] 81

def k5c0 : Code := { maxStack := 1, maxLocals := 1, code := jdk_22_method_1_code, exceptionTable := #[], attributes := #[] }
def k5m0 : Method := { name := "<init>", desc := "()V", sig := { parameters := [], returnType := none }, accessFlags := 4, code := some k5c0 }
/-- java/util/AbstractCollection -/
def k5 : Class := { plain "java/util/AbstractCollection" (some 0) with
  accessFlags := 1057
  interfaces := #[4]
  cf := some (fileOf pool5 8 #[] #[{ accessFlags := 4, nameIndex := 5, descriptorIndex := 6, attributes := #[] }] 1057 2 #[77] #[])
  fields := #[]
  methods := #[k5m0]
  instanceTypes := #[]
  staticTypes := #[]
  resolved := Array.replicate 160 none
  statics := none }

def pool6 : Array CpInfo := pool [(8, .class_ 10), (1, u "java/util/SequencedCollection"), (15, .class_ 27), (0, u "java/lang/Object"), (0, .class_ 29), (0, u "java/util/Collection")] 27

/-- java/util/SequencedCollection -/
def k6 : Class := { plain "java/util/SequencedCollection" (some 0) with
  accessFlags := 1537
  interfaces := #[4]
  cf := some (fileOf pool6 8 #[] #[] 1537 26 #[28] #[])
  fields := #[]
  methods := #[]
  instanceTypes := #[]
  staticTypes := #[]
  resolved := Array.replicate 57 none
  statics := none }

def pool7 : Array CpInfo := pool [(8, .class_ 10), (1, u "java/util/List"), (92, .class_ 104), (0, u "java/lang/Object"), (15, .class_ 121), (0, u "java/util/SequencedCollection"), (1, u "iterator"), (0, u "()Ljava/util/Iterator;"), (6, u "(Ljava/util/Collection;)Z"), (1, u "addAll")] 117

def k7m0 : Method := { name := "iterator", desc := "()Ljava/util/Iterator;", sig := { parameters := [], returnType := some (.object "java/util/Iterator") }, accessFlags := 1025, code := none }
def k7m1 : Method := { name := "addAll", desc := "(Ljava/util/Collection;)Z", sig := { parameters := [(.object "java/util/Collection")], returnType := some .boolean }, accessFlags := 1025, code := none }
/-- java/util/List -/
def k7 : Class := { plain "java/util/List" (some 0) with
  accessFlags := 1537
  interfaces := #[6]
  cf := some (fileOf pool7 8 #[] #[{ accessFlags := 1025, nameIndex := 123, descriptorIndex := 124, attributes := #[] }, { accessFlags := 1025, nameIndex := 133, descriptorIndex := 131, attributes := #[] }] 1537 103 #[120] #[])
  fields := #[]
  methods := #[k7m0, k7m1]
  instanceTypes := #[]
  staticTypes := #[]
  resolved := Array.replicate 251 none
  statics := none }

def pool8 : Array CpInfo := pool [(1, .methodref 2 3), (0, .class_ 4), (0, .nameAndType 5 6), (0, u "java/util/AbstractCollection"), (0, u "<init>"), (0, u "()V"), (0, .fieldref 8 9), (0, .class_ 10), (0, .nameAndType 11 12), (0, u "java/util/AbstractList"), (0, u "modCount"), (0, u "I"), (64, .class_ 78), (0, u "java/util/AbstractList$Itr"), (3, .class_ 83), (0, u "java/util/AbstractList$ListItr"), (9, .class_ 94), (0, u "java/util/AbstractList$RandomAccessSubList"), (3, .class_ 99), (0, u "java/util/AbstractList$SubList"), (33, .class_ 134), (0, u "java/util/List"), (73, .class_ 209), (0, u "java/util/AbstractList$SubList$1"), (0, .class_ 211), (0, u "java/util/AbstractList$RandomAccessSpliterator")] 6

def k8c0 : Code := { maxStack := 2, maxLocals := 1, code := jdk_39_method_1_code, exceptionTable := #[], attributes := #[] }
def k8m0 : Method := { name := "<init>", desc := "()V", sig := { parameters := [], returnType := none }, accessFlags := 4, code := some k8c0 }
/-- java/util/AbstractList -/
def k8 : Class := { plain "java/util/AbstractList" (some 5) with
  accessFlags := 1057
  interfaces := #[7]
  cf := some (fileOf pool8 8 #[.nestMembers #[93, 98, 208, 210, 82, 77]] #[{ accessFlags := 4, nameIndex := 5, descriptorIndex := 6, attributes := #[] }] 1057 2 #[133] #[{ accessFlags := 132, nameIndex := 11, descriptorIndex := 12, attributes := #[] }])
  fields := #[{ name := "modCount", type := .int, accessFlags := 132, slot := 0, constantValue := 0 }]
  methods := #[k8m0]
  instanceTypes := #[.int]
  staticTypes := #[]
  resolved := Array.replicate 218 none
  statics := none }

def pool9 : Array CpInfo := pool [(1, .class_ 2), (0, u "java/util/RandomAccess"), (0, .class_ 4), (0, u "java/lang/Object")] 2

/-- java/util/RandomAccess -/
def k9 : Class := { plain "java/util/RandomAccess" (some 0) with
  accessFlags := 1537
  interfaces := #[]
  cf := some (fileOf pool9 1 #[] #[] 1537 3 #[] #[])
  fields := #[]
  methods := #[]
  instanceTypes := #[]
  staticTypes := #[]
  resolved := Array.replicate 7 none
  statics := none }

def pool10 : Array CpInfo := pool [(1, .class_ 2), (0, u "java/lang/Cloneable"), (0, .class_ 4), (0, u "java/lang/Object")] 2

/-- java/lang/Cloneable -/
def k10 : Class := { plain "java/lang/Cloneable" (some 0) with
  accessFlags := 1537
  interfaces := #[]
  cf := some (fileOf pool10 1 #[] #[] 1537 3 #[] #[])
  fields := #[]
  methods := #[]
  instanceTypes := #[]
  staticTypes := #[]
  resolved := Array.replicate 7 none
  statics := none }

def pool11 : Array CpInfo := pool [(1, .class_ 2), (0, u "java/io/Serializable"), (0, .class_ 4), (0, u "java/lang/Object")] 2

/-- java/io/Serializable -/
def k11 : Class := { plain "java/io/Serializable" (some 0) with
  accessFlags := 1537
  interfaces := #[]
  cf := some (fileOf pool11 1 #[] #[] 1537 3 #[] #[])
  fields := #[]
  methods := #[]
  instanceTypes := #[]
  staticTypes := #[]
  resolved := Array.replicate 7 none
  statics := none }

def pool12 : Array CpInfo := pool [(1, .methodref 2 3), (0, .class_ 4), (0, .nameAndType 5 6), (0, u "java/util/AbstractList"), (0, u "<init>"), (0, u "()V"), (2, .fieldref 10 11), (0, .class_ 12), (0, .nameAndType 13 14), (0, u "java/util/ArrayList"), (0, u "elementData"), (0, u "[Ljava/lang/Object;"), (2, u "EMPTY_ELEMENTDATA"), (21, .fieldref 10 40), (0, .nameAndType 41 14), (0, u "DEFAULTCAPACITY_EMPTY_ELEMENTDATA"), (0, .interfaceMethodref 43 44), (0, .class_ 45), (0, .nameAndType 46 47), (0, u "java/util/Collection"), (0, u "toArray"), (0, u "()[Ljava/lang/Object;"), (0, .fieldref 10 49), (0, .nameAndType 50 51), (0, u "size"), (0, u "I"), (6, .class_ 60), (1, u "java/util/Arrays"), (0, u "copyOf"), (1, .fieldref 10 64), (0, .nameAndType 65 51), (0, u "modCount"), (0, .methodref 58 67), (0, .nameAndType 61 68), (0, u "([Ljava/lang/Object;I)[Ljava/lang/Object;"), (79, .class_ 149), (0, u "java/util/List"), (16, u "iterator"), (0, u "()Ljava/util/Iterator;"), (94, .class_ 263), (0, u "java/util/ArrayList$ListItr"), (3, .class_ 268), (0, u "java/util/ArrayList$Itr"), (0, .methodref 267 270), (0, .nameAndType 5 271), (0, u "(Ljava/util/ArrayList;)V"), (4, .class_ 277), (0, u "java/util/ArrayList$SubList"), (12, .class_ 291), (0, u "java/util/ArrayList$ArrayListSpliterator"), (37, .class_ 330), (0, u "java/util/RandomAccess"), (0, .class_ 332), (0, u "java/lang/Cloneable"), (0, .class_ 334), (0, u "java/io/Serializable"), (0, u "serialVersionUID"), (0, u "J"), (3, u "DEFAULT_CAPACITY"), (79, u "addAll"), (0, u "(Ljava/util/Collection;)Z"), (78, .class_ 501), (0, u "java/util/ArrayList$SubList$2"), (0, .class_ 503), (0, u "java/util/ArrayList$SubList$1")] 5

def k12c0 : Code := { maxStack := 2, maxLocals := 1, code := jdk_38_method_2_code, exceptionTable := #[], attributes := #[] }
def k12m0 : Method := { name := "<init>", desc := "()V", sig := { parameters := [], returnType := none }, accessFlags := 1, code := some k12c0 }
def k12c1 : Code := { maxStack := 2, maxLocals := 1, code := jdk_38_method_16_code, exceptionTable := #[], attributes := #[] }
def k12m1 : Method := { name := "toArray", desc := "()[Ljava/lang/Object;", sig := { parameters := [], returnType := some (.array (.object "java/lang/Object")) }, accessFlags := 1, code := some k12c1 }
def k12c2 : Code := { maxStack := 5, maxLocals := 6, code := jdk_38_method_41_code, exceptionTable := #[], attributes := #[] }
def k12m2 : Method := { name := "addAll", desc := "(Ljava/util/Collection;)Z", sig := { parameters := [(.object "java/util/Collection")], returnType := some .boolean }, accessFlags := 1, code := some k12c2 }
def k12c3 : Code := { maxStack := 3, maxLocals := 1, code := jdk_38_method_55_code, exceptionTable := #[], attributes := #[] }
def k12m3 : Method := { name := "iterator", desc := "()Ljava/util/Iterator;", sig := { parameters := [], returnType := some (.object "java/util/Iterator") }, accessFlags := 1, code := some k12c3 }
/-- java/util/ArrayList -/
def k12 : Class := { plain "java/util/ArrayList" (some 8) with
  accessFlags := 33
  interfaces := #[7, 9, 10, 11]
  cf := some (fileOf pool12 10 #[.nestMembers #[290, 276, 500, 502, 262, 267]] #[{ accessFlags := 1, nameIndex := 5, descriptorIndex := 6, attributes := #[] }, { accessFlags := 1, nameIndex := 46, descriptorIndex := 47, attributes := #[] }, { accessFlags := 1, nameIndex := 420, descriptorIndex := 421, attributes := #[] }, { accessFlags := 1, nameIndex := 166, descriptorIndex := 167, attributes := #[] }] 33 2 #[148, 329, 331, 333] #[{ accessFlags := 26, nameIndex := 335, descriptorIndex := 336, attributes := #[] }, { accessFlags := 26, nameIndex := 340, descriptorIndex := 51, attributes := #[] }, { accessFlags := 26, nameIndex := 17, descriptorIndex := 14, attributes := #[] }, { accessFlags := 26, nameIndex := 41, descriptorIndex := 14, attributes := #[] }, { accessFlags := 128, nameIndex := 13, descriptorIndex := 14, attributes := #[] }, { accessFlags := 2, nameIndex := 50, descriptorIndex := 51, attributes := #[] }])
  fields := #[{ name := "serialVersionUID", type := .long, accessFlags := 26, slot := 0, constantValue := 0 }, { name := "DEFAULT_CAPACITY", type := .int, accessFlags := 26, slot := 1, constantValue := 0 }, { name := "EMPTY_ELEMENTDATA", type := (.array (.object "java/lang/Object")), accessFlags := 26, slot := 2, constantValue := 0 }, { name := "DEFAULTCAPACITY_EMPTY_ELEMENTDATA", type := (.array (.object "java/lang/Object")), accessFlags := 26, slot := 3, constantValue := 0 }, { name := "elementData", type := (.array (.object "java/lang/Object")), accessFlags := 128, slot := 1, constantValue := 0 }, { name := "size", type := .int, accessFlags := 2, slot := 2, constantValue := 0 }]
  methods := #[k12m0, k12m1, k12m2, k12m3]
  instanceTypes := #[.int, (.array (.object "java/lang/Object")), .int]
  staticTypes := #[.long, .int, (.array (.object "java/lang/Object")), (.array (.object "java/lang/Object"))]
  resolved := Array.replicate 509 none
  statics := some 0 }

def pool13 : Array CpInfo := pool [(1, .methodref 2 3), (0, .class_ 4), (0, .nameAndType 5 6), (0, u "java/lang/Object"), (0, u "<init>"), (0, u "()V"), (1, .class_ 10), (1, u "java/lang/Number"), (2, .class_ 14), (0, u "java/io/Serializable"), (0, u "serialVersionUID"), (0, u "J")] 20

def k13c0 : Code := { maxStack := 1, maxLocals := 1, code := jdk_18_method_1_code, exceptionTable := #[], attributes := #[] }
def k13m0 : Method := { name := "<init>", desc := "()V", sig := { parameters := [], returnType := none }, accessFlags := 1, code := some k13c0 }
/-- java/lang/Number -/
def k13 : Class := { plain "java/lang/Number" (some 0) with
  accessFlags := 1057
  interfaces := #[11]
  cf := some (fileOf pool13 8 #[] #[{ accessFlags := 1, nameIndex := 5, descriptorIndex := 6, attributes := #[] }] 1057 2 #[13] #[{ accessFlags := 26, nameIndex := 15, descriptorIndex := 16, attributes := #[] }])
  fields := #[{ name := "serialVersionUID", type := .long, accessFlags := 26, slot := 0, constantValue := 0 }]
  methods := #[k13m0]
  instanceTypes := #[]
  staticTypes := #[.long]
  resolved := Array.replicate 37 none
  statics := none }

def pool14 : Array CpInfo := pool [(1, .class_ 2), (0, u "java/lang/Comparable"), (0, .class_ 4), (0, u "java/lang/Object")] 7

/-- java/lang/Comparable -/
def k14 : Class := { plain "java/lang/Comparable" (some 0) with
  accessFlags := 1537
  interfaces := #[]
  cf := some (fileOf pool14 1 #[] #[] 1537 3 #[] #[])
  fields := #[]
  methods := #[]
  instanceTypes := #[]
  staticTypes := #[]
  resolved := Array.replicate 12 none
  statics := none }

def pool15 : Array CpInfo := pool [(1, .class_ 2), (0, u "java/lang/constant/Constable"), (0, .class_ 4), (0, u "java/lang/Object")] 6

/-- java/lang/constant/Constable -/
def k15 : Class := { plain "java/lang/constant/Constable" (some 0) with
  accessFlags := 1537
  interfaces := #[]
  cf := some (fileOf pool15 1 #[] #[] 1537 3 #[] #[])
  fields := #[]
  methods := #[]
  instanceTypes := #[]
  staticTypes := #[]
  resolved := Array.replicate 11 none
  statics := none }

def pool16 : Array CpInfo := pool [(1, .class_ 2), (0, u "java/lang/constant/ConstantDesc"), (0, .class_ 4), (0, u "java/lang/Object")] 32

/-- java/lang/constant/ConstantDesc -/
def k16 : Class := { plain "java/lang/constant/ConstantDesc" (some 0) with
  accessFlags := 1537
  interfaces := #[]
  cf := some (fileOf pool16 1 #[] #[] 1537 3 #[] #[])
  fields := #[]
  methods := #[]
  instanceTypes := #[]
  staticTypes := #[]
  resolved := Array.replicate 37 none
  statics := none }

def pool17 : Array CpInfo := pool [(1, .class_ 2), (0, u "java/lang/Integer"), (16, u "digits"), (0, u "[C"), (46, u "<init>"), (17, u "DigitOnes"), (0, u "[B"), (2, u "DigitTens"), (10, .nameAndType 67 101), (0, u "()V"), (85, u "valueOf"), (0, u "(I)Ljava/lang/Integer;"), (0, .class_ 190), (0, u "java/lang/Integer$IntegerCache"), (0, .fieldref 189 192), (0, .nameAndType 193 194), (0, u "high"), (0, u "I"), (0, .fieldref 189 196), (0, .nameAndType 197 198), (0, u "cache"), (0, u "[Ljava/lang/Integer;"), (0, .methodref 1 200), (0, .nameAndType 67 201), (0, u "(I)V"), (0, .methodref 203 100), (0, .class_ 204), (0, u "java/lang/Number"), (0, .fieldref 1 206), (0, .nameAndType 207 194), (0, u "value"), (94, u "TYPE"), (0, u "Ljava/lang/Class;"), (0, .class_ 305), (0, u "java/lang/Comparable"), (0, .class_ 307), (0, u "java/lang/constant/Constable"), (0, .class_ 309), (0, u "java/lang/constant/ConstantDesc"), (0, u "MIN_VALUE"), (1, u "MAX_VALUE"), (3, u "SIZE"), (1, u "BYTES"), (1, u "serialVersionUID"), (0, u "J")] 131

def k17c0 : Code := { maxStack := 3, maxLocals := 1, code := jdk_33_method_22_code, exceptionTable := #[], attributes := #[] }
def k17m0 : Method := { name := "valueOf", desc := "(I)Ljava/lang/Integer;", sig := { parameters := [.int], returnType := some (.object "java/lang/Integer") }, accessFlags := 9, code := some k17c0 }
def k17c1 : Code := { maxStack := 2, maxLocals := 2, code := jdk_33_method_23_code, exceptionTable := #[], attributes := #[] }
def k17m1 : Method := { name := "<init>", desc := "(I)V", sig := { parameters := [.int], returnType := none }, accessFlags := 1, code := some k17c1 }
/-- java/lang/Integer -/
def k17 : Class := { plain "java/lang/Integer" (some 13) with
  accessFlags := 49
  interfaces := #[14, 15, 16]
  cf := some (fileOf pool17 1 #[.nestMembers #[189]] #[{ accessFlags := 9, nameIndex := 187, descriptorIndex := 188, attributes := #[] }, { accessFlags := 1, nameIndex := 67, descriptorIndex := 201, attributes := #[] }] 49 203 #[304, 306, 308] #[{ accessFlags := 25, nameIndex := 310, descriptorIndex := 194, attributes := #[] }, { accessFlags := 25, nameIndex := 312, descriptorIndex := 194, attributes := #[] }, { accessFlags := 25, nameIndex := 302, descriptorIndex := 303, attributes := #[] }, { accessFlags := 24, nameIndex := 19, descriptorIndex := 20, attributes := #[] }, { accessFlags := 24, nameIndex := 89, descriptorIndex := 86, attributes := #[] }, { accessFlags := 24, nameIndex := 85, descriptorIndex := 86, attributes := #[] }, { accessFlags := 18, nameIndex := 207, descriptorIndex := 194, attributes := #[] }, { accessFlags := 25, nameIndex := 316, descriptorIndex := 194, attributes := #[] }, { accessFlags := 25, nameIndex := 318, descriptorIndex := 194, attributes := #[] }, { accessFlags := 26, nameIndex := 320, descriptorIndex := 321, attributes := #[] }])
  fields := #[{ name := "MIN_VALUE", type := .int, accessFlags := 25, slot := 0, constantValue := 0 }, { name := "MAX_VALUE", type := .int, accessFlags := 25, slot := 1, constantValue := 0 }, { name := "TYPE", type := (.object "java/lang/Class"), accessFlags := 25, slot := 2, constantValue := 0 }, { name := "digits", type := (.array .char), accessFlags := 24, slot := 3, constantValue := 0 }, { name := "DigitTens", type := (.array .byte), accessFlags := 24, slot := 4, constantValue := 0 }, { name := "DigitOnes", type := (.array .byte), accessFlags := 24, slot := 5, constantValue := 0 }, { name := "value", type := .int, accessFlags := 18, slot := 0, constantValue := 0 }, { name := "SIZE", type := .int, accessFlags := 25, slot := 6, constantValue := 0 }, { name := "BYTES", type := .int, accessFlags := 25, slot := 7, constantValue := 0 }, { name := "serialVersionUID", type := .long, accessFlags := 26, slot := 8, constantValue := 0 }]
  methods := #[k17m0, k17m1]
  instanceTypes := #[.int]
  staticTypes := #[.int, .int, (.object "java/lang/Class"), (.array .char), (.array .byte), (.array .byte), .int, .int, .long]
  resolved := Array.replicate 453 none
  statics := none }

def pool18 : Array CpInfo := pool [(2, .class_ 4), (1, u "java/lang/Object"), (0, u "<init>"), (0, u "()V"), (0, .class_ 8), (0, u "java/lang/Integer"), (7, .class_ 18), (1, u "java/lang/Integer$IntegerCache"), (0, u "$assertionsDisabled"), (0, u "Z"), (26, u "high"), (0, u "I"), (8, u "archivedCache"), (0, u "[Ljava/lang/Integer;"), (12, u "cache"), (0, u "low")] 27

def k18m0 : Method := { name := "<init>", desc := "()V", sig := { parameters := [], returnType := none }, accessFlags := 2, code := none }
/-- java/lang/Integer$IntegerCache -/
def k18 : Class := { plain "java/lang/Integer$IntegerCache" (some 0) with
  accessFlags := 48
  interfaces := #[]
  cf := some (fileOf pool18 16 #[.nestHost 7] #[{ accessFlags := 2, nameIndex := 5, descriptorIndex := 6, attributes := #[] }] 48 2 #[] #[{ accessFlags := 24, nameIndex := 72, descriptorIndex := 48, attributes := #[] }, { accessFlags := 24, nameIndex := 47, descriptorIndex := 48, attributes := #[] }, { accessFlags := 24, nameIndex := 71, descriptorIndex := 58, attributes := #[] }, { accessFlags := 8, nameIndex := 57, descriptorIndex := 58, attributes := #[] }, { accessFlags := 4120, nameIndex := 19, descriptorIndex := 20, attributes := #[] }])
  fields := #[{ name := "low", type := .int, accessFlags := 24, slot := 0, constantValue := 0 }, { name := "high", type := .int, accessFlags := 24, slot := 1, constantValue := 0 }, { name := "cache", type := (.array (.object "java/lang/Integer")), accessFlags := 24, slot := 2, constantValue := 0 }, { name := "archivedCache", type := (.array (.object "java/lang/Integer")), accessFlags := 8, slot := 3, constantValue := 0 }, { name := "$assertionsDisabled", type := .boolean, accessFlags := 4120, slot := 4, constantValue := 0 }]
  methods := #[k18m0]
  instanceTypes := #[]
  staticTypes := #[.int, .int, (.array (.object "java/lang/Integer")), (.array (.object "java/lang/Integer")), .boolean]
  resolved := Array.replicate 100 none
  statics := some 1 }

def pool19 : Array CpInfo := pool [(16, .class_ 18), (1, u "java/util/Iterator"), (0, u "hasNext"), (0, u "()Z"), (10, .class_ 32), (0, u "java/lang/Object")] 20

def k19m0 : Method := { name := "hasNext", desc := "()Z", sig := { parameters := [], returnType := some .boolean }, accessFlags := 1025, code := none }
/-- java/util/Iterator -/
def k19 : Class := { plain "java/util/Iterator" (some 0) with
  accessFlags := 1537
  interfaces := #[]
  cf := some (fileOf pool19 16 #[] #[{ accessFlags := 1025, nameIndex := 19, descriptorIndex := 20, attributes := #[] }] 1537 31 #[] #[])
  fields := #[]
  methods := #[k19m0]
  instanceTypes := #[]
  staticTypes := #[]
  resolved := Array.replicate 53 none
  statics := none }

def pool20 : Array CpInfo := pool [(1, .fieldref 2 3), (0, .class_ 4), (0, .nameAndType 5 6), (0, u "java/util/ArrayList$Itr"), (0, u "this$0"), (0, u "Ljava/util/ArrayList;"), (0, .methodref 8 9), (0, .class_ 10), (0, .nameAndType 11 12), (0, u "java/lang/Object"), (0, u "<init>"), (0, u "()V"), (0, .fieldref 2 14), (0, .nameAndType 15 16), (0, u "lastRet"), (0, u "I"), (0, .fieldref 18 19), (0, .class_ 20), (0, .nameAndType 21 16), (0, u "java/util/ArrayList"), (0, u "modCount"), (0, .fieldref 2 23), (0, .nameAndType 24 16), (0, u "expectedModCount"), (0, .fieldref 2 26), (0, .nameAndType 27 16), (0, u "cursor"), (0, .fieldref 18 29), (0, .nameAndType 30 16), (0, u "size"), (38, .class_ 70), (0, u "java/util/Iterator"), (0, u "(Ljava/util/ArrayList;)V"), (8, u "hasNext"), (0, u "()Z")] 22

def k20c0 : Code := { maxStack := 2, maxLocals := 2, code := jdk_49_method_1_code, exceptionTable := #[], attributes := #[] }
def k20m0 : Method := { name := "<init>", desc := "(Ljava/util/ArrayList;)V", sig := { parameters := [(.object "java/util/ArrayList")], returnType := none }, accessFlags := 0, code := some k20c0 }
def k20c1 : Code := { maxStack := 2, maxLocals := 1, code := jdk_49_method_2_code, exceptionTable := #[], attributes := #[] }
def k20m1 : Method := { name := "hasNext", desc := "()Z", sig := { parameters := [], returnType := some .boolean }, accessFlags := 1, code := some k20c1 }
/-- java/util/ArrayList$Itr -/
def k20 : Class := { plain "java/util/ArrayList$Itr" (some 0) with
  accessFlags := 32
  interfaces := #[19]
  cf := some (fileOf pool20 2 #[.nestHost 18] #[{ accessFlags := 0, nameIndex := 11, descriptorIndex := 71, attributes := #[] }, { accessFlags := 1, nameIndex := 80, descriptorIndex := 81, attributes := #[] }] 32 8 #[69] #[{ accessFlags := 0, nameIndex := 27, descriptorIndex := 16, attributes := #[] }, { accessFlags := 0, nameIndex := 15, descriptorIndex := 16, attributes := #[] }, { accessFlags := 0, nameIndex := 24, descriptorIndex := 16, attributes := #[] }, { accessFlags := 4112, nameIndex := 5, descriptorIndex := 6, attributes := #[] }])
  fields := #[{ name := "cursor", type := .int, accessFlags := 0, slot := 0, constantValue := 0 }, { name := "lastRet", type := .int, accessFlags := 0, slot := 1, constantValue := 0 }, { name := "expectedModCount", type := .int, accessFlags := 0, slot := 2, constantValue := 0 }, { name := "this$0", type := (.object "java/util/ArrayList"), accessFlags := 4112, slot := 3, constantValue := 0 }]
  methods := #[k20m0, k20m1]
  instanceTypes := #[.int, .int, .int, (.object "java/util/ArrayList")]
  staticTypes := #[]
  resolved := Array.replicate 104 none
  statics := none }

def pool21 : Array CpInfo := pool [(2, .class_ 4), (1, u "java/lang/CharSequence"), (42, .class_ 48), (0, u "java/lang/CharSequence$1CodePointIterator"), (10, .class_ 60), (0, u "java/lang/CharSequence$1CharIterator"), (5, .class_ 67), (0, u "java/lang/Object")] 63

/-- java/lang/CharSequence -/
def k21 : Class := { plain "java/lang/CharSequence" (some 0) with
  accessFlags := 1537
  interfaces := #[]
  cf := some (fileOf pool21 2 #[.nestMembers #[47, 59]] #[] 1537 66 #[] #[])
  fields := #[]
  methods := #[]
  instanceTypes := #[]
  staticTypes := #[]
  resolved := Array.replicate 131 none
  statics := none }

def pool22 : Array CpInfo := pool [(1, .methodref 2 3), (0, .class_ 4), (0, .nameAndType 5 6), (0, u "java/lang/Object"), (0, u "<init>"), (0, u "()V"), (2, .fieldref 10 11), (0, .class_ 12), (0, .nameAndType 13 14), (0, u "java/lang/String"), (0, u "value"), (0, u "[B"), (0, .fieldref 10 16), (0, .nameAndType 17 18), (0, u "coder"), (0, u "B"), (2, u "hash"), (0, u "I"), (2, u "hashIsZero"), (0, u "Z"), (0, .methodref 10 28), (0, .nameAndType 5 29), (0, u "([CIILjava/lang/Void;)V"), (8, .fieldref 10 39), (0, .nameAndType 40 26), (0, u "COMPACT_STRINGS"), (1, .class_ 44), (1, u "java/lang/StringUTF16"), (0, u "compress"), (1, .methodref 42 48), (0, .nameAndType 49 50), (0, u "coderFromArrayLen"), (0, u "([BI)B"), (126, .methodref 42 178), (0, .nameAndType 45 179), (0, u "([CII)[B"), (395, .class_ 576), (0, u "java/lang/CharSequence"), (22, u "CASE_INSENSITIVE_ORDER"), (0, u "Ljava/util/Comparator;"), (409, u "([C)V"), (90, u "serialPersistentFields"), (0, u "[Ljava/io/ObjectStreamField;"), (0, .class_ 1104), (0, u "java/lang/String$CaseInsensitiveComparator"), (1, .class_ 1107), (0, u "java/io/Serializable"), (0, .class_ 1109), (0, u "java/lang/Comparable"), (0, .class_ 1111), (0, u "java/lang/constant/Constable"), (0, .class_ 1113), (0, u "java/lang/constant/ConstantDesc"), (2, u "serialVersionUID"), (0, u "J"), (3, u "REPL"), (0, u "C"), (2, u "LATIN1"), (1, u "UTF16")] 323

def k22m0 : Method := { name := "<init>", desc := "()V", sig := { parameters := [], returnType := none }, accessFlags := 1, code := none }
def k22c1 : Code := { maxStack := 5, maxLocals := 2, code := jdk_42_method_3_code, exceptionTable := #[], attributes := #[] }
def k22m1 : Method := { name := "<init>", desc := "([C)V", sig := { parameters := [(.array .char)], returnType := none }, accessFlags := 1, code := some k22c1 }
def k22c2 : Code := { maxStack := 4, maxLocals := 6, code := jdk_42_method_149_code, exceptionTable := #[], attributes := #[] }
def k22m2 : Method := { name := "<init>", desc := "([CIILjava/lang/Void;)V", sig := { parameters := [(.array .char), .int, .int, (.object "java/lang/Void")], returnType := none }, accessFlags := 2, code := some k22c2 }
/-- java/lang/String -/
def k22 : Class := { plain "java/lang/String" (some 0) with
  accessFlags := 49
  interfaces := #[11, 14, 21, 15, 16]
  cf := some (fileOf pool22 10 #[.nestMembers #[1103]] #[{ accessFlags := 1, nameIndex := 5, descriptorIndex := 6, attributes := #[] }, { accessFlags := 1, nameIndex := 5, descriptorIndex := 1010, attributes := #[] }, { accessFlags := 2, nameIndex := 5, descriptorIndex := 29, attributes := #[] }] 49 2 #[1106, 1108, 575, 1110, 1112] #[{ accessFlags := 18, nameIndex := 13, descriptorIndex := 14, attributes := #[] }, { accessFlags := 18, nameIndex := 17, descriptorIndex := 18, attributes := #[] }, { accessFlags := 2, nameIndex := 21, descriptorIndex := 22, attributes := #[] }, { accessFlags := 2, nameIndex := 25, descriptorIndex := 26, attributes := #[] }, { accessFlags := 26, nameIndex := 1116, descriptorIndex := 1117, attributes := #[] }, { accessFlags := 24, nameIndex := 40, descriptorIndex := 26, attributes := #[] }, { accessFlags := 26, nameIndex := 1101, descriptorIndex := 1102, attributes := #[] }, { accessFlags := 26, nameIndex := 1121, descriptorIndex := 1122, attributes := #[] }, { accessFlags := 25, nameIndex := 599, descriptorIndex := 600, attributes := #[] }, { accessFlags := 24, nameIndex := 1125, descriptorIndex := 18, attributes := #[] }, { accessFlags := 24, nameIndex := 1127, descriptorIndex := 18, attributes := #[] }])
  fields := #[{ name := "value", type := (.array .byte), accessFlags := 18, slot := 0, constantValue := 0 }, { name := "coder", type := .byte, accessFlags := 18, slot := 1, constantValue := 0 }, { name := "hash", type := .int, accessFlags := 2, slot := 2, constantValue := 0 }, { name := "hashIsZero", type := .boolean, accessFlags := 2, slot := 3, constantValue := 0 }, { name := "serialVersionUID", type := .long, accessFlags := 26, slot := 0, constantValue := 0 }, { name := "COMPACT_STRINGS", type := .boolean, accessFlags := 24, slot := 1, constantValue := 0 }, { name := "serialPersistentFields", type := (.array (.object "java/io/ObjectStreamField")), accessFlags := 26, slot := 2, constantValue := 0 }, { name := "REPL", type := .char, accessFlags := 26, slot := 3, constantValue := 0 }, { name := "CASE_INSENSITIVE_ORDER", type := (.object "java/util/Comparator"), accessFlags := 25, slot := 4, constantValue := 0 }, { name := "LATIN1", type := .byte, accessFlags := 24, slot := 5, constantValue := 0 }, { name := "UTF16", type := .byte, accessFlags := 24, slot := 6, constantValue := 0 }]
  methods := #[k22m0, k22m1, k22m2]
  instanceTypes := #[(.array .byte), .byte, .int, .boolean]
  staticTypes := #[.long, .boolean, (.array (.object "java/io/ObjectStreamField")), .char, (.object "java/util/Comparator"), .byte, .byte]
  resolved := Array.replicate 1451 none
  statics := some 2 }

def pool23 : Array CpInfo := pool [(6, .class_ 8), (1, u "java/lang/Object"), (0, u "<init>"), (0, u "()V"), (1, .class_ 14), (1, u "java/lang/StringUTF16"), (31, u "$assertionsDisabled"), (0, u "Z"), (13, u "HI_BYTE_SHIFT"), (0, u "I"), (2, u "LO_BYTE_SHIFT"), (49, .methodref 12 116), (0, .nameAndType 117 118), (0, u "compress"), (0, u "([CI[BII)I"), (3, u "([CII)[B"), (138, u "coderFromArrayLen"), (0, u "([BI)B"), (106, .class_ 371), (1, u "java/lang/StringUTF16$LinesSpliterator"), (58, u "MAX_LENGTH"), (196, .class_ 628), (0, u "java/lang/StringUTF16$CodePointsSpliterator"), (0, .class_ 630), (0, u "java/lang/StringUTF16$CharsSpliterator")] 4

def k23m0 : Method := { name := "<init>", desc := "()V", sig := { parameters := [], returnType := none }, accessFlags := 0, code := none }
def k23c1 : Code := { maxStack := 2, maxLocals := 2, code := jdk_52_method_15_code, exceptionTable := #[], attributes := #[] }
def k23m1 : Method := { name := "coderFromArrayLen", desc := "([BI)B", sig := { parameters := [(.array .byte), .int], returnType := some .byte }, accessFlags := 8, code := some k23c1 }
def k23c2 : Code := { maxStack := 5, maxLocals := 6, code := jdk_52_method_16_code, exceptionTable := #[], attributes := #[] }
def k23m2 : Method := { name := "compress", desc := "([CII)[B", sig := { parameters := [(.array .char), .int, .int], returnType := some (.array .byte) }, accessFlags := 9, code := some k23c2 }
def k23c3 : Code := { maxStack := 3, maxLocals := 7, code := jdk_52_method_21_code, exceptionTable := #[], attributes := #[] }
def k23m3 : Method := { name := "compress", desc := "([CI[BII)I", sig := { parameters := [(.array .char), .int, (.array .byte), .int, .int], returnType := some .int }, accessFlags := 9, code := some k23c3 }
/-- java/lang/StringUTF16 -/
def k23 : Class := { plain "java/lang/StringUTF16" (some 0) with
  accessFlags := 48
  interfaces := #[]
  cf := some (fileOf pool23 12 #[.nestMembers #[627, 629, 369]] #[{ accessFlags := 0, nameIndex := 9, descriptorIndex := 10, attributes := #[] }, { accessFlags := 8, nameIndex := 261, descriptorIndex := 262, attributes := #[] }, { accessFlags := 9, nameIndex := 117, descriptorIndex := 122, attributes := #[] }, { accessFlags := 9, nameIndex := 117, descriptorIndex := 118, attributes := #[] }] 48 6 #[] #[{ accessFlags := 26, nameIndex := 61, descriptorIndex := 62, attributes := #[] }, { accessFlags := 26, nameIndex := 65, descriptorIndex := 62, attributes := #[] }, { accessFlags := 24, nameIndex := 430, descriptorIndex := 62, attributes := #[] }, { accessFlags := 4120, nameIndex := 46, descriptorIndex := 47, attributes := #[] }])
  fields := #[{ name := "HI_BYTE_SHIFT", type := .int, accessFlags := 26, slot := 0, constantValue := 0 }, { name := "LO_BYTE_SHIFT", type := .int, accessFlags := 26, slot := 1, constantValue := 0 }, { name := "MAX_LENGTH", type := .int, accessFlags := 24, slot := 2, constantValue := 0 }, { name := "$assertionsDisabled", type := .boolean, accessFlags := 4120, slot := 3, constantValue := 0 }]
  methods := #[k23m0, k23m1, k23m2, k23m3]
  instanceTypes := #[]
  staticTypes := #[.int, .int, .int, .boolean]
  resolved := Array.replicate 635 none
  statics := none }

def pool24 : Array CpInfo := pool [(2, .class_ 4), (1, u "java/lang/Object"), (0, u "<init>"), (0, u "()V"), (7, .class_ 16), (1, u "java/util/Arrays"), (57, .class_ 76), (1, u "java/util/Arrays$NaturalOrder"), (9, .methodref 2 87), (0, .nameAndType 88 89), (0, u "getClass"), (0, u "()Ljava/lang/Class;"), (20, .class_ 111), (0, u "[Ljava/lang/Object;"), (1, .class_ 115), (1, u "java/util/Arrays$LegacyMergeSort"), (1, u "Z"), (32, .methodref 151 152), (0, .class_ 153), (0, .nameAndType 154 155), (0, u "java/lang/System"), (0, u "arraycopy"), (0, u "(Ljava/lang/Object;ILjava/lang/Object;II)V"), (144, .methodref 14 301), (0, .nameAndType 302 303), (0, u "copyOf"), (0, u "([Ljava/lang/Object;ILjava/lang/Class;)[Ljava/lang/Object;"), (0, .methodref 305 306), (0, .class_ 307), (0, .nameAndType 308 309), (0, u "java/lang/Math"), (0, u "min"), (0, u "(II)I"), (65, .class_ 376), (0, u "java/util/Arrays$ArrayList"), (68, u "$assertionsDisabled"), (269, u "MIN_ARRAY_SORT_GRAN"), (0, u "I"), (2, u "INSERTIONSORT_THRESHOLD"), (140, u "([Ljava/lang/Object;I)[Ljava/lang/Object;"), (114, .class_ 976), (0, u "java/util/Arrays$ArrayItr")] 52

def k24m0 : Method := { name := "<init>", desc := "()V", sig := { parameters := [], returnType := none }, accessFlags := 2, code := none }
def k24c1 : Code := { maxStack := 3, maxLocals := 2, code := jdk_65_method_119_code, exceptionTable := #[], attributes := #[] }
def k24m1 : Method := { name := "copyOf", desc := "([Ljava/lang/Object;I)[Ljava/lang/Object;", sig := { parameters := [(.array (.object "java/lang/Object")), .int], returnType := some (.array (.object "java/lang/Object")) }, accessFlags := 9, code := some k24c1 }
def k24c2 : Code := { maxStack := 6, maxLocals := 4, code := jdk_65_method_120_code, exceptionTable := #[], attributes := #[] }
def k24m2 : Method := { name := "copyOf", desc := "([Ljava/lang/Object;ILjava/lang/Class;)[Ljava/lang/Object;", sig := { parameters := [(.array (.object "java/lang/Object")), .int, (.object "java/lang/Class")], returnType := some (.array (.object "java/lang/Object")) }, accessFlags := 9, code := some k24c2 }
/-- java/util/Arrays -/
def k24 : Class := { plain "java/util/Arrays" (some 0) with
  accessFlags := 49
  interfaces := #[]
  cf := some (fileOf pool24 14 #[.nestMembers #[975, 375, 113, 74]] #[{ accessFlags := 2, nameIndex := 5, descriptorIndex := 6, attributes := #[] }, { accessFlags := 9, nameIndex := 302, descriptorIndex := 860, attributes := #[] }, { accessFlags := 9, nameIndex := 302, descriptorIndex := 303, attributes := #[] }] 49 2 #[] #[{ accessFlags := 26, nameIndex := 715, descriptorIndex := 716, attributes := #[] }, { accessFlags := 26, nameIndex := 719, descriptorIndex := 716, attributes := #[] }, { accessFlags := 4120, nameIndex := 445, descriptorIndex := 117, attributes := #[] }])
  fields := #[{ name := "MIN_ARRAY_SORT_GRAN", type := .int, accessFlags := 26, slot := 0, constantValue := 0 }, { name := "INSERTIONSORT_THRESHOLD", type := .int, accessFlags := 26, slot := 1, constantValue := 0 }, { name := "$assertionsDisabled", type := .boolean, accessFlags := 4120, slot := 2, constantValue := 0 }]
  methods := #[k24m0, k24m1, k24m2]
  instanceTypes := #[]
  staticTypes := #[.int, .int, .boolean]
  resolved := Array.replicate 1029 none
  statics := none }

def pool25 : Array CpInfo := pool [(1, .class_ 2), (0, u "java/lang/Math"), (1, .class_ 6), (1, u "java/lang/Object"), (0, u "<init>"), (0, u "()V"), (89, .class_ 100), (1, u "java/lang/Math$RandomNumberGeneratorHolder"), (71, u "negativeZeroFloatBits"), (0, u "J"), (2, u "negativeZeroDoubleBits"), (24, u "min"), (43, u "$assertionsDisabled"), (0, u "Z"), (88, u "(II)I"), (2, u "twoToTheDoubleScaleDown"), (0, u "D"), (4, u "twoToTheDoubleScaleUp"), (9, u "E"), (3, u "PI"), (2, u "TAU"), (2, u "DEGREES_TO_RADIANS"), (0, u "RADIANS_TO_DEGREES")] 94

def k25m0 : Method := { name := "<init>", desc := "()V", sig := { parameters := [], returnType := none }, accessFlags := 2, code := none }
def k25c1 : Code := { maxStack := 2, maxLocals := 2, code := jdk_29_method_69_code, exceptionTable := #[], attributes := #[] }
def k25m1 : Method := { name := "min", desc := "(II)I", sig := { parameters := [.int, .int], returnType := some .int }, accessFlags := 9, code := some k25c1 }
/-- java/lang/Math -/
def k25 : Class := { plain "java/lang/Math" (some 0) with
  accessFlags := 49
  interfaces := #[]
  cf := some (fileOf pool25 1 #[.nestMembers #[98]] #[{ accessFlags := 2, nameIndex := 7, descriptorIndex := 8, attributes := #[] }, { accessFlags := 9, nameIndex := 201, descriptorIndex := 335, attributes := #[] }] 49 4 #[] #[{ accessFlags := 25, nameIndex := 354, descriptorIndex := 339, attributes := #[] }, { accessFlags := 25, nameIndex := 358, descriptorIndex := 339, attributes := #[] }, { accessFlags := 25, nameIndex := 361, descriptorIndex := 339, attributes := #[] }, { accessFlags := 26, nameIndex := 364, descriptorIndex := 339, attributes := #[] }, { accessFlags := 26, nameIndex := 365, descriptorIndex := 339, attributes := #[] }, { accessFlags := 26, nameIndex := 172, descriptorIndex := 173, attributes := #[] }, { accessFlags := 26, nameIndex := 176, descriptorIndex := 173, attributes := #[] }, { accessFlags := 8, nameIndex := 344, descriptorIndex := 339, attributes := #[] }, { accessFlags := 8, nameIndex := 338, descriptorIndex := 339, attributes := #[] }, { accessFlags := 4120, nameIndex := 245, descriptorIndex := 246, attributes := #[] }])
  fields := #[{ name := "E", type := .double, accessFlags := 25, slot := 0, constantValue := 0 }, { name := "PI", type := .double, accessFlags := 25, slot := 1, constantValue := 0 }, { name := "TAU", type := .double, accessFlags := 25, slot := 2, constantValue := 0 }, { name := "DEGREES_TO_RADIANS", type := .double, accessFlags := 26, slot := 3, constantValue := 0 }, { name := "RADIANS_TO_DEGREES", type := .double, accessFlags := 26, slot := 4, constantValue := 0 }, { name := "negativeZeroFloatBits", type := .long, accessFlags := 26, slot := 5, constantValue := 0 }, { name := "negativeZeroDoubleBits", type := .long, accessFlags := 26, slot := 6, constantValue := 0 }, { name := "twoToTheDoubleScaleUp", type := .double, accessFlags := 8, slot := 7, constantValue := 0 }, { name := "twoToTheDoubleScaleDown", type := .double, accessFlags := 8, slot := 8, constantValue := 0 }, { name := "$assertionsDisabled", type := .boolean, accessFlags := 4120, slot := 9, constantValue := 0 }]
  methods := #[k25m0, k25m1]
  instanceTypes := #[]
  staticTypes := #[.double, .double, .double, .double, .double, .long, .long, .double, .double, .boolean]
  resolved := Array.replicate 460 none
  statics := none }

def pool26 : Array CpInfo := pool [(2, .class_ 4), (1, u "java/lang/Object"), (0, u "<init>"), (0, u "()V"), (1, .class_ 10), (1, u "java/lang/System"), (0, u "allowSecurityManager"), (0, u "I"), (16, u "cons"), (0, u "Ljava/io/Console;"), (77, .class_ 110), (1, u "java/lang/System$CallersHolder"), (43, u "initialErrStream"), (0, u "Ljava/io/PrintStream;"), (19, u "security"), (0, u "Ljava/lang/SecurityManager;"), (31, .class_ 209), (0, u "java/lang/System$1"), (7, u "props"), (0, u "Ljava/util/Properties;"), (2, u "lineSeparator"), (0, u "Ljava/lang/String;"), (96, .class_ 321), (1, u "java/lang/System$LoggerFinder"), (5, .class_ 328), (0, u "java/lang/System$Logger"), (67, u "err"), (2, u "out"), (91, u "notSupportedJnuEncoding"), (15, u "in"), (17, u "initialIn"), (0, u "Ljava/io/InputStream;"), (35, u "bootLayer"), (0, u "Ljava/lang/ModuleLayer;"), (99, .class_ 664), (0, u "java/lang/System$2"), (9, u "NEVER"), (2, u "MAYBE"), (49, u "arraycopy"), (0, u "(Ljava/lang/Object;ILjava/lang/Object;II)V"), (72, .class_ 802), (0, u "java/lang/System$Logger$Level")] 31

def k26m0 : Method := { name := "<init>", desc := "()V", sig := { parameters := [], returnType := none }, accessFlags := 2, code := none }
def k26m1 : Method := { name := "arraycopy", desc := "(Ljava/lang/Object;ILjava/lang/Object;II)V", sig := { parameters := [(.object "java/lang/Object"), .int, (.object "java/lang/Object"), .int, .int], returnType := none }, accessFlags := 265, code := none }
/-- java/lang/System -/
def k26 : Class := { plain "java/lang/System" (some 0) with
  accessFlags := 49
  interfaces := #[]
  cf := some (fileOf pool26 8 #[.nestMembers #[319, 327, 801, 108, 663, 208]] #[{ accessFlags := 2, nameIndex := 5, descriptorIndex := 6, attributes := #[] }, { accessFlags := 265, nameIndex := 727, descriptorIndex := 728, attributes := #[] }] 49 2 #[] #[{ accessFlags := 25, nameIndex := 507, descriptorIndex := 526, attributes := #[] }, { accessFlags := 25, nameIndex := 399, descriptorIndex := 155, attributes := #[] }, { accessFlags := 25, nameIndex := 396, descriptorIndex := 155, attributes := #[] }, { accessFlags := 10, nameIndex := 525, descriptorIndex := 526, attributes := #[] }, { accessFlags := 26, nameIndex := 674, descriptorIndex := 12, attributes := #[] }, { accessFlags := 26, nameIndex := 677, descriptorIndex := 12, attributes := #[] }, { accessFlags := 10, nameIndex := 11, descriptorIndex := 12, attributes := #[] }, { accessFlags := 74, nameIndex := 175, descriptorIndex := 176, attributes := #[] }, { accessFlags := 10, nameIndex := 491, descriptorIndex := 222, attributes := #[] }, { accessFlags := 74, nameIndex := 29, descriptorIndex := 30, attributes := #[] }, { accessFlags := 74, nameIndex := 154, descriptorIndex := 155, attributes := #[] }, { accessFlags := 10, nameIndex := 217, descriptorIndex := 218, attributes := #[] }, { accessFlags := 10, nameIndex := 221, descriptorIndex := 222, attributes := #[] }, { accessFlags := 8, nameIndex := 562, descriptorIndex := 563, attributes := #[] }])
  fields := #[{ name := "in", type := (.object "java/io/InputStream"), accessFlags := 25, slot := 0, constantValue := 0 }, { name := "out", type := (.object "java/io/PrintStream"), accessFlags := 25, slot := 1, constantValue := 0 }, { name := "err", type := (.object "java/io/PrintStream"), accessFlags := 25, slot := 2, constantValue := 0 }, { name := "initialIn", type := (.object "java/io/InputStream"), accessFlags := 10, slot := 3, constantValue := 0 }, { name := "NEVER", type := .int, accessFlags := 26, slot := 4, constantValue := 0 }, { name := "MAYBE", type := .int, accessFlags := 26, slot := 5, constantValue := 0 }, { name := "allowSecurityManager", type := .int, accessFlags := 10, slot := 6, constantValue := 0 }, { name := "security", type := (.object "java/lang/SecurityManager"), accessFlags := 74, slot := 7, constantValue := 0 }, { name := "notSupportedJnuEncoding", type := (.object "java/lang/String"), accessFlags := 10, slot := 8, constantValue := 0 }, { name := "cons", type := (.object "java/io/Console"), accessFlags := 74, slot := 9, constantValue := 0 }, { name := "initialErrStream", type := (.object "java/io/PrintStream"), accessFlags := 74, slot := 10, constantValue := 0 }, { name := "props", type := (.object "java/util/Properties"), accessFlags := 10, slot := 11, constantValue := 0 }, { name := "lineSeparator", type := (.object "java/lang/String"), accessFlags := 10, slot := 12, constantValue := 0 }, { name := "bootLayer", type := (.object "java/lang/ModuleLayer"), accessFlags := 8, slot := 13, constantValue := 0 }]
  methods := #[k26m0, k26m1]
  instanceTypes := #[]
  staticTypes := #[(.object "java/io/InputStream"), (.object "java/io/PrintStream"), (.object "java/io/PrintStream"), (.object "java/io/InputStream"), .int, .int, .int, (.object "java/lang/SecurityManager"), (.object "java/lang/String"), (.object "java/io/Console"), (.object "java/io/PrintStream"), (.object "java/util/Properties"), (.object "java/lang/String"), (.object "java/lang/ModuleLayer")]
  resolved := Array.replicate 834 none
  statics := none }

def pool27 : Array CpInfo := pool [(4, .class_ 6), (1, u "java/lang/Object"), (0, u "<init>"), (0, u "()V"), (5, .class_ 16), (1, u "java/lang/StringLatin1"), (104, u "$assertionsDisabled"), (0, u "Z"), (98, .class_ 223), (1, u "java/lang/StringLatin1$LinesSpliterator"), (166, .class_ 391), (0, u "java/lang/StringLatin1$CharsSpliterator")] 3

def k27m0 : Method := { name := "<init>", desc := "()V", sig := { parameters := [], returnType := none }, accessFlags := 0, code := none }
/-- java/lang/StringLatin1 -/
def k27 : Class := { plain "java/lang/StringLatin1" (some 0) with
  accessFlags := 48
  interfaces := #[]
  cf := some (fileOf pool27 14 #[.nestMembers #[390, 221]] #[{ accessFlags := 0, nameIndex := 7, descriptorIndex := 8, attributes := #[] }] 48 4 #[] #[{ accessFlags := 4120, nameIndex := 121, descriptorIndex := 122, attributes := #[] }])
  fields := #[{ name := "$assertionsDisabled", type := .boolean, accessFlags := 4120, slot := 0, constantValue := 0 }]
  methods := #[k27m0]
  instanceTypes := #[]
  staticTypes := #[.boolean]
  resolved := Array.replicate 395 none
  statics := none }

def pool28 : Array CpInfo := pool [(2, .class_ 4), (1, u "java/lang/Object"), (0, u "<init>"), (0, u "()V"), (17, .class_ 26), (1, u "jdk/internal/util/Preconditions"), (28, .class_ 56), (0, u "jdk/internal/util/Preconditions$4"), (57, .class_ 115), (0, u "jdk/internal/util/Preconditions$1"), (7, u "SIOOBE_FORMATTER"), (0, u "Ljava/util/function/BiFunction;"), (0, .class_ 126), (0, u "jdk/internal/util/Preconditions$2"), (3, u "AIOOBE_FORMATTER"), (0, .class_ 132), (0, u "jdk/internal/util/Preconditions$3"), (3, u "IOOBE_FORMATTER")] 57

def k28m0 : Method := { name := "<init>", desc := "()V", sig := { parameters := [], returnType := none }, accessFlags := 1, code := none }
/-- jdk/internal/util/Preconditions -/
def k28 : Class := { plain "jdk/internal/util/Preconditions" (some 0) with
  accessFlags := 33
  interfaces := #[]
  cf := some (fileOf pool28 24 #[.nestMembers #[55, 131, 125, 114]] #[{ accessFlags := 1, nameIndex := 5, descriptorIndex := 6, attributes := #[] }] 33 2 #[] #[{ accessFlags := 25, nameIndex := 123, descriptorIndex := 124, attributes := #[] }, { accessFlags := 25, nameIndex := 130, descriptorIndex := 124, attributes := #[] }, { accessFlags := 25, nameIndex := 136, descriptorIndex := 124, attributes := #[] }])
  fields := #[{ name := "SIOOBE_FORMATTER", type := (.object "java/util/function/BiFunction"), accessFlags := 25, slot := 0, constantValue := 0 }, { name := "AIOOBE_FORMATTER", type := (.object "java/util/function/BiFunction"), accessFlags := 25, slot := 1, constantValue := 0 }, { name := "IOOBE_FORMATTER", type := (.object "java/util/function/BiFunction"), accessFlags := 25, slot := 2, constantValue := 0 }]
  methods := #[k28m0]
  instanceTypes := #[]
  staticTypes := #[(.object "java/util/function/BiFunction"), (.object "java/util/function/BiFunction"), (.object "java/util/function/BiFunction")]
  resolved := Array.replicate 194 none
  statics := some 3 }

def pool29 : Array CpInfo := pool [(9, u "<init>"), (6, .class_ 18), (1, u "java/lang/Object"), (0, u "()V"), (1, .class_ 23), (1, u "jdk/internal/util/ArraysSupport"), (0, u "LOG2_ARRAY_LONG_INDEX_SCALE"), (0, u "I"), (2, u "U"), (0, u "Ljdk/internal/misc/Unsafe;"), (8, u "BIG_ENDIAN"), (0, u "Z"), (8, u "LOG2_BYTE_BIT_SIZE"), (4, u "LOG2_ARRAY_INT_INDEX_SCALE"), (54, u "JLA"), (0, u "Ljdk/internal/access/JavaLangAccess;"), (11, u "LOG2_ARRAY_BOOLEAN_INDEX_SCALE"), (9, u "LOG2_ARRAY_BYTE_INDEX_SCALE"), (5, u "LOG2_ARRAY_CHAR_INDEX_SCALE"), (5, u "LOG2_ARRAY_SHORT_INDEX_SCALE"), (18, u "LOG2_ARRAY_FLOAT_INDEX_SCALE"), (24, u "LOG2_ARRAY_DOUBLE_INDEX_SCALE"), (89, u "T_BOOLEAN"), (2, u "T_CHAR"), (1, u "T_FLOAT"), (1, u "T_DOUBLE"), (1, u "T_BYTE"), (1, u "T_SHORT"), (1, u "T_INT"), (1, u "T_LONG"), (1, u "SOFT_MAX_ARRAY_LENGTH")] 83

def k29m0 : Method := { name := "<init>", desc := "()V", sig := { parameters := [], returnType := none }, accessFlags := 2, code := none }
/-- jdk/internal/util/ArraysSupport -/
def k29 : Class := { plain "jdk/internal/util/ArraysSupport" (some 0) with
  accessFlags := 33
  interfaces := #[]
  cf := some (fileOf pool29 21 #[] #[{ accessFlags := 2, nameIndex := 9, descriptorIndex := 19, attributes := #[] }] 33 16 #[] #[{ accessFlags := 24, nameIndex := 28, descriptorIndex := 29, attributes := #[] }, { accessFlags := 26, nameIndex := 38, descriptorIndex := 39, attributes := #[] }, { accessFlags := 25, nameIndex := 121, descriptorIndex := 25, attributes := #[] }, { accessFlags := 25, nameIndex := 131, descriptorIndex := 25, attributes := #[] }, { accessFlags := 25, nameIndex := 137, descriptorIndex := 25, attributes := #[] }, { accessFlags := 25, nameIndex := 143, descriptorIndex := 25, attributes := #[] }, { accessFlags := 25, nameIndex := 53, descriptorIndex := 25, attributes := #[] }, { accessFlags := 25, nameIndex := 24, descriptorIndex := 25, attributes := #[] }, { accessFlags := 25, nameIndex := 162, descriptorIndex := 25, attributes := #[] }, { accessFlags := 25, nameIndex := 187, descriptorIndex := 25, attributes := #[] }, { accessFlags := 26, nameIndex := 48, descriptorIndex := 25, attributes := #[] }, { accessFlags := 25, nameIndex := 277, descriptorIndex := 25, attributes := #[] }, { accessFlags := 25, nameIndex := 280, descriptorIndex := 25, attributes := #[] }, { accessFlags := 25, nameIndex := 282, descriptorIndex := 25, attributes := #[] }, { accessFlags := 25, nameIndex := 284, descriptorIndex := 25, attributes := #[] }, { accessFlags := 25, nameIndex := 286, descriptorIndex := 25, attributes := #[] }, { accessFlags := 25, nameIndex := 288, descriptorIndex := 25, attributes := #[] }, { accessFlags := 25, nameIndex := 290, descriptorIndex := 25, attributes := #[] }, { accessFlags := 25, nameIndex := 292, descriptorIndex := 25, attributes := #[] }, { accessFlags := 26, nameIndex := 108, descriptorIndex := 109, attributes := #[] }, { accessFlags := 25, nameIndex := 294, descriptorIndex := 25, attributes := #[] }])
  fields := #[{ name := "U", type := (.object "jdk/internal/misc/Unsafe"), accessFlags := 24, slot := 0, constantValue := 0 }, { name := "BIG_ENDIAN", type := .boolean, accessFlags := 26, slot := 1, constantValue := 0 }, { name := "LOG2_ARRAY_BOOLEAN_INDEX_SCALE", type := .int, accessFlags := 25, slot := 2, constantValue := 0 }, { name := "LOG2_ARRAY_BYTE_INDEX_SCALE", type := .int, accessFlags := 25, slot := 3, constantValue := 0 }, { name := "LOG2_ARRAY_CHAR_INDEX_SCALE", type := .int, accessFlags := 25, slot := 4, constantValue := 0 }, { name := "LOG2_ARRAY_SHORT_INDEX_SCALE", type := .int, accessFlags := 25, slot := 5, constantValue := 0 }, { name := "LOG2_ARRAY_INT_INDEX_SCALE", type := .int, accessFlags := 25, slot := 6, constantValue := 0 }, { name := "LOG2_ARRAY_LONG_INDEX_SCALE", type := .int, accessFlags := 25, slot := 7, constantValue := 0 }, { name := "LOG2_ARRAY_FLOAT_INDEX_SCALE", type := .int, accessFlags := 25, slot := 8, constantValue := 0 }, { name := "LOG2_ARRAY_DOUBLE_INDEX_SCALE", type := .int, accessFlags := 25, slot := 9, constantValue := 0 }, { name := "LOG2_BYTE_BIT_SIZE", type := .int, accessFlags := 26, slot := 10, constantValue := 0 }, { name := "T_BOOLEAN", type := .int, accessFlags := 25, slot := 11, constantValue := 0 }, { name := "T_CHAR", type := .int, accessFlags := 25, slot := 12, constantValue := 0 }, { name := "T_FLOAT", type := .int, accessFlags := 25, slot := 13, constantValue := 0 }, { name := "T_DOUBLE", type := .int, accessFlags := 25, slot := 14, constantValue := 0 }, { name := "T_BYTE", type := .int, accessFlags := 25, slot := 15, constantValue := 0 }, { name := "T_SHORT", type := .int, accessFlags := 25, slot := 16, constantValue := 0 }, { name := "T_INT", type := .int, accessFlags := 25, slot := 17, constantValue := 0 }, { name := "T_LONG", type := .int, accessFlags := 25, slot := 18, constantValue := 0 }, { name := "JLA", type := (.object "jdk/internal/access/JavaLangAccess"), accessFlags := 26, slot := 19, constantValue := 0 }, { name := "SOFT_MAX_ARRAY_LENGTH", type := .int, accessFlags := 25, slot := 20, constantValue := 0 }]
  methods := #[k29m0]
  instanceTypes := #[]
  staticTypes := #[(.object "jdk/internal/misc/Unsafe"), .boolean, .int, .int, .int, .int, .int, .int, .int, .int, .int, .int, .int, .int, .int, .int, .int, .int, .int, (.object "jdk/internal/access/JavaLangAccess"), .int]
  resolved := Array.replicate 378 none
  statics := none }

def pool30 : Array CpInfo := pool [(1, .class_ 2), (0, u "java/lang/Class"), (0, .class_ 4), (0, u "java/lang/Object")] 0

/-- java/lang/Class -/
def k30 : Class := { plain "java/lang/Class" (some 0) with
  accessFlags := 49
  interfaces := #[]
  cf := some (fileOf pool30 1 #[] #[] 49 3 #[] #[])
  fields := #[]
  methods := #[]
  instanceTypes := #[]
  staticTypes := #[]
  resolved := Array.replicate 5 none
  statics := none }

/-- the primitive byte -/
def k31 : Class := { plain "byte" none with kind := .primitive 'B', accessFlags := 0x411 }
/-- [B -/
def k32 : Class := { plain "[B" (some 0) with kind := .array 31 .byte, interfaces := #[10, 11], accessFlags := 1041 }

/-- the primitive char -/
def k33 : Class := { plain "char" none with kind := .primitive 'C', accessFlags := 0x411 }
/-- [C -/
def k34 : Class := { plain "[C" (some 0) with kind := .array 33 .char, interfaces := #[10, 11], accessFlags := 1041 }

/-- the primitive int -/
def k35 : Class := { plain "int" none with kind := .primitive 'I', accessFlags := 0x411 }
/-- [I -/
def k36 : Class := { plain "[I" (some 0) with kind := .array 35 .int, interfaces := #[10, 11], accessFlags := 1041 }

/-- [Ljava/lang/Integer; -/
def k37 : Class := { plain "[Ljava/lang/Integer;" (some 0) with kind := .array 17 (.object "java/lang/Integer"), interfaces := #[10, 11], accessFlags := 1041 }

/-- [Ljava/lang/Object; -/
def k38 : Class := { plain "[Ljava/lang/Object;" (some 0) with kind := .array 0 (.object "java/lang/Object"), interfaces := #[10, 11], accessFlags := 1041, mirror := some 4 }

def heap : Heap := #[{ cls := 12, slots := #[.long 0, .int 0, .ref 262, .ref 263], vm := .statics 12 },
  { cls := 18, slots := #[.int 0, .int 127, .ref 5, .null, .int 0], vm := .statics 18 },
  { cls := 22, slots := #[.long 0, .int 1, .null, .int 0, .null, .int 0, .int 0], vm := .statics 22 },
  { cls := 28, slots := #[.null, .null, .null], vm := .statics 28 },
  { cls := 30, slots := #[], vm := .mirror 38 },
  { cls := 37, slots := #[.ref 6, .ref 7, .ref 8, .ref 9, .ref 10, .ref 11, .ref 12, .ref 13, .ref 14, .ref 15, .ref 16, .ref 17, .ref 18, .ref 19, .ref 20, .ref 21, .ref 22, .ref 23, .ref 24, .ref 25, .ref 26, .ref 27, .ref 28, .ref 29, .ref 30, .ref 31, .ref 32, .ref 33, .ref 34, .ref 35, .ref 36, .ref 37, .ref 38, .ref 39, .ref 40, .ref 41, .ref 42, .ref 43, .ref 44, .ref 45, .ref 46, .ref 47, .ref 48, .ref 49, .ref 50, .ref 51, .ref 52, .ref 53, .ref 54, .ref 55, .ref 56, .ref 57, .ref 58, .ref 59, .ref 60, .ref 61, .ref 62, .ref 63, .ref 64, .ref 65, .ref 66, .ref 67, .ref 68, .ref 69, .ref 70, .ref 71, .ref 72, .ref 73, .ref 74, .ref 75, .ref 76, .ref 77, .ref 78, .ref 79, .ref 80, .ref 81, .ref 82, .ref 83, .ref 84, .ref 85, .ref 86, .ref 87, .ref 88, .ref 89, .ref 90, .ref 91, .ref 92, .ref 93, .ref 94, .ref 95, .ref 96, .ref 97, .ref 98, .ref 99, .ref 100, .ref 101, .ref 102, .ref 103, .ref 104, .ref 105, .ref 106, .ref 107, .ref 108, .ref 109, .ref 110, .ref 111, .ref 112, .ref 113, .ref 114, .ref 115, .ref 116, .ref 117, .ref 118, .ref 119, .ref 120, .ref 121, .ref 122, .ref 123, .ref 124, .ref 125, .ref 126, .ref 127, .ref 128, .ref 129, .ref 130, .ref 131, .ref 132, .ref 133, .ref 134, .ref 135, .ref 136, .ref 137, .ref 138, .ref 139, .ref 140, .ref 141, .ref 142, .ref 143, .ref 144, .ref 145, .ref 146, .ref 147, .ref 148, .ref 149, .ref 150, .ref 151, .ref 152, .ref 153, .ref 154, .ref 155, .ref 156, .ref 157, .ref 158, .ref 159, .ref 160, .ref 161, .ref 162, .ref 163, .ref 164, .ref 165, .ref 166, .ref 167, .ref 168, .ref 169, .ref 170, .ref 171, .ref 172, .ref 173, .ref 174, .ref 175, .ref 176, .ref 177, .ref 178, .ref 179, .ref 180, .ref 181, .ref 182, .ref 183, .ref 184, .ref 185, .ref 186, .ref 187, .ref 188, .ref 189, .ref 190, .ref 191, .ref 192, .ref 193, .ref 194, .ref 195, .ref 196, .ref 197, .ref 198, .ref 199, .ref 200, .ref 201, .ref 202, .ref 203, .ref 204, .ref 205, .ref 206, .ref 207, .ref 208, .ref 209, .ref 210, .ref 211, .ref 212, .ref 213, .ref 214, .ref 215, .ref 216, .ref 217, .ref 218, .ref 219, .ref 220, .ref 221, .ref 222, .ref 223, .ref 224, .ref 225, .ref 226, .ref 227, .ref 228, .ref 229, .ref 230, .ref 231, .ref 232, .ref 233, .ref 234, .ref 235, .ref 236, .ref 237, .ref 238, .ref 239, .ref 240, .ref 241, .ref 242, .ref 243, .ref 244, .ref 245, .ref 246, .ref 247, .ref 248, .ref 249, .ref 250, .ref 251, .ref 252, .ref 253, .ref 254, .ref 255, .ref 256, .ref 257, .ref 258, .ref 259, .ref 260, .ref 261], vm := .none },
  { cls := 17, slots := #[.int (-128)], vm := .none },
  { cls := 17, slots := #[.int (-127)], vm := .none },
  { cls := 17, slots := #[.int (-126)], vm := .none },
  { cls := 17, slots := #[.int (-125)], vm := .none },
  { cls := 17, slots := #[.int (-124)], vm := .none },
  { cls := 17, slots := #[.int (-123)], vm := .none },
  { cls := 17, slots := #[.int (-122)], vm := .none },
  { cls := 17, slots := #[.int (-121)], vm := .none },
  { cls := 17, slots := #[.int (-120)], vm := .none },
  { cls := 17, slots := #[.int (-119)], vm := .none },
  { cls := 17, slots := #[.int (-118)], vm := .none },
  { cls := 17, slots := #[.int (-117)], vm := .none },
  { cls := 17, slots := #[.int (-116)], vm := .none },
  { cls := 17, slots := #[.int (-115)], vm := .none },
  { cls := 17, slots := #[.int (-114)], vm := .none },
  { cls := 17, slots := #[.int (-113)], vm := .none },
  { cls := 17, slots := #[.int (-112)], vm := .none },
  { cls := 17, slots := #[.int (-111)], vm := .none },
  { cls := 17, slots := #[.int (-110)], vm := .none },
  { cls := 17, slots := #[.int (-109)], vm := .none },
  { cls := 17, slots := #[.int (-108)], vm := .none },
  { cls := 17, slots := #[.int (-107)], vm := .none },
  { cls := 17, slots := #[.int (-106)], vm := .none },
  { cls := 17, slots := #[.int (-105)], vm := .none },
  { cls := 17, slots := #[.int (-104)], vm := .none },
  { cls := 17, slots := #[.int (-103)], vm := .none },
  { cls := 17, slots := #[.int (-102)], vm := .none },
  { cls := 17, slots := #[.int (-101)], vm := .none },
  { cls := 17, slots := #[.int (-100)], vm := .none },
  { cls := 17, slots := #[.int (-99)], vm := .none },
  { cls := 17, slots := #[.int (-98)], vm := .none },
  { cls := 17, slots := #[.int (-97)], vm := .none },
  { cls := 17, slots := #[.int (-96)], vm := .none },
  { cls := 17, slots := #[.int (-95)], vm := .none },
  { cls := 17, slots := #[.int (-94)], vm := .none },
  { cls := 17, slots := #[.int (-93)], vm := .none },
  { cls := 17, slots := #[.int (-92)], vm := .none },
  { cls := 17, slots := #[.int (-91)], vm := .none },
  { cls := 17, slots := #[.int (-90)], vm := .none },
  { cls := 17, slots := #[.int (-89)], vm := .none },
  { cls := 17, slots := #[.int (-88)], vm := .none },
  { cls := 17, slots := #[.int (-87)], vm := .none },
  { cls := 17, slots := #[.int (-86)], vm := .none },
  { cls := 17, slots := #[.int (-85)], vm := .none },
  { cls := 17, slots := #[.int (-84)], vm := .none },
  { cls := 17, slots := #[.int (-83)], vm := .none },
  { cls := 17, slots := #[.int (-82)], vm := .none },
  { cls := 17, slots := #[.int (-81)], vm := .none },
  { cls := 17, slots := #[.int (-80)], vm := .none },
  { cls := 17, slots := #[.int (-79)], vm := .none },
  { cls := 17, slots := #[.int (-78)], vm := .none },
  { cls := 17, slots := #[.int (-77)], vm := .none },
  { cls := 17, slots := #[.int (-76)], vm := .none },
  { cls := 17, slots := #[.int (-75)], vm := .none },
  { cls := 17, slots := #[.int (-74)], vm := .none },
  { cls := 17, slots := #[.int (-73)], vm := .none },
  { cls := 17, slots := #[.int (-72)], vm := .none },
  { cls := 17, slots := #[.int (-71)], vm := .none },
  { cls := 17, slots := #[.int (-70)], vm := .none },
  { cls := 17, slots := #[.int (-69)], vm := .none },
  { cls := 17, slots := #[.int (-68)], vm := .none },
  { cls := 17, slots := #[.int (-67)], vm := .none },
  { cls := 17, slots := #[.int (-66)], vm := .none },
  { cls := 17, slots := #[.int (-65)], vm := .none },
  { cls := 17, slots := #[.int (-64)], vm := .none },
  { cls := 17, slots := #[.int (-63)], vm := .none },
  { cls := 17, slots := #[.int (-62)], vm := .none },
  { cls := 17, slots := #[.int (-61)], vm := .none },
  { cls := 17, slots := #[.int (-60)], vm := .none },
  { cls := 17, slots := #[.int (-59)], vm := .none },
  { cls := 17, slots := #[.int (-58)], vm := .none },
  { cls := 17, slots := #[.int (-57)], vm := .none },
  { cls := 17, slots := #[.int (-56)], vm := .none },
  { cls := 17, slots := #[.int (-55)], vm := .none },
  { cls := 17, slots := #[.int (-54)], vm := .none },
  { cls := 17, slots := #[.int (-53)], vm := .none },
  { cls := 17, slots := #[.int (-52)], vm := .none },
  { cls := 17, slots := #[.int (-51)], vm := .none },
  { cls := 17, slots := #[.int (-50)], vm := .none },
  { cls := 17, slots := #[.int (-49)], vm := .none },
  { cls := 17, slots := #[.int (-48)], vm := .none },
  { cls := 17, slots := #[.int (-47)], vm := .none },
  { cls := 17, slots := #[.int (-46)], vm := .none },
  { cls := 17, slots := #[.int (-45)], vm := .none },
  { cls := 17, slots := #[.int (-44)], vm := .none },
  { cls := 17, slots := #[.int (-43)], vm := .none },
  { cls := 17, slots := #[.int (-42)], vm := .none },
  { cls := 17, slots := #[.int (-41)], vm := .none },
  { cls := 17, slots := #[.int (-40)], vm := .none },
  { cls := 17, slots := #[.int (-39)], vm := .none },
  { cls := 17, slots := #[.int (-38)], vm := .none },
  { cls := 17, slots := #[.int (-37)], vm := .none },
  { cls := 17, slots := #[.int (-36)], vm := .none },
  { cls := 17, slots := #[.int (-35)], vm := .none },
  { cls := 17, slots := #[.int (-34)], vm := .none },
  { cls := 17, slots := #[.int (-33)], vm := .none },
  { cls := 17, slots := #[.int (-32)], vm := .none },
  { cls := 17, slots := #[.int (-31)], vm := .none },
  { cls := 17, slots := #[.int (-30)], vm := .none },
  { cls := 17, slots := #[.int (-29)], vm := .none },
  { cls := 17, slots := #[.int (-28)], vm := .none },
  { cls := 17, slots := #[.int (-27)], vm := .none },
  { cls := 17, slots := #[.int (-26)], vm := .none },
  { cls := 17, slots := #[.int (-25)], vm := .none },
  { cls := 17, slots := #[.int (-24)], vm := .none },
  { cls := 17, slots := #[.int (-23)], vm := .none },
  { cls := 17, slots := #[.int (-22)], vm := .none },
  { cls := 17, slots := #[.int (-21)], vm := .none },
  { cls := 17, slots := #[.int (-20)], vm := .none },
  { cls := 17, slots := #[.int (-19)], vm := .none },
  { cls := 17, slots := #[.int (-18)], vm := .none },
  { cls := 17, slots := #[.int (-17)], vm := .none },
  { cls := 17, slots := #[.int (-16)], vm := .none },
  { cls := 17, slots := #[.int (-15)], vm := .none },
  { cls := 17, slots := #[.int (-14)], vm := .none },
  { cls := 17, slots := #[.int (-13)], vm := .none },
  { cls := 17, slots := #[.int (-12)], vm := .none },
  { cls := 17, slots := #[.int (-11)], vm := .none },
  { cls := 17, slots := #[.int (-10)], vm := .none },
  { cls := 17, slots := #[.int (-9)], vm := .none },
  { cls := 17, slots := #[.int (-8)], vm := .none },
  { cls := 17, slots := #[.int (-7)], vm := .none },
  { cls := 17, slots := #[.int (-6)], vm := .none },
  { cls := 17, slots := #[.int (-5)], vm := .none },
  { cls := 17, slots := #[.int (-4)], vm := .none },
  { cls := 17, slots := #[.int (-3)], vm := .none },
  { cls := 17, slots := #[.int (-2)], vm := .none },
  { cls := 17, slots := #[.int (-1)], vm := .none },
  { cls := 17, slots := #[.int 0], vm := .none },
  { cls := 17, slots := #[.int 1], vm := .none },
  { cls := 17, slots := #[.int 2], vm := .none },
  { cls := 17, slots := #[.int 3], vm := .none },
  { cls := 17, slots := #[.int 4], vm := .none },
  { cls := 17, slots := #[.int 5], vm := .none },
  { cls := 17, slots := #[.int 6], vm := .none },
  { cls := 17, slots := #[.int 7], vm := .none },
  { cls := 17, slots := #[.int 8], vm := .none },
  { cls := 17, slots := #[.int 9], vm := .none },
  { cls := 17, slots := #[.int 10], vm := .none },
  { cls := 17, slots := #[.int 11], vm := .none },
  { cls := 17, slots := #[.int 12], vm := .none },
  { cls := 17, slots := #[.int 13], vm := .none },
  { cls := 17, slots := #[.int 14], vm := .none },
  { cls := 17, slots := #[.int 15], vm := .none },
  { cls := 17, slots := #[.int 16], vm := .none },
  { cls := 17, slots := #[.int 17], vm := .none },
  { cls := 17, slots := #[.int 18], vm := .none },
  { cls := 17, slots := #[.int 19], vm := .none },
  { cls := 17, slots := #[.int 20], vm := .none },
  { cls := 17, slots := #[.int 21], vm := .none },
  { cls := 17, slots := #[.int 22], vm := .none },
  { cls := 17, slots := #[.int 23], vm := .none },
  { cls := 17, slots := #[.int 24], vm := .none },
  { cls := 17, slots := #[.int 25], vm := .none },
  { cls := 17, slots := #[.int 26], vm := .none },
  { cls := 17, slots := #[.int 27], vm := .none },
  { cls := 17, slots := #[.int 28], vm := .none },
  { cls := 17, slots := #[.int 29], vm := .none },
  { cls := 17, slots := #[.int 30], vm := .none },
  { cls := 17, slots := #[.int 31], vm := .none },
  { cls := 17, slots := #[.int 32], vm := .none },
  { cls := 17, slots := #[.int 33], vm := .none },
  { cls := 17, slots := #[.int 34], vm := .none },
  { cls := 17, slots := #[.int 35], vm := .none },
  { cls := 17, slots := #[.int 36], vm := .none },
  { cls := 17, slots := #[.int 37], vm := .none },
  { cls := 17, slots := #[.int 38], vm := .none },
  { cls := 17, slots := #[.int 39], vm := .none },
  { cls := 17, slots := #[.int 40], vm := .none },
  { cls := 17, slots := #[.int 41], vm := .none },
  { cls := 17, slots := #[.int 42], vm := .none },
  { cls := 17, slots := #[.int 43], vm := .none },
  { cls := 17, slots := #[.int 44], vm := .none },
  { cls := 17, slots := #[.int 45], vm := .none },
  { cls := 17, slots := #[.int 46], vm := .none },
  { cls := 17, slots := #[.int 47], vm := .none },
  { cls := 17, slots := #[.int 48], vm := .none },
  { cls := 17, slots := #[.int 49], vm := .none },
  { cls := 17, slots := #[.int 50], vm := .none },
  { cls := 17, slots := #[.int 51], vm := .none },
  { cls := 17, slots := #[.int 52], vm := .none },
  { cls := 17, slots := #[.int 53], vm := .none },
  { cls := 17, slots := #[.int 54], vm := .none },
  { cls := 17, slots := #[.int 55], vm := .none },
  { cls := 17, slots := #[.int 56], vm := .none },
  { cls := 17, slots := #[.int 57], vm := .none },
  { cls := 17, slots := #[.int 58], vm := .none },
  { cls := 17, slots := #[.int 59], vm := .none },
  { cls := 17, slots := #[.int 60], vm := .none },
  { cls := 17, slots := #[.int 61], vm := .none },
  { cls := 17, slots := #[.int 62], vm := .none },
  { cls := 17, slots := #[.int 63], vm := .none },
  { cls := 17, slots := #[.int 64], vm := .none },
  { cls := 17, slots := #[.int 65], vm := .none },
  { cls := 17, slots := #[.int 66], vm := .none },
  { cls := 17, slots := #[.int 67], vm := .none },
  { cls := 17, slots := #[.int 68], vm := .none },
  { cls := 17, slots := #[.int 69], vm := .none },
  { cls := 17, slots := #[.int 70], vm := .none },
  { cls := 17, slots := #[.int 71], vm := .none },
  { cls := 17, slots := #[.int 72], vm := .none },
  { cls := 17, slots := #[.int 73], vm := .none },
  { cls := 17, slots := #[.int 74], vm := .none },
  { cls := 17, slots := #[.int 75], vm := .none },
  { cls := 17, slots := #[.int 76], vm := .none },
  { cls := 17, slots := #[.int 77], vm := .none },
  { cls := 17, slots := #[.int 78], vm := .none },
  { cls := 17, slots := #[.int 79], vm := .none },
  { cls := 17, slots := #[.int 80], vm := .none },
  { cls := 17, slots := #[.int 81], vm := .none },
  { cls := 17, slots := #[.int 82], vm := .none },
  { cls := 17, slots := #[.int 83], vm := .none },
  { cls := 17, slots := #[.int 84], vm := .none },
  { cls := 17, slots := #[.int 85], vm := .none },
  { cls := 17, slots := #[.int 86], vm := .none },
  { cls := 17, slots := #[.int 87], vm := .none },
  { cls := 17, slots := #[.int 88], vm := .none },
  { cls := 17, slots := #[.int 89], vm := .none },
  { cls := 17, slots := #[.int 90], vm := .none },
  { cls := 17, slots := #[.int 91], vm := .none },
  { cls := 17, slots := #[.int 92], vm := .none },
  { cls := 17, slots := #[.int 93], vm := .none },
  { cls := 17, slots := #[.int 94], vm := .none },
  { cls := 17, slots := #[.int 95], vm := .none },
  { cls := 17, slots := #[.int 96], vm := .none },
  { cls := 17, slots := #[.int 97], vm := .none },
  { cls := 17, slots := #[.int 98], vm := .none },
  { cls := 17, slots := #[.int 99], vm := .none },
  { cls := 17, slots := #[.int 100], vm := .none },
  { cls := 17, slots := #[.int 101], vm := .none },
  { cls := 17, slots := #[.int 102], vm := .none },
  { cls := 17, slots := #[.int 103], vm := .none },
  { cls := 17, slots := #[.int 104], vm := .none },
  { cls := 17, slots := #[.int 105], vm := .none },
  { cls := 17, slots := #[.int 106], vm := .none },
  { cls := 17, slots := #[.int 107], vm := .none },
  { cls := 17, slots := #[.int 108], vm := .none },
  { cls := 17, slots := #[.int 109], vm := .none },
  { cls := 17, slots := #[.int 110], vm := .none },
  { cls := 17, slots := #[.int 111], vm := .none },
  { cls := 17, slots := #[.int 112], vm := .none },
  { cls := 17, slots := #[.int 113], vm := .none },
  { cls := 17, slots := #[.int 114], vm := .none },
  { cls := 17, slots := #[.int 115], vm := .none },
  { cls := 17, slots := #[.int 116], vm := .none },
  { cls := 17, slots := #[.int 117], vm := .none },
  { cls := 17, slots := #[.int 118], vm := .none },
  { cls := 17, slots := #[.int 119], vm := .none },
  { cls := 17, slots := #[.int 120], vm := .none },
  { cls := 17, slots := #[.int 121], vm := .none },
  { cls := 17, slots := #[.int 122], vm := .none },
  { cls := 17, slots := #[.int 123], vm := .none },
  { cls := 17, slots := #[.int 124], vm := .none },
  { cls := 17, slots := #[.int 125], vm := .none },
  { cls := 17, slots := #[.int 126], vm := .none },
  { cls := 17, slots := #[.int 127], vm := .none },
  { cls := 38, slots := #[], vm := .none },
  { cls := 38, slots := #[], vm := .none }]
def classes : Array Class := #[k0, k1, k2, k3, k4, k5, k6, k7, k8, k9, k10, k11, k12, k13, k14, k15, k16, k17, k18, k19, k20, k21, k22, k23, k24, k25, k26, k27, k28, k29, k30, k31, k32, k33, k34, k35, k36, k37, k38]
def interned : List (Array UInt16 × Addr) := []
def slotsUsed : Nat := 531
def theMethod : MethodId := ⟨1, 1⟩
def args0 : Array Value := #[.int 5, .int 1]
def aboutOver (below : List Frame) : State where
  vm := { classes := classes, interned := interned.toArray }
  heap := heap
  slotsUsed := slotsUsed
  threads := #[{ frames := .invoking theMethod args0 :: below }]
def below0 : List Frame := [.native { method := ⟨0, 0⟩, args := #[] }]
def about1 : State := aboutOver below0
def p0 : Program := .bare "" "" ""
def e0 : Env := launch0.env 0 0 0
theorem w_frames : about1.frames = Frame.invoking theMethod args0 :: below0 := rfl
set_option maxRecDepth 65536 in
theorem w_args : argsFit about1.vm theMethod args0 = true := by decide +kernel
set_option maxRecDepth 65536 in
theorem w_heap : heapFits about1 = true := by decide +kernel
set_option maxRecDepth 65536 in
theorem w_runnable : about1.curStatus? = some .runnable := by decide +kernel
set_option maxRecDepth 65536 in
theorem w_alone : about1.alone = true := by decide +kernel
set_option maxRecDepth 65536 in
theorem w_named : about1.methodNamed? x = some theMethod := by decide +kernel
set_option maxRecDepth 65536 in
theorem w_hears : about1.hears theMethod below0 = true := by decide +kernel
set_option maxRecDepth 65536 in
theorem w_ripe : about1.ripe theMethod args0 below0 = true := by decide +kernel
theorem w_running : about1.status = .running := rfl
set_option maxRecDepth 65536 in
theorem w_room : about1.hasRoom e0.platform room_1 = true :=
  launch0.hasRoom_least _ room_1 (by decide +kernel) (by decide +kernel) (by decide +kernel) (by decide +kernel) (by decide +kernel) (by decide +kernel)
theorem allAtoms_all (ts : List Jvm.Cond) (a : Array Jvm.Value) (st : Jvm.State) : (allAtoms ts).before a st = ts.all (fun c => c.before a st) := by
  induction ts with
  | nil => rfl
  | cons c t ih =>
    show (Jvm.Cond.and c (allAtoms t)).before a st = _
    rw [Jvm.Cond.before_and, ih, List.all_cons]
def words1 : List Jvm.Cond := Jvm.Cond.code x code maxLocals ret :: tables_1
/-- a 'code' word, met by the world's own term for the bytes: nothing is compared byte by byte -/
theorem code_word {y : MethodName} {bytes : ByteArray} {mx : Nat} {rt : Option FieldType} {a : Array Value} {s : State} {m : MethodId} {meth : Method} {c : Code} (h1 : s.methodNamed? y = some m) (h2 : s.vm.method? m = some meth) (h3 : meth.code = some c) (h4 : c.code = bytes)
    (h5 : (c.maxLocals == mx && c.exceptionTable.isEmpty && decide (c.maxStack ≤ mostOperands) && decide (meth.sig.returnType = rt) && !meth.locks && decide (parseMethodDescriptor y.desc = some meth.sig)) = true) : (Jvm.Cond.code y bytes mx rt).before a s = true := by
  simp only [Bool.and_eq_true, beq_iff_eq, Bool.not_eq_true', decide_eq_true_eq] at h5
  obtain ⟨⟨⟨⟨⟨g1, g2⟩, g3⟩, g4⟩, g5⟩, g6⟩ := h5
  simp [Cond.before, Cond.holds, Cond.value, h1, h2, h3, h4, g1, g2, g3, g4, g5, g6]
def isCode : Jvm.Cond → Bool
  | .code _ _ _ _ => true
  | _ => false
theorem all_split {L : List Jvm.Cond} {P : Jvm.Cond → Bool} (h1 : L.all (fun c => isCode c || P c) = true) (h2 : ∀ c ∈ L.filter isCode, P c = true) : L.all P = true := by
  refine List.all_eq_true.mpr fun c hc => ?_
  have h := List.all_eq_true.mp h1 c hc
  rcases Bool.eq_false_or_eq_true (isCode c) with hi | hi
  · exact h2 c (List.mem_filter.mpr ⟨hc, hi⟩)
  · simpa [hi] using h
set_option maxRecDepth 65536 in
theorem w_c0 : (Jvm.Cond.code x code maxLocals ret).before args0 about1 = true := code_word (m := ⟨1, 1⟩) (meth := k1m1) (c := k1c1) (by decide +kernel) rfl rfl rfl (by decide +kernel)
set_option maxRecDepth 65536 in
theorem w_c1 : (Jvm.Cond.code ({ cls := "com/example/sealer/sealer/Promise", name := "<init>", desc := "()V" } : Jvm.MethodName) prog_29_method_1_code (1 : Nat) (Option.none : Option Jvm.ClassFile.FieldType)).before args0 about1 = true := code_word (m := ⟨2, 0⟩) (meth := k2m0) (c := k2c0) (by decide +kernel) rfl rfl rfl (by decide +kernel)
set_option maxRecDepth 65536 in
theorem w_c2 : (Jvm.Cond.code ({ cls := "java/lang/Object", name := "<init>", desc := "()V" } : Jvm.MethodName) object_method_1_code (1 : Nat) (Option.none : Option Jvm.ClassFile.FieldType)).before args0 about1 = true := code_word (m := ⟨0, 0⟩) (meth := k0m0) (c := k0c0) (by decide +kernel) rfl rfl rfl (by decide +kernel)
set_option maxRecDepth 65536 in
theorem w_c3 : (Jvm.Cond.code ({ cls := "java/util/ArrayList", name := "<init>", desc := "()V" } : Jvm.MethodName) jdk_38_method_2_code (1 : Nat) (Option.none : Option Jvm.ClassFile.FieldType)).before args0 about1 = true := code_word (m := ⟨12, 0⟩) (meth := k12m0) (c := k12c0) (by decide +kernel) rfl rfl rfl (by decide +kernel)
set_option maxRecDepth 65536 in
theorem w_c4 : (Jvm.Cond.code ({ cls := "java/util/AbstractList", name := "<init>", desc := "()V" } : Jvm.MethodName) jdk_39_method_1_code (1 : Nat) (Option.none : Option Jvm.ClassFile.FieldType)).before args0 about1 = true := code_word (m := ⟨8, 0⟩) (meth := k8m0) (c := k8c0) (by decide +kernel) rfl rfl rfl (by decide +kernel)
set_option maxRecDepth 65536 in
theorem w_c5 : (Jvm.Cond.code ({ cls := "java/util/AbstractCollection", name := "<init>", desc := "()V" } : Jvm.MethodName) jdk_22_method_1_code (1 : Nat) (Option.none : Option Jvm.ClassFile.FieldType)).before args0 about1 = true := code_word (m := ⟨5, 0⟩) (meth := k5m0) (c := k5c0) (by decide +kernel) rfl rfl rfl (by decide +kernel)
set_option maxRecDepth 65536 in
theorem w_c6 : (Jvm.Cond.code ({ cls := "java/lang/Integer", name := "valueOf", desc := "(I)Ljava/lang/Integer;" } : Jvm.MethodName) jdk_33_method_22_code (1 : Nat) (Option.some (Jvm.ClassFile.FieldType.object "java/lang/Integer"))).before args0 about1 = true := code_word (m := ⟨17, 0⟩) (meth := k17m0) (c := k17c0) (by decide +kernel) rfl rfl rfl (by decide +kernel)
set_option maxRecDepth 65536 in
theorem w_c7 : (Jvm.Cond.code ({ cls := "com/example/sealer/sealer/Promise", name := "resolve", desc := "(Ljava/lang/Object;)V" } : Jvm.MethodName) prog_29_method_3_code (6 : Nat) (Option.none : Option Jvm.ClassFile.FieldType)).before args0 about1 = true := code_word (m := ⟨2, 1⟩) (meth := k2m1) (c := k2c1) (by decide +kernel) rfl rfl rfl (by decide +kernel)
set_option maxRecDepth 65536 in
theorem w_c8 : (Jvm.Cond.code ({ cls := "com/example/sealer/sealer/Promise", name := "resolution", desc := "(Ljava/lang/Object;)Ljava/lang/Object;" } : Jvm.MethodName) prog_29_method_4_code (3 : Nat) (Option.some (Jvm.ClassFile.FieldType.object "java/lang/Object"))).before args0 about1 = true := code_word (m := ⟨2, 2⟩) (meth := k2m2) (c := k2c2) (by decide +kernel) rfl rfl rfl (by decide +kernel)
set_option maxRecDepth 65536 in
theorem w_c9 : (Jvm.Cond.code ({ cls := "java/util/ArrayList", name := "iterator", desc := "()Ljava/util/Iterator;" } : Jvm.MethodName) jdk_38_method_55_code (1 : Nat) (Option.some (Jvm.ClassFile.FieldType.object "java/util/Iterator"))).before args0 about1 = true := code_word (m := ⟨12, 3⟩) (meth := k12m3) (c := k12c3) (by decide +kernel) rfl rfl rfl (by decide +kernel)
set_option maxRecDepth 65536 in
theorem w_c10 : (Jvm.Cond.code ({ cls := "java/util/ArrayList$Itr", name := "<init>", desc := "(Ljava/util/ArrayList;)V" } : Jvm.MethodName) jdk_49_method_1_code (2 : Nat) (Option.none : Option Jvm.ClassFile.FieldType)).before args0 about1 = true := code_word (m := ⟨20, 0⟩) (meth := k20m0) (c := k20c0) (by decide +kernel) rfl rfl rfl (by decide +kernel)
set_option maxRecDepth 65536 in
theorem w_c11 : (Jvm.Cond.code ({ cls := "java/util/ArrayList$Itr", name := "hasNext", desc := "()Z" } : Jvm.MethodName) jdk_49_method_2_code (1 : Nat) (Option.some Jvm.ClassFile.FieldType.boolean)).before args0 about1 = true := code_word (m := ⟨20, 1⟩) (meth := k20m1) (c := k20c1) (by decide +kernel) rfl rfl rfl (by decide +kernel)
set_option maxRecDepth 65536 in
theorem w_c12 : (Jvm.Cond.code ({ cls := "java/lang/Integer", name := "<init>", desc := "(I)V" } : Jvm.MethodName) jdk_33_method_23_code (2 : Nat) (Option.none : Option Jvm.ClassFile.FieldType)).before args0 about1 = true := code_word (m := ⟨17, 1⟩) (meth := k17m1) (c := k17c1) (by decide +kernel) rfl rfl rfl (by decide +kernel)
set_option maxRecDepth 65536 in
theorem w_c13 : (Jvm.Cond.code ({ cls := "java/lang/Number", name := "<init>", desc := "()V" } : Jvm.MethodName) jdk_18_method_1_code (1 : Nat) (Option.none : Option Jvm.ClassFile.FieldType)).before args0 about1 = true := code_word (m := ⟨13, 0⟩) (meth := k13m0) (c := k13c0) (by decide +kernel) rfl rfl rfl (by decide +kernel)
set_option maxRecDepth 65536 in
theorem w_c14 : (Jvm.Cond.code ({ cls := "java/lang/String", name := "<init>", desc := "([C)V" } : Jvm.MethodName) jdk_42_method_3_code (2 : Nat) (Option.none : Option Jvm.ClassFile.FieldType)).before args0 about1 = true := code_word (m := ⟨22, 1⟩) (meth := k22m1) (c := k22c1) (by decide +kernel) rfl rfl rfl (by decide +kernel)
set_option maxRecDepth 65536 in
theorem w_c15 : (Jvm.Cond.code ({ cls := "java/lang/String", name := "<init>", desc := "([CIILjava/lang/Void;)V" } : Jvm.MethodName) jdk_42_method_149_code (6 : Nat) (Option.none : Option Jvm.ClassFile.FieldType)).before args0 about1 = true := code_word (m := ⟨22, 2⟩) (meth := k22m2) (c := k22c2) (by decide +kernel) rfl rfl rfl (by decide +kernel)
set_option maxRecDepth 65536 in
theorem w_c16 : (Jvm.Cond.code ({ cls := "java/lang/StringUTF16", name := "compress", desc := "([CII)[B" } : Jvm.MethodName) jdk_52_method_16_code (6 : Nat) (Option.some (Jvm.ClassFile.FieldType.array Jvm.ClassFile.FieldType.byte))).before args0 about1 = true := code_word (m := ⟨23, 2⟩) (meth := k23m2) (c := k23c2) (by decide +kernel) rfl rfl rfl (by decide +kernel)
set_option maxRecDepth 65536 in
theorem w_c17 : (Jvm.Cond.code ({ cls := "java/lang/StringUTF16", name := "compress", desc := "([CI[BII)I" } : Jvm.MethodName) jdk_52_method_21_code (7 : Nat) (Option.some Jvm.ClassFile.FieldType.int)).before args0 about1 = true := code_word (m := ⟨23, 3⟩) (meth := k23m3) (c := k23c3) (by decide +kernel) rfl rfl rfl (by decide +kernel)
set_option maxRecDepth 65536 in
theorem w_c18 : (Jvm.Cond.code ({ cls := "java/lang/StringUTF16", name := "coderFromArrayLen", desc := "([BI)B" } : Jvm.MethodName) jdk_52_method_15_code (2 : Nat) (Option.some Jvm.ClassFile.FieldType.byte)).before args0 about1 = true := code_word (m := ⟨23, 1⟩) (meth := k23m1) (c := k23c1) (by decide +kernel) rfl rfl rfl (by decide +kernel)
set_option maxRecDepth 65536 in
theorem w_c19 : (Jvm.Cond.code ({ cls := "java/util/ArrayList", name := "addAll", desc := "(Ljava/util/Collection;)Z" } : Jvm.MethodName) jdk_38_method_41_code (6 : Nat) (Option.some Jvm.ClassFile.FieldType.boolean)).before args0 about1 = true := code_word (m := ⟨12, 2⟩) (meth := k12m2) (c := k12c2) (by decide +kernel) rfl rfl rfl (by decide +kernel)
set_option maxRecDepth 65536 in
theorem w_c20 : (Jvm.Cond.code ({ cls := "java/util/ArrayList", name := "toArray", desc := "()[Ljava/lang/Object;" } : Jvm.MethodName) jdk_38_method_16_code (1 : Nat) (Option.some (Jvm.ClassFile.FieldType.array (Jvm.ClassFile.FieldType.object "java/lang/Object")))).before args0 about1 = true := code_word (m := ⟨12, 1⟩) (meth := k12m1) (c := k12c1) (by decide +kernel) rfl rfl rfl (by decide +kernel)
set_option maxRecDepth 65536 in
theorem w_c21 : (Jvm.Cond.code ({ cls := "java/util/Arrays", name := "copyOf", desc := "([Ljava/lang/Object;I)[Ljava/lang/Object;" } : Jvm.MethodName) jdk_65_method_119_code (2 : Nat) (Option.some (Jvm.ClassFile.FieldType.array (Jvm.ClassFile.FieldType.object "java/lang/Object")))).before args0 about1 = true := code_word (m := ⟨24, 1⟩) (meth := k24m1) (c := k24c1) (by decide +kernel) rfl rfl rfl (by decide +kernel)
set_option maxRecDepth 65536 in
theorem w_c22 : (Jvm.Cond.code ({ cls := "java/util/Arrays", name := "copyOf", desc := "([Ljava/lang/Object;ILjava/lang/Class;)[Ljava/lang/Object;" } : Jvm.MethodName) jdk_65_method_120_code (4 : Nat) (Option.some (Jvm.ClassFile.FieldType.array (Jvm.ClassFile.FieldType.object "java/lang/Object")))).before args0 about1 = true := code_word (m := ⟨24, 2⟩) (meth := k24m2) (c := k24c2) (by decide +kernel) rfl rfl rfl (by decide +kernel)
set_option maxRecDepth 65536 in
theorem w_c23 : (Jvm.Cond.code ({ cls := "java/lang/Math", name := "min", desc := "(II)I" } : Jvm.MethodName) jdk_29_method_69_code (2 : Nat) (Option.some Jvm.ClassFile.FieldType.int)).before args0 about1 = true := code_word (m := ⟨25, 1⟩) (meth := k25m1) (c := k25c1) (by decide +kernel) rfl rfl rfl (by decide +kernel)
def codes1 : List Jvm.Cond := [Jvm.Cond.code x code maxLocals ret, Jvm.Cond.code ({ cls := "com/example/sealer/sealer/Promise", name := "<init>", desc := "()V" } : Jvm.MethodName) prog_29_method_1_code (1 : Nat) (Option.none : Option Jvm.ClassFile.FieldType), Jvm.Cond.code ({ cls := "java/lang/Object", name := "<init>", desc := "()V" } : Jvm.MethodName) object_method_1_code (1 : Nat) (Option.none : Option Jvm.ClassFile.FieldType), Jvm.Cond.code ({ cls := "java/util/ArrayList", name := "<init>", desc := "()V" } : Jvm.MethodName) jdk_38_method_2_code (1 : Nat) (Option.none : Option Jvm.ClassFile.FieldType), Jvm.Cond.code ({ cls := "java/util/AbstractList", name := "<init>", desc := "()V" } : Jvm.MethodName) jdk_39_method_1_code (1 : Nat) (Option.none : Option Jvm.ClassFile.FieldType), Jvm.Cond.code ({ cls := "java/util/AbstractCollection", name := "<init>", desc := "()V" } : Jvm.MethodName) jdk_22_method_1_code (1 : Nat) (Option.none : Option Jvm.ClassFile.FieldType), Jvm.Cond.code ({ cls := "java/lang/Integer", name := "valueOf", desc := "(I)Ljava/lang/Integer;" } : Jvm.MethodName) jdk_33_method_22_code (1 : Nat) (Option.some (Jvm.ClassFile.FieldType.object "java/lang/Integer")), Jvm.Cond.code ({ cls := "com/example/sealer/sealer/Promise", name := "resolve", desc := "(Ljava/lang/Object;)V" } : Jvm.MethodName) prog_29_method_3_code (6 : Nat) (Option.none : Option Jvm.ClassFile.FieldType), Jvm.Cond.code ({ cls := "com/example/sealer/sealer/Promise", name := "resolution", desc := "(Ljava/lang/Object;)Ljava/lang/Object;" } : Jvm.MethodName) prog_29_method_4_code (3 : Nat) (Option.some (Jvm.ClassFile.FieldType.object "java/lang/Object")), Jvm.Cond.code ({ cls := "java/util/ArrayList", name := "iterator", desc := "()Ljava/util/Iterator;" } : Jvm.MethodName) jdk_38_method_55_code (1 : Nat) (Option.some (Jvm.ClassFile.FieldType.object "java/util/Iterator")), Jvm.Cond.code ({ cls := "java/util/ArrayList$Itr", name := "<init>", desc := "(Ljava/util/ArrayList;)V" } : Jvm.MethodName) jdk_49_method_1_code (2 : Nat) (Option.none : Option Jvm.ClassFile.FieldType), Jvm.Cond.code ({ cls := "java/util/ArrayList$Itr", name := "hasNext", desc := "()Z" } : Jvm.MethodName) jdk_49_method_2_code (1 : Nat) (Option.some Jvm.ClassFile.FieldType.boolean), Jvm.Cond.code ({ cls := "java/lang/Integer", name := "<init>", desc := "(I)V" } : Jvm.MethodName) jdk_33_method_23_code (2 : Nat) (Option.none : Option Jvm.ClassFile.FieldType), Jvm.Cond.code ({ cls := "java/lang/Number", name := "<init>", desc := "()V" } : Jvm.MethodName) jdk_18_method_1_code (1 : Nat) (Option.none : Option Jvm.ClassFile.FieldType), Jvm.Cond.code ({ cls := "java/lang/String", name := "<init>", desc := "([C)V" } : Jvm.MethodName) jdk_42_method_3_code (2 : Nat) (Option.none : Option Jvm.ClassFile.FieldType), Jvm.Cond.code ({ cls := "java/lang/String", name := "<init>", desc := "([CIILjava/lang/Void;)V" } : Jvm.MethodName) jdk_42_method_149_code (6 : Nat) (Option.none : Option Jvm.ClassFile.FieldType), Jvm.Cond.code ({ cls := "java/lang/StringUTF16", name := "compress", desc := "([CII)[B" } : Jvm.MethodName) jdk_52_method_16_code (6 : Nat) (Option.some (Jvm.ClassFile.FieldType.array Jvm.ClassFile.FieldType.byte)), Jvm.Cond.code ({ cls := "java/lang/StringUTF16", name := "compress", desc := "([CI[BII)I" } : Jvm.MethodName) jdk_52_method_21_code (7 : Nat) (Option.some Jvm.ClassFile.FieldType.int), Jvm.Cond.code ({ cls := "java/lang/StringUTF16", name := "coderFromArrayLen", desc := "([BI)B" } : Jvm.MethodName) jdk_52_method_15_code (2 : Nat) (Option.some Jvm.ClassFile.FieldType.byte), Jvm.Cond.code ({ cls := "java/util/ArrayList", name := "addAll", desc := "(Ljava/util/Collection;)Z" } : Jvm.MethodName) jdk_38_method_41_code (6 : Nat) (Option.some Jvm.ClassFile.FieldType.boolean), Jvm.Cond.code ({ cls := "java/util/ArrayList", name := "toArray", desc := "()[Ljava/lang/Object;" } : Jvm.MethodName) jdk_38_method_16_code (1 : Nat) (Option.some (Jvm.ClassFile.FieldType.array (Jvm.ClassFile.FieldType.object "java/lang/Object"))), Jvm.Cond.code ({ cls := "java/util/Arrays", name := "copyOf", desc := "([Ljava/lang/Object;I)[Ljava/lang/Object;" } : Jvm.MethodName) jdk_65_method_119_code (2 : Nat) (Option.some (Jvm.ClassFile.FieldType.array (Jvm.ClassFile.FieldType.object "java/lang/Object"))), Jvm.Cond.code ({ cls := "java/util/Arrays", name := "copyOf", desc := "([Ljava/lang/Object;ILjava/lang/Class;)[Ljava/lang/Object;" } : Jvm.MethodName) jdk_65_method_120_code (4 : Nat) (Option.some (Jvm.ClassFile.FieldType.array (Jvm.ClassFile.FieldType.object "java/lang/Object"))), Jvm.Cond.code ({ cls := "java/lang/Math", name := "min", desc := "(II)I" } : Jvm.MethodName) jdk_29_method_69_code (2 : Nat) (Option.some Jvm.ClassFile.FieldType.int)]
set_option maxRecDepth 65536 in
theorem codes_eq : words1.filter isCode = codes1 := rfl
theorem w_codes : ∀ c ∈ words1.filter isCode, c.before args0 about1 = true := by
  rw [codes_eq]
  intro c hc
  simp only [codes1, List.mem_cons, List.not_mem_nil, or_false] at hc
  rcases hc with rfl | rfl | rfl | rfl | rfl | rfl | rfl | rfl | rfl | rfl | rfl | rfl | rfl | rfl | rfl | rfl | rfl | rfl | rfl | rfl | rfl | rfl | rfl | rfl
  · exact w_c0
  · exact w_c1
  · exact w_c2
  · exact w_c3
  · exact w_c4
  · exact w_c5
  · exact w_c6
  · exact w_c7
  · exact w_c8
  · exact w_c9
  · exact w_c10
  · exact w_c11
  · exact w_c12
  · exact w_c13
  · exact w_c14
  · exact w_c15
  · exact w_c16
  · exact w_c17
  · exact w_c18
  · exact w_c19
  · exact w_c20
  · exact w_c21
  · exact w_c22
  · exact w_c23
set_option maxRecDepth 65536 in
theorem w_t1 : (words1.take 24).all (fun c => isCode c || c.before args0 about1) = true := by decide +kernel
set_option maxRecDepth 65536 in
theorem w_t2 : ((words1.drop 24).take 24).all (fun c => isCode c || c.before args0 about1) = true := by decide +kernel
set_option maxRecDepth 65536 in
theorem w_t3 : (((words1.drop 24).drop 24).take 24).all (fun c => isCode c || c.before args0 about1) = true := by decide +kernel
set_option maxRecDepth 65536 in
theorem w_t4 : ((((words1.drop 24).drop 24).drop 24).take 24).all (fun c => isCode c || c.before args0 about1) = true := by decide +kernel
set_option maxRecDepth 65536 in
theorem w_t5 : (((((words1.drop 24).drop 24).drop 24).drop 24).take 24).all (fun c => isCode c || c.before args0 about1) = true := by decide +kernel
set_option maxRecDepth 65536 in
theorem w_t6 : ((((((words1.drop 24).drop 24).drop 24).drop 24).drop 24).take 24).all (fun c => isCode c || c.before args0 about1) = true := by decide +kernel
set_option maxRecDepth 65536 in
theorem w_t7 : (((((((words1.drop 24).drop 24).drop 24).drop 24).drop 24).drop 24).take 24).all (fun c => isCode c || c.before args0 about1) = true := by decide +kernel
set_option maxRecDepth 65536 in
theorem w_t8 : (((((((words1.drop 24).drop 24).drop 24).drop 24).drop 24).drop 24).drop 24).all (fun c => isCode c || c.before args0 about1) = true := by decide +kernel
theorem w_tables : (allAtoms (Jvm.Cond.code x code maxLocals ret :: tables_1)).before args0 about1 = true := by
  rw [allAtoms_all]
  show words1.all (fun c => c.before args0 about1) = true
  refine all_split ?_ w_codes
  rw [← List.take_append_drop 24 words1, List.all_append, w_t1, ← List.take_append_drop 24 (words1.drop 24), List.all_append, w_t2, ← List.take_append_drop 24 ((words1.drop 24).drop 24), List.all_append, w_t3, ← List.take_append_drop 24 (((words1.drop 24).drop 24).drop 24), List.all_append, w_t4, ← List.take_append_drop 24 ((((words1.drop 24).drop 24).drop 24).drop 24), List.all_append, w_t5, ← List.take_append_drop 24 (((((words1.drop 24).drop 24).drop 24).drop 24).drop 24), List.all_append, w_t6, ← List.take_append_drop 24 ((((((words1.drop 24).drop 24).drop 24).drop 24).drop 24).drop 24), List.all_append, w_t7, w_t8]
  rfl
set_option maxRecDepth 65536 in
theorem w_rest : rest_1_c.before args0 about1 = true := by decide +kernel
set_option maxRecDepth 65536 in
theorem w_case : (Jvm.Cond.and given_1 narrow_1).before args0 about1 = true := by decide +kernel
theorem w_applies : (headSpec (Jvm.Cond.code x code maxLocals ret :: tables_1) room_1).applies x e0.platform about1 = true :=
  (Spec.applies_iff w_frames).mpr ⟨w_running, w_runnable, w_alone, w_named, w_hears, w_ripe, w_room, w_tables⟩
set_option maxRecDepth 65536 in
theorem atStart : AtStart classFile x code maxLocals ret World_1 tables_1 room_1 Calls_1 rest_1 Pre_1 launch0 p0 e0 about1 theMethod args0 below0 :=
  ⟨lists_1, trivial, launch0.admits_env _ _ _, launch0.least_env, fairChoices_fair.cas, fairChoices_fair.clock, w_frames, w_args, w_heap, w_applies, ⟨⟨38, k38, 4, by decide +kernel, rfl, rfl, _, rfl, rfl⟩, trivial⟩, w_rest, w_case⟩
end start1
theorem witness_1 : WitnessClaimed_1 := ⟨start1.p0, start1.e0, start1.about1, start1.theMethod, start1.args0, start1.below0, start1.atStart⟩
end Jvm.Pilot.@@N@@
