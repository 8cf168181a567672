import JvmDerived
import JvmDerived.Pilot.@@N@@Statement
import JvmDerived.Pilot.@@N@@Code
set_option linter.unusedVariables false
set_option linter.unusedSimpArgs false
namespace Jvm.OwnK
open Jvm Sem ClassFile Op Lib Jvm.Stand Jvm.Free Jvm.LawKit Jvm.RoadKit Bundle
/-- where a walk stands: pc, locals, stack, heap, cells and slots made so far -/
abbrev Kt := Nat → Array Slot → List Value → Heap → Nat → Nat → Prop
/-- what a body leaves: the value that it returns, the heap -/
abbrev Qt := Option Value → Heap → Prop
/-- a body's end, as its contract asks it -/
def Out (p : Program) (e : Env) (below : List Frame) (s s1 : State) (f0 : JFrame) (R : Room) (n0 : Nat) (Q : Qt) : Prop :=
  ∃ s2 o, Steps p.tables e below (s1.setTop f0) s2 ∧ s2.status = .running ∧ Ended s2 below o ∧ ∃ v L, o = .returned v ∧ (Q v s2.heap ∧ Fr n0 L) ∧ FrameEnd s o s2 L R.cells R.slots
/-- what doesn't change along a walk, and what K and O mean -/
def Ctx (l : Launch) (R : Room) (n0 : Nat) (Z : State) (own : String) (bytes : ByteArray) (ml : Nat) (nm : String) (rt : Option FieldType) (Q : Qt) (K : Kt) (O : Prop) : Prop :=
  ∃ (p : Program) (e : Env) (s : State) (m : MethodId) (args : Array Value) (below : List Frame) (meth : Method) (c : Code) (s1 : State) (f0 : JFrame),
    p.tables.exec = Jvm.exec ∧ c.code = bytes ∧ Z.Warmed39 s.vm ∧ s.vm.findClass own = some m.cls ∧ c.maxLocals = ml ∧ meth.name = nm ∧ meth.sig.returnType = rt ∧ meth.locks = false ∧
    (∀ pc L S h cl sl, K pc L S h cl sl ↔ ∃ T locs, Stand p l e R s m args below meth c T locs cl sl ∧ T.heap = h ∧ Fr n0 locs ∧ ∀ t, Steps p.tables e below (T.setTop (mkF m pc L S)) t → Steps p.tables e below (s1.setTop f0) t) ∧
    (Out p e below s s1 f0 R n0 Q → O)
/-- a body's contract -/
def Con (l : Launch) (y : MethodName) (bytes : ByteArray) (ml : Nat) (rt : Option FieldType) (rm : Room) (Z : State) (as : Array Value) (h : Heap) (n0 : Nat) (Q : Qt) : Prop :=
  ∀ ws : List Jvm.Cond, MetFree l y (head1 (Jvm.Cond.code y bytes ml rt :: ws) rm) (fun a U => a = as ∧ Z.Warmed39 U.vm ∧ U.heap = h) (fun _ _ _ _ _ => True) (fun _ U o U' => ∃ v L, o = .returned v ∧ (Q v U'.heap ∧ Fr n0 L) ∧ FrameEnd U o U' L rm.cells rm.slots)
theorem Con.mono {l : Launch} {y : MethodName} {bytes : ByteArray} {ml : Nat} {rt : Option FieldType} {rm : Room} {Z : State} {as : Array Value} {h : Heap} {n0 : Nat} {Q Q' : Qt} (K : Con l y bytes ml rt rm Z as h n0 Q) (q : ∀ v h', Q v h' → Q' v h') : Con l y bytes ml rt rm Z as h n0 Q' := by
  intro ws p e ha hc hk s m args below hf happ hP hK
  obtain ⟨n, o, h1, h2, h3, v, L, h4, ⟨h5, h6⟩, h7⟩ := K ws p e ha hc hk s m args below hf happ hP hK
  exact ⟨n, o, h1, h2, h3, v, L, h4, ⟨q _ _ h5, h6⟩, h7⟩
theorem Con.enter {l : Launch} {y : MethodName} {bytes : ByteArray} {ml : Nat} {rt : Option FieldType} {rm : Room} {Z : State} {as : Array Value} {h : Heap} {n0 : Nat} {Q : Qt} {L0 : Array Slot} (hpl : plainFor y = true) (hef : ∀ m, entryFrame m as ml = mkF m 0 L0 [])
    (hb : ∀ (K : Kt) (O : Prop), Ctx l rm n0 Z y.cls bytes ml y.name rt Q K O → K 0 L0 [] h 0 0 → O) : Con l y bytes ml rt rm Z as h n0 Q := by
  intro ws
  refine MetFree.of_bodySF hpl hisR ?_
  intro p e s m args below meth c s1 Bd hml0 hP hK
  obtain ⟨rfl, hZ, hh⟩ := hP
  have X0 : Stand p l e rm s m args below meth c s1 [] 0 0 := Stand.of_body Bd
  have e0 : s1.heap = h := by rw [← hh, Bd.state]; rfl
  exact hb (fun pc L S h cl sl => ∃ T locs, Stand p l e rm s m args below meth c T locs cl sl ∧ T.heap = h ∧ Fr n0 locs ∧ ∀ t, Steps p.tables e below (T.setTop (mkF m pc L S)) t → Steps p.tables e below (s1.setTop (entryFrame m args ml)) t)
    (Out p e below s s1 (entryFrame m args ml) rm n0 Q)
    ⟨p, e, s, m, args, below, meth, c, s1, entryFrame m args ml, Bd.exec, Bd.bytes, hZ, findClass_of_methodNamed Bd.named, hml0, (name_of_methodNamed Bd.named Bd.method).1, Bd.returns, Bd.notSynchronized, fun _ _ _ _ _ _ => Iff.rfl, id⟩
    ⟨s1, [], X0, e0, Fr.nil n0, fun t k => castTop (hef m) k⟩
section Steps
variable {l : Launch} {R : Room} {n0 : Nat} {Z : State} {own : String} {bytes : ByteArray} {ml : Nat} {nm : String} {rt : Option FieldType} {Q : Qt} {K : Kt} {O : Prop} {a0 : Array Value} {pc : Nat} {L : Array Slot} {S rest : List Value} {h : Heap} {cl sl : Nat} {pc' : Nat}
theorem Ctx.pure (C : Ctx l R n0 Z own bytes ml nm rt Q K O) (H : K pc L S h cl sl) {L' : Array Slot} {S' : List Value}
    (f : ∀ (p : Program) (e : Env) (s : State) (m : MethodId) (args : Array Value) (below : List Frame) (meth : Method) (c : Code) (T : State) (locs : List Loc), Stand p l e R s m args below meth c T locs cl sl → p.tables.exec = Jvm.exec → c.code = bytes → Z.Warmed39 s.vm → s.vm.findClass own = some m.cls → T.heap = h →
      ∀ t, Steps p.tables e below (T.setTop (mkF m pc' L' S')) t → Steps p.tables e below (T.setTop (mkF m pc L S)) t) : K pc' L' S' h cl sl := by
  obtain ⟨p, e, s, m, args, below, meth, c, s1, f0, hx, hby, hZ, hown, hml, hnm, hrt, hlk, hK, hO⟩ := C
  obtain ⟨T, locs, X, eT, N, st⟩ := (hK _ _ _ _ _ _).mp H
  exact (hK _ _ _ _ _ _).mpr ⟨T, locs, X, eT, N, fun t k => st t (f p e s m args below meth c T locs X hx hby hZ hown eT t k)⟩
/-- a step that may note something in the tables -/
theorem Ctx.note (C : Ctx l R n0 Z own bytes ml nm rt Q K O) (H : K pc L S h cl sl) {L' : Array Slot} {S' : List Value}
    (f : ∀ (p : Program) (e : Env) (s : State) (m : MethodId) (args : Array Value) (below : List Frame) (meth : Method) (c : Code) (T : State) (locs : List Loc), Stand p l e R s m args below meth c T locs cl sl → p.tables.exec = Jvm.exec → c.code = bytes → Z.Warmed39 s.vm → s.vm.findClass own = some m.cls → c.maxLocals = ml → T.heap = h →
      ∃ T', Stand p l e R s m args below meth c T' locs cl sl ∧ T'.heap = h ∧ ∀ t, Steps p.tables e below (T'.setTop (mkF m pc' L' S')) t → Steps p.tables e below (T.setTop (mkF m pc L S)) t) : K pc' L' S' h cl sl := by
  obtain ⟨p, e, s, m, args, below, meth, c, s1, f0, hx, hby, hZ, hown, hml, hnm, hrt, hlk, hK, hO⟩ := C
  obtain ⟨T, locs, X, eT, N, st⟩ := (hK _ _ _ _ _ _).mp H
  obtain ⟨T', X', eT', st'⟩ := f p e s m args below meth c T locs X hx hby hZ hown hml eT
  exact (hK _ _ _ _ _ _).mpr ⟨T', locs, X', eT', N, fun t k => st t (st' t k)⟩

theorem k_iloadN (C : Ctx l R n0 Z own bytes ml nm rt Q K O) {k : Fin 4} {v : Int32} (H : K pc L (S) h cl sl) (d : decode bytes pc = .ok (.iload_n k, 1)) (hl : L[k.val]? = some (.val (.int v))) (hp : pc + 1 = pc') : K pc' L ((.int v) :: S) h cl sl := by
  subst hp
  exact C.pure H fun p e s m args below meth c T locs X hx hby _ _ _ t k => XS.iloadN X.here hx rfl (hb hby d) hl k
theorem k_iload (C : Ctx l R n0 Z own bytes ml nm rt Q K O) {k : Nat} {v : Int32} (H : K pc L (S) h cl sl) (d : decode bytes pc = .ok (.iload k, 2)) (hl : L[k]? = some (.val (.int v))) (hp : pc + 2 = pc') : K pc' L ((.int v) :: S) h cl sl := by
  subst hp
  exact C.pure H fun p e s m args below meth c T locs X hx hby _ _ _ t k => XS.iload X.here hx rfl (hb hby d) hl k
theorem k_lloadN (C : Ctx l R n0 Z own bytes ml nm rt Q K O) {k : Fin 4} {v : Int64} (H : K pc L (S) h cl sl) (d : decode bytes pc = .ok (.lload_n k, 1)) (hl : L[k.val]? = some (.val (.long v))) (hp : pc + 1 = pc') : K pc' L ((.long v) :: S) h cl sl := by
  subst hp
  exact C.pure H fun p e s m args below meth c T locs X hx hby _ _ _ t k => XS.lloadN X.here hx rfl (hb hby d) hl k
theorem k_lload (C : Ctx l R n0 Z own bytes ml nm rt Q K O) {k : Nat} {v : Int64} (H : K pc L (S) h cl sl) (d : decode bytes pc = .ok (.lload k, 2)) (hl : L[k]? = some (.val (.long v))) (hp : pc + 2 = pc') : K pc' L ((.long v) :: S) h cl sl := by
  subst hp
  exact C.pure H fun p e s m args below meth c T locs X hx hby _ _ _ t k => XS.lload X.here hx rfl (hb hby d) hl k
theorem k_aloadN (C : Ctx l R n0 Z own bytes ml nm rt Q K O) {k : Fin 4} {v : Value} (H : K pc L (S) h cl sl) (d : decode bytes pc = .ok (.aload_n k, 1)) (hl : L[k.val]? = some (.val v)) (hv : v.isRef = true) (hp : pc + 1 = pc') : K pc' L (v :: S) h cl sl := by
  subst hp
  exact C.pure H fun p e s m args below meth c T locs X hx hby _ _ _ t k => XS.aloadN X.here hx rfl (hb hby d) hl hv k
theorem k_aload (C : Ctx l R n0 Z own bytes ml nm rt Q K O) {k : Nat} {v : Value} (H : K pc L (S) h cl sl) (d : decode bytes pc = .ok (.aload k, 2)) (hl : L[k]? = some (.val v)) (hv : v.isRef = true) (hp : pc + 2 = pc') : K pc' L (v :: S) h cl sl := by
  subst hp
  exact C.pure H fun p e s m args below meth c T locs X hx hby _ _ _ t k => XS.aload X.here hx rfl (hb hby d) hl hv k
theorem k_istoreN (C : Ctx l R n0 Z own bytes ml nm rt Q K O) {k : Fin 4} {v : Int32} {L' : Array Slot} (H : K pc L ((.int v) :: rest) h cl sl) (d : decode bytes pc = .ok (.istore_n k, 1)) (hl : storeLocals L k.val (.int v) = some L') (hp : pc + 1 = pc') : K pc' L' (rest) h cl sl := by
  subst hp
  exact C.pure H fun p e s m args below meth c T locs X hx hby _ _ _ t k => XS.istoreN X.here hx rfl (hb hby d) rfl hl k
theorem k_istore (C : Ctx l R n0 Z own bytes ml nm rt Q K O) {k : Nat} {v : Int32} {L' : Array Slot} (H : K pc L ((.int v) :: rest) h cl sl) (d : decode bytes pc = .ok (.istore k, 2)) (hl : storeLocals L k (.int v) = some L') (hp : pc + 2 = pc') : K pc' L' (rest) h cl sl := by
  subst hp
  exact C.pure H fun p e s m args below meth c T locs X hx hby _ _ _ t k => XS.istore X.here hx rfl (hb hby d) rfl hl k
theorem k_lstoreN (C : Ctx l R n0 Z own bytes ml nm rt Q K O) {k : Fin 4} {v : Int64} {L' : Array Slot} (H : K pc L ((.long v) :: rest) h cl sl) (d : decode bytes pc = .ok (.lstore_n k, 1)) (hl : storeLocals L k.val (.long v) = some L') (hp : pc + 1 = pc') : K pc' L' (rest) h cl sl := by
  subst hp
  exact C.pure H fun p e s m args below meth c T locs X hx hby _ _ _ t k => XS.lstoreN X.here hx rfl (hb hby d) rfl hl k
theorem k_lstore (C : Ctx l R n0 Z own bytes ml nm rt Q K O) {k : Nat} {v : Int64} {L' : Array Slot} (H : K pc L ((.long v) :: rest) h cl sl) (d : decode bytes pc = .ok (.lstore k, 2)) (hl : storeLocals L k (.long v) = some L') (hp : pc + 2 = pc') : K pc' L' (rest) h cl sl := by
  subst hp
  exact C.pure H fun p e s m args below meth c T locs X hx hby _ _ _ t k => XS.lstore X.here hx rfl (hb hby d) rfl hl k
theorem k_astoreN (C : Ctx l R n0 Z own bytes ml nm rt Q K O) {k : Fin 4} {v : Value} {L' : Array Slot} (H : K pc L (v :: rest) h cl sl) (d : decode bytes pc = .ok (.astore_n k, 1)) (hv : v.isRef = true) (hl : storeLocals L k.val v = some L') (hp : pc + 1 = pc') : K pc' L' (rest) h cl sl := by
  subst hp
  exact C.pure H fun p e s m args below meth c T locs X hx hby _ _ _ t k => XS.astoreN X.here hx rfl (hb hby d) rfl hv hl k
theorem k_astore (C : Ctx l R n0 Z own bytes ml nm rt Q K O) {k : Nat} {v : Value} {L' : Array Slot} (H : K pc L (v :: rest) h cl sl) (d : decode bytes pc = .ok (.astore k, 2)) (hv : v.isRef = true) (hl : storeLocals L k v = some L') (hp : pc + 2 = pc') : K pc' L' (rest) h cl sl := by
  subst hp
  exact C.pure H fun p e s m args below meth c T locs X hx hby _ _ _ t k => XS.astore X.here hx rfl (hb hby d) rfl hv hl k
theorem k_iconst (C : Ctx l R n0 Z own bytes ml nm rt Q K O) {i : Int} {v : Int32} (H : K pc L (S) h cl sl) (d : decode bytes pc = .ok (.iconst i, 1)) (hv : Int32.ofInt i = v) (hp : pc + 1 = pc') : K pc' L (.int v :: S) h cl sl := by
  subst hp
  exact C.pure H fun p e s m args below meth c T locs X hx hby _ _ _ t k => XS.iconst X.here hx rfl (hb hby d) (by rw [hv]; exact k)
theorem k_bipush (C : Ctx l R n0 Z own bytes ml nm rt Q K O) {i : Int} {v : Int32} (H : K pc L (S) h cl sl) (d : decode bytes pc = .ok (.bipush i, 2)) (hv : (Int8.ofInt i).toInt32 = v) (hp : pc + 2 = pc') : K pc' L (.int v :: S) h cl sl := by
  subst hp
  exact C.pure H fun p e s m args below meth c T locs X hx hby _ _ _ t k => XS.bipush X.here hx rfl (hb hby d) (by rw [hv]; exact k)
theorem k_sipush (C : Ctx l R n0 Z own bytes ml nm rt Q K O) {i : Int} {v : Int32} (H : K pc L (S) h cl sl) (d : decode bytes pc = .ok (.sipush i, 3)) (hv : (Int16.ofInt i).toInt32 = v) (hp : pc + 3 = pc') : K pc' L (.int v :: S) h cl sl := by
  subst hp
  exact C.pure H fun p e s m args below meth c T locs X hx hby _ _ _ t k => XS.sipush X.here hx rfl (hb hby d) (by rw [hv]; exact k)
theorem k_lconst (C : Ctx l R n0 Z own bytes ml nm rt Q K O) {i : Fin 2} {v : Int64} (H : K pc L (S) h cl sl) (d : decode bytes pc = .ok (.lconst i, 1)) (hv : Int64.ofNat i = v) (hp : pc + 1 = pc') : K pc' L (.long v :: S) h cl sl := by
  subst hp
  exact C.pure H fun p e s m args below meth c T locs X hx hby _ _ _ t k => XS.lconst X.here hx rfl (hb hby d) (by rw [hv]; exact k)
theorem k_anull (C : Ctx l R n0 Z own bytes ml nm rt Q K O)  (H : K pc L (S) h cl sl) (d : decode bytes pc = .ok (.aconst_null, 1))  (hp : pc + 1 = pc') : K pc' L (.null :: S) h cl sl := by
  subst hp
  exact C.pure H fun p e s m args below meth c T locs X hx hby _ _ _ t k => XS.aconstNull X.here hx rfl (hb hby d) k
theorem k_iadd (C : Ctx l R n0 Z own bytes ml nm rt Q K O) {x y : Int32} (H : K pc L (.int y :: .int x :: rest) h cl sl) (d : decode bytes pc = .ok (.iadd, 1))  (hp : pc + 1 = pc') : K pc' L (.int (x + y) :: rest) h cl sl := by
  subst hp
  exact C.pure H fun p e s m args below meth c T locs X hx hby _ _ _ t k => XS.iadd X.here hx rfl (hb hby d) rfl k
theorem k_isub (C : Ctx l R n0 Z own bytes ml nm rt Q K O) {x y : Int32} (H : K pc L (.int y :: .int x :: rest) h cl sl) (d : decode bytes pc = .ok (.isub, 1))  (hp : pc + 1 = pc') : K pc' L (.int (x - y) :: rest) h cl sl := by
  subst hp
  exact C.pure H fun p e s m args below meth c T locs X hx hby _ _ _ t k => XS.isub X.here hx rfl (hb hby d) rfl k
theorem k_imul (C : Ctx l R n0 Z own bytes ml nm rt Q K O) {x y : Int32} (H : K pc L (.int y :: .int x :: rest) h cl sl) (d : decode bytes pc = .ok (.imul, 1))  (hp : pc + 1 = pc') : K pc' L (.int (x * y) :: rest) h cl sl := by
  subst hp
  exact C.pure H fun p e s m args below meth c T locs X hx hby _ _ _ t k => XS.imul X.here hx rfl (hb hby d) rfl k
theorem k_iand (C : Ctx l R n0 Z own bytes ml nm rt Q K O) {x y : Int32} (H : K pc L (.int y :: .int x :: rest) h cl sl) (d : decode bytes pc = .ok (.iand, 1))  (hp : pc + 1 = pc') : K pc' L (.int (x &&& y) :: rest) h cl sl := by
  subst hp
  exact C.pure H fun p e s m args below meth c T locs X hx hby _ _ _ t k => XS.iand X.here hx rfl (hb hby d) rfl k
theorem k_ior (C : Ctx l R n0 Z own bytes ml nm rt Q K O) {x y : Int32} (H : K pc L (.int y :: .int x :: rest) h cl sl) (d : decode bytes pc = .ok (.ior, 1))  (hp : pc + 1 = pc') : K pc' L (.int (x ||| y) :: rest) h cl sl := by
  subst hp
  exact C.pure H fun p e s m args below meth c T locs X hx hby _ _ _ t k => XS.ior X.here hx rfl (hb hby d) rfl k
theorem k_ixor (C : Ctx l R n0 Z own bytes ml nm rt Q K O) {x y : Int32} (H : K pc L (.int y :: .int x :: rest) h cl sl) (d : decode bytes pc = .ok (.ixor, 1))  (hp : pc + 1 = pc') : K pc' L (.int (x ^^^ y) :: rest) h cl sl := by
  subst hp
  exact C.pure H fun p e s m args below meth c T locs X hx hby _ _ _ t k => XS.ixor X.here hx rfl (hb hby d) rfl k
theorem k_ishl (C : Ctx l R n0 Z own bytes ml nm rt Q K O) {x y : Int32} (H : K pc L (.int y :: .int x :: rest) h cl sl) (d : decode bytes pc = .ok (.ishl, 1))  (hp : pc + 1 = pc') : K pc' L (.int (x <<< (y &&& 31)) :: rest) h cl sl := by
  subst hp
  exact C.pure H fun p e s m args below meth c T locs X hx hby _ _ _ t k => XS.ishl X.here hx rfl (hb hby d) rfl k
theorem k_ishr (C : Ctx l R n0 Z own bytes ml nm rt Q K O) {x y : Int32} (H : K pc L (.int y :: .int x :: rest) h cl sl) (d : decode bytes pc = .ok (.ishr, 1))  (hp : pc + 1 = pc') : K pc' L (.int (x >>> (y &&& 31)) :: rest) h cl sl := by
  subst hp
  exact C.pure H fun p e s m args below meth c T locs X hx hby _ _ _ t k => XS.ishr X.here hx rfl (hb hby d) rfl k
theorem k_iushr (C : Ctx l R n0 Z own bytes ml nm rt Q K O) {x y : Int32} (H : K pc L (.int y :: .int x :: rest) h cl sl) (d : decode bytes pc = .ok (.iushr, 1))  (hp : pc + 1 = pc') : K pc' L (.int ((x.toUInt32 >>> (y &&& 31).toUInt32).toInt32) :: rest) h cl sl := by
  subst hp
  exact C.pure H fun p e s m args below meth c T locs X hx hby _ _ _ t k => XS.iushr X.here hx rfl (hb hby d) rfl k
theorem k_ladd (C : Ctx l R n0 Z own bytes ml nm rt Q K O) {x y : Int64} (H : K pc L (.long y :: .long x :: rest) h cl sl) (d : decode bytes pc = .ok (.ladd, 1))  (hp : pc + 1 = pc') : K pc' L (.long (x + y) :: rest) h cl sl := by
  subst hp
  exact C.pure H fun p e s m args below meth c T locs X hx hby _ _ _ t k => XS.ladd X.here hx rfl (hb hby d) rfl k
theorem k_lsub (C : Ctx l R n0 Z own bytes ml nm rt Q K O) {x y : Int64} (H : K pc L (.long y :: .long x :: rest) h cl sl) (d : decode bytes pc = .ok (.lsub, 1))  (hp : pc + 1 = pc') : K pc' L (.long (x - y) :: rest) h cl sl := by
  subst hp
  exact C.pure H fun p e s m args below meth c T locs X hx hby _ _ _ t k => XS.lsub X.here hx rfl (hb hby d) rfl k
theorem k_lmul (C : Ctx l R n0 Z own bytes ml nm rt Q K O) {x y : Int64} (H : K pc L (.long y :: .long x :: rest) h cl sl) (d : decode bytes pc = .ok (.lmul, 1))  (hp : pc + 1 = pc') : K pc' L (.long (x * y) :: rest) h cl sl := by
  subst hp
  exact C.pure H fun p e s m args below meth c T locs X hx hby _ _ _ t k => XS.lmul X.here hx rfl (hb hby d) rfl k
theorem k_land (C : Ctx l R n0 Z own bytes ml nm rt Q K O) {x y : Int64} (H : K pc L (.long y :: .long x :: rest) h cl sl) (d : decode bytes pc = .ok (.land, 1))  (hp : pc + 1 = pc') : K pc' L (.long (x &&& y) :: rest) h cl sl := by
  subst hp
  exact C.pure H fun p e s m args below meth c T locs X hx hby _ _ _ t k => XS.land X.here hx rfl (hb hby d) rfl k
theorem k_lor (C : Ctx l R n0 Z own bytes ml nm rt Q K O) {x y : Int64} (H : K pc L (.long y :: .long x :: rest) h cl sl) (d : decode bytes pc = .ok (.lor, 1))  (hp : pc + 1 = pc') : K pc' L (.long (x ||| y) :: rest) h cl sl := by
  subst hp
  exact C.pure H fun p e s m args below meth c T locs X hx hby _ _ _ t k => XS.lor X.here hx rfl (hb hby d) rfl k
theorem k_lxor (C : Ctx l R n0 Z own bytes ml nm rt Q K O) {x y : Int64} (H : K pc L (.long y :: .long x :: rest) h cl sl) (d : decode bytes pc = .ok (.lxor, 1))  (hp : pc + 1 = pc') : K pc' L (.long (x ^^^ y) :: rest) h cl sl := by
  subst hp
  exact C.pure H fun p e s m args below meth c T locs X hx hby _ _ _ t k => XS.lxor X.here hx rfl (hb hby d) rfl k
theorem k_lshl (C : Ctx l R n0 Z own bytes ml nm rt Q K O) {x : Int64} {y : Int32} (H : K pc L (.int y :: .long x :: rest) h cl sl) (d : decode bytes pc = .ok (.lshl, 1))  (hp : pc + 1 = pc') : K pc' L (.long (x <<< (y &&& 0x3f).toInt64) :: rest) h cl sl := by
  subst hp
  exact C.pure H fun p e s m args below meth c T locs X hx hby _ _ _ t k => XS.lshl X.here hx rfl (hb hby d) rfl k
theorem k_lshr (C : Ctx l R n0 Z own bytes ml nm rt Q K O) {x : Int64} {y : Int32} (H : K pc L (.int y :: .long x :: rest) h cl sl) (d : decode bytes pc = .ok (.lshr, 1))  (hp : pc + 1 = pc') : K pc' L (.long (x >>> (y &&& 0x3f).toInt64) :: rest) h cl sl := by
  subst hp
  exact C.pure H fun p e s m args below meth c T locs X hx hby _ _ _ t k => XS.lshr X.here hx rfl (hb hby d) rfl k
theorem k_lushr (C : Ctx l R n0 Z own bytes ml nm rt Q K O) {x : Int64} {y : Int32} (H : K pc L (.int y :: .long x :: rest) h cl sl) (d : decode bytes pc = .ok (.lushr, 1))  (hp : pc + 1 = pc') : K pc' L (.long ((x.toUInt64 >>> (y &&& 0x3f).toInt64.toUInt64).toInt64) :: rest) h cl sl := by
  subst hp
  exact C.pure H fun p e s m args below meth c T locs X hx hby _ _ _ t k => XS.lushr X.here hx rfl (hb hby d) rfl k
theorem k_lcmp (C : Ctx l R n0 Z own bytes ml nm rt Q K O) {x y : Int64} (H : K pc L (.long y :: .long x :: rest) h cl sl) (d : decode bytes pc = .ok (.lcmp, 1))  (hp : pc + 1 = pc') : K pc' L (.int (lcmpW x y) :: rest) h cl sl := by
  subst hp
  exact C.pure H fun p e s m args below meth c T locs X hx hby _ _ _ t k => XS.lcmp X.here hx rfl (hb hby d) rfl k
theorem k_ineg (C : Ctx l R n0 Z own bytes ml nm rt Q K O) {x : Int32} (H : K pc L (.int x :: rest) h cl sl) (d : decode bytes pc = .ok (.ineg, 1))  (hp : pc + 1 = pc') : K pc' L (.int (-x) :: rest) h cl sl := by
  subst hp
  exact C.pure H fun p e s m args below meth c T locs X hx hby _ _ _ t k => XS.ineg X.here hx rfl (hb hby d) rfl k
theorem k_idiv (C : Ctx l R n0 Z own bytes ml nm rt Q K O) {x y : Int32} (H : K pc L (.int y :: .int x :: rest) h cl sl) (d : decode bytes pc = .ok (.idiv, 1)) (hy : y ≠ 0) (hp : pc + 1 = pc') : K pc' L (.int (x / y) :: rest) h cl sl := by
  subst hp
  exact C.pure H fun p e s m args below meth c T locs X hx hby _ _ _ t k => XS.idiv X.here hx rfl (hb hby d) rfl hy k
theorem k_irem (C : Ctx l R n0 Z own bytes ml nm rt Q K O) {x y : Int32} (H : K pc L (.int y :: .int x :: rest) h cl sl) (d : decode bytes pc = .ok (.irem, 1)) (hy : y ≠ 0) (hp : pc + 1 = pc') : K pc' L (.int (x % y) :: rest) h cl sl := by
  subst hp
  exact C.pure H fun p e s m args below meth c T locs X hx hby _ _ _ t k => iremM X hx rfl (hb hby d) rfl hy k
theorem k_ldiv (C : Ctx l R n0 Z own bytes ml nm rt Q K O) {x y : Int64} (H : K pc L (.long y :: .long x :: rest) h cl sl) (d : decode bytes pc = .ok (.ldiv, 1)) (hy : y ≠ 0) (hp : pc + 1 = pc') : K pc' L (.long (x / y) :: rest) h cl sl := by
  subst hp
  exact C.pure H fun p e s m args below meth c T locs X hx hby _ _ _ t k => XS.ldiv X.here hx rfl (hb hby d) rfl hy k
theorem k_i2l (C : Ctx l R n0 Z own bytes ml nm rt Q K O) {x : Int32} (H : K pc L (.int x :: rest) h cl sl) (d : decode bytes pc = .ok (.i2l, 1))  (hp : pc + 1 = pc') : K pc' L (.long (x.toInt64) :: rest) h cl sl := by
  subst hp
  exact C.pure H fun p e s m args below meth c T locs X hx hby _ _ _ t k => XS.i2l X.here hx rfl (hb hby d) rfl k
theorem k_l2i (C : Ctx l R n0 Z own bytes ml nm rt Q K O) {x : Int64} (H : K pc L (.long x :: rest) h cl sl) (d : decode bytes pc = .ok (.l2i, 1))  (hp : pc + 1 = pc') : K pc' L (.int (x.toInt32) :: rest) h cl sl := by
  subst hp
  exact C.pure H fun p e s m args below meth c T locs X hx hby _ _ _ t k => XS.l2i X.here hx rfl (hb hby d) rfl k
theorem k_i2b (C : Ctx l R n0 Z own bytes ml nm rt Q K O) {x : Int32} (H : K pc L (.int x :: rest) h cl sl) (d : decode bytes pc = .ok (.i2b, 1))  (hp : pc + 1 = pc') : K pc' L (.int (x.toInt8.toInt32) :: rest) h cl sl := by
  subst hp
  exact C.pure H fun p e s m args below meth c T locs X hx hby _ _ _ t k => XS.i2b X.here hx rfl (hb hby d) rfl k
theorem k_i2c (C : Ctx l R n0 Z own bytes ml nm rt Q K O) {x : Int32} (H : K pc L (.int x :: rest) h cl sl) (d : decode bytes pc = .ok (.i2c, 1))  (hp : pc + 1 = pc') : K pc' L (.int (x.toUInt32.toUInt16.toUInt32.toInt32) :: rest) h cl sl := by
  subst hp
  exact C.pure H fun p e s m args below meth c T locs X hx hby _ _ _ t k => XS.i2c X.here hx rfl (hb hby d) rfl k
theorem k_i2s (C : Ctx l R n0 Z own bytes ml nm rt Q K O) {x : Int32} (H : K pc L (.int x :: rest) h cl sl) (d : decode bytes pc = .ok (.i2s, 1))  (hp : pc + 1 = pc') : K pc' L (.int (x.toInt16.toInt32) :: rest) h cl sl := by
  subst hp
  exact C.pure H fun p e s m args below meth c T locs X hx hby _ _ _ t k => XS.i2s X.here hx rfl (hb hby d) rfl k
theorem k_dup (C : Ctx l R n0 Z own bytes ml nm rt Q K O) {x : Value} (H : K pc L (x :: rest) h cl sl) (d : decode bytes pc = .ok (.dup, 1)) (hc : x.category = 1) (hp : pc + 1 = pc') : K pc' L (x :: x :: rest) h cl sl := by
  subst hp
  exact C.pure H fun p e s m args below meth c T locs X hx hby _ _ _ t k => XS.dup X.here hx rfl (hb hby d) rfl hc k
theorem k_pop (C : Ctx l R n0 Z own bytes ml nm rt Q K O) {x : Value} (H : K pc L (x :: rest) h cl sl) (d : decode bytes pc = .ok (.pop, 1)) (hc : x.category = 1) (hp : pc + 1 = pc') : K pc' L (rest) h cl sl := by
  subst hp
  exact C.pure H fun p e s m args below meth c T locs X hx hby _ _ _ t k => XS.pop X.here hx rfl (hb hby d) rfl hc k
theorem k_dupX1 (C : Ctx l R n0 Z own bytes ml nm rt Q K O) {x y : Value} (H : K pc L (x :: y :: rest) h cl sl) (d : decode bytes pc = .ok (.dup_x1, 1)) (hc : x.category = 1) (hc' : y.category = 1) (hp : pc + 1 = pc') : K pc' L (x :: y :: x :: rest) h cl sl := by
  subst hp
  exact C.pure H fun p e s m args below meth c T locs X hx hby _ _ _ t k => XS.dupX1 X.here hx rfl (hb hby d) rfl hc hc' k
theorem k_dup2 (C : Ctx l R n0 Z own bytes ml nm rt Q K O) {x y : Value} (H : K pc L (x :: y :: rest) h cl sl) (d : decode bytes pc = .ok (.dup2, 1)) (hc : x.category = 1) (hc' : y.category = 1) (hp : pc + 1 = pc') : K pc' L (x :: y :: x :: y :: rest) h cl sl := by
  subst hp
  exact C.pure H fun p e s m args below meth c T locs X hx hby _ _ _ t k => Jvm.Free.XT.dup2 X.here hx rfl (hb hby d) rfl hc hc' k
theorem k_iinc (C : Ctx l R n0 Z own bytes ml nm rt Q K O) {k : Nat} {i : Int} {x y : Int32} {L' : Array Slot} (H : K pc L (S) h cl sl) (d : decode bytes pc = .ok (.iinc k i, 3)) (hl : L[k]? = some (.val (.int x))) (hv : x + Int32.ofInt i = y) (hl' : storeLocals L k (.int y) = some L') (hp : pc + 3 = pc') : K pc' L' (S) h cl sl := by
  subst hp
  exact C.pure H fun p e s m args below meth c T locs X hx hby _ _ _ t k => XS.iinc X.here hx rfl (hb hby d) hl (by rw [hv]; exact hl') k
theorem k_ifcY (C : Ctx l R n0 Z own bytes ml nm rt Q K O) {cd : ClassFile.Cond} {o : Int} {x : Int32} (H : K pc L (.int x :: rest) h cl sl) (d : decode bytes pc = .ok (.ifCond cd o, 3)) (hc : if_icmp.holds cd x 0 = true) (ho : 0 ≤ (pc : Int) + o) (hp : ((pc : Int) + o).toNat = pc') : K pc' L rest h cl sl :=
  C.pure H fun p e s m args below meth c T locs X hx hby _ _ _ t k => XS.ifYes X.here hx rfl (pc0 := pc) rfl (hb hby d) rfl ((if0 _ _).trans hc) ho hp k
theorem k_ifcN (C : Ctx l R n0 Z own bytes ml nm rt Q K O) {cd : ClassFile.Cond} {o : Int} {x : Int32} (H : K pc L (.int x :: rest) h cl sl) (d : decode bytes pc = .ok (.ifCond cd o, 3)) (hc : if_icmp.holds cd x 0 = false) (hp : pc + 3 = pc') : K pc' L rest h cl sl := by
  subst hp
  exact C.pure H fun p e s m args below meth c T locs X hx hby _ _ _ t k => XS.ifNo X.here hx rfl (hb hby d) rfl ((if0 _ _).trans hc) k
theorem k_icmpY (C : Ctx l R n0 Z own bytes ml nm rt Q K O) {cd : ClassFile.Cond} {o : Int} {x y : Int32} (H : K pc L (.int y :: .int x :: rest) h cl sl) (d : decode bytes pc = .ok (.if_icmp cd o, 3)) (hc : if_icmp.holds cd x y = true) (ho : 0 ≤ (pc : Int) + o) (hp : ((pc : Int) + o).toNat = pc') : K pc' L rest h cl sl :=
  C.pure H fun p e s m args below meth c T locs X hx hby _ _ _ t k => XS.icmpYes X.here hx rfl (pc0 := pc) rfl (hb hby d) rfl hc ho hp k
theorem k_icmpN (C : Ctx l R n0 Z own bytes ml nm rt Q K O) {cd : ClassFile.Cond} {o : Int} {x y : Int32} (H : K pc L (.int y :: .int x :: rest) h cl sl) (d : decode bytes pc = .ok (.if_icmp cd o, 3)) (hc : if_icmp.holds cd x y = false) (hp : pc + 3 = pc') : K pc' L rest h cl sl := by
  subst hp
  exact C.pure H fun p e s m args below meth c T locs X hx hby _ _ _ t k => XS.icmpNo X.here hx rfl (hb hby d) rfl hc k
theorem k_goto (C : Ctx l R n0 Z own bytes ml nm rt Q K O) (H : K pc L S h cl sl) {o : Int} (d : decode bytes pc = .ok (.goto o, 3)) (ho : 0 ≤ (pc : Int) + o) (hp : ((pc : Int) + o).toNat = pc') : K pc' L S h cl sl :=
  C.pure H fun p e s m args below meth c T locs X hx hby _ _ _ t k => XS.goto X.here hx rfl (pc0 := pc) rfl (hb hby d) ho hp k
theorem k_ifnullY (C : Ctx l R n0 Z own bytes ml nm rt Q K O) (H : K pc L (.null :: rest) h cl sl) {o : Int} (d : decode bytes pc = .ok (.ifnull o, 3)) (ho : 0 ≤ (pc : Int) + o) (hp : ((pc : Int) + o).toNat = pc') : K pc' L rest h cl sl :=
  C.pure H fun p e s m args below meth c T locs X hx hby _ _ _ t k => XS.ifnullYes X.here hx rfl (pc0 := pc) rfl (hb hby d) rfl ho hp k
theorem k_ifnullN (C : Ctx l R n0 Z own bytes ml nm rt Q K O) {b : Addr} (H : K pc L (.ref b :: rest) h cl sl) {o : Int} (d : decode bytes pc = .ok (.ifnull o, 3)) (hp : pc + 3 = pc') : K pc' L rest h cl sl := by
  subst hp
  exact C.pure H fun p e s m args below meth c T locs X hx hby _ _ _ t k => XS.ifnullNo X.here hx rfl (hb hby d) rfl k
theorem k_ifnonnullY (C : Ctx l R n0 Z own bytes ml nm rt Q K O) {b : Addr} (H : K pc L (.ref b :: rest) h cl sl) {o : Int} (d : decode bytes pc = .ok (.ifnonnull o, 3)) (ho : 0 ≤ (pc : Int) + o) (hp : ((pc : Int) + o).toNat = pc') : K pc' L rest h cl sl :=
  C.pure H fun p e s m args below meth c T locs X hx hby _ _ _ t k => XS.ifnonnullYes X.here hx rfl (pc0 := pc) rfl (hb hby d) rfl ho hp k
theorem k_ifnonnullN (C : Ctx l R n0 Z own bytes ml nm rt Q K O) (H : K pc L (.null :: rest) h cl sl) {o : Int} (d : decode bytes pc = .ok (.ifnonnull o, 3)) (hp : pc + 3 = pc') : K pc' L rest h cl sl := by
  subst hp
  exact C.pure H fun p e s m args below meth c T locs X hx hby _ _ _ t k => XS.ifnonnullNo X.here hx rfl (hb hby d) rfl k
theorem k_acmp (C : Ctx l R n0 Z own bytes ml nm rt Q K O) {x y : Value} (H : K pc L (y :: x :: rest) h cl sl) {cd : ACond} {o : Int} (d : decode bytes pc = .ok (.if_acmp cd o, 3)) (h1 : x.isRef = true) (h2 : y.isRef = true) {same : Bool} (hq : decide (x = y) = same) (ho : 0 ≤ (pc : Int) + o) (hp : pc' = if acV cd same = true then ((pc : Int) + o).toNat else pc + 3) : K pc' L rest h cl sl :=
  C.pure H fun p e s m args below meth c T locs X hx hby _ _ _ t k => Jvm.RoadKit.acmp X hx rfl h1 h2 (pc0 := pc) rfl (hb hby d) rfl hq ho hp k
theorem k_dupX2 (C : Ctx l R n0 Z own bytes ml nm rt Q K O) {x y z : Value} (H : K pc L (x :: y :: z :: rest) h cl sl) (d : decode bytes pc = .ok (.dup_x2, 1)) (h1 : x.category = 1) (h2 : y.category = 1) (h3 : z.category = 1) (hp : pc + 1 = pc') : K pc' L (x :: y :: z :: x :: rest) h cl sl := by
  subst hp
  refine C.pure H fun p e s m args below meth c T locs X hx hby _ _ _ t k => ?_
  jvm_step X.here [X.here.top, hx, hb hby d, h1, h2, h3]
  exact k
theorem k_ldcI (C : Ctx l R n0 Z own bytes ml nm rt Q K O) (H : K pc L S h cl sl) {i : Nat} {v : Int32} (w : (Cond.constant own i v).before a0 Z = true) (d : decode bytes pc = .ok (.ldc i, 2)) (hp : pc + 2 = pc') : K pc' L (.int v :: S) h cl sl := by
  subst hp
  exact C.pure H fun p e s m args below meth c T locs X hx hby hZ hown _ t k => X.ldcInt hx hown (mvT hZ w) (g := mkF m pc L S) rfl (hb hby d) t k
theorem k_ldcL (C : Ctx l R n0 Z own bytes ml nm rt Q K O) (H : K pc L S h cl sl) {i : Nat} {v : Int64} (w : (Cond.constantLong own i v).before a0 Z = true) (d : decode bytes pc = .ok (.ldc2_w i, 3)) (hp : pc + 3 = pc') : K pc' L (.long v :: S) h cl sl := by
  subst hp
  exact C.pure H fun p e s m args below meth c T locs X hx hby hZ hown _ t k => X.ldc2Long hx hown (mvT hZ w) (g := mkF m pc L S) rfl (hb hby d) t k
theorem k_getFld (C : Ctx l R n0 Z own bytes ml nm rt Q K O) {a : Addr} (H : K pc L (.ref a :: rest) h cl sl) {i : Nat} {O' n d' : String} {v : Value} (w : (Cond.fieldLink own i O' n d').before a0 Z = true) (F : Fld Z h a O' n d' v) (d : decode bytes pc = .ok (.getfield i, 3)) (hp : pc + 3 = pc') : K pc' L (v :: rest) h cl sl := by
  subst hp
  exact C.note H fun p e s m args below meth c T locs X hx hby hZ hown _ eT => getF X hx hZ hown (host := "") (Or.inl w) Via.refl eT F (g := mkF m pc L (.ref a :: rest)) rfl rfl (hb hby d)
theorem k_getFldN (C : Ctx l R n0 Z own bytes ml nm rt Q K O) {a : Addr} (H : K pc L (.ref a :: rest) h cl sl) {i : Nat} {O' n d' host : String} {v : Value} (w : (Cond.fieldLinkNest own i O' n d' host).before a0 Z = true) (F : Fld Z h a O' n d' v) (d : decode bytes pc = .ok (.getfield i, 3)) (hp : pc + 3 = pc') : K pc' L (v :: rest) h cl sl := by
  subst hp
  exact C.note H fun p e s m args below meth c T locs X hx hby hZ hown _ eT => getF X hx hZ hown (Or.inr w) Via.refl eT F (g := mkF m pc L (.ref a :: rest)) rfl rfl (hb hby d)
theorem k_getSta (C : Ctx l R n0 Z own bytes ml nm rt Q K O) (H : K pc L S h cl sl) {i : Nat} {O' n d' : String} {v : Value} (w : (Cond.fieldLink own i O' n d').before a0 Z = true) (F : Sta Z h O' n d' v) (d : decode bytes pc = .ok (.getstatic i, 3)) (hp : pc + 3 = pc') : K pc' L (v :: S) h cl sl := by
  subst hp
  exact C.note H fun p e s m args below meth c T locs X hx hby hZ hown _ eT => getS2 X hx hZ hown (host := "") (Or.inl w) Via.refl eT F (g := mkF m pc L S) rfl (hb hby d)
theorem k_initObj (C : Ctx l R n0 Z own bytes ml nm rt Q K O) {a : Addr} (H : K pc L (.ref a :: rest) h cl sl) {i : Nat} (w1 : (Cond.methodLink own i Lib.objectInit).before a0 Z = true) (w2 : (Cond.instanceMethod Lib.objectInit).before a0 Z = true) (w3 : (Cond.code Lib.objectInit ⟨#[0xb1]⟩ 1 none).before a0 Z = true) (d : decode bytes pc = .ok (.invokespecial i, 3)) (hsz : L.size = ml)
    (hf : 1 ≤ R.frames) (W : Nat) (hW : (rest.map fun v => v.category).sum = W) (hl : W + 12 ≤ R.locals) (hp : pc + 3 = pc') : K pc' L rest h cl sl := by
  subst hp
  exact C.note H fun p e s m args below meth c T locs X hx hby hZ hown hml eT => initO X hx hZ hown w1 w2 w3 eT (g := mkF m pc L (.ref a :: rest)) rfl (hsz.trans hml.symm) rfl (hb hby d) hf (W := W) (by show 2 * 0 + _ ≤ _; omega) hl
theorem k_castYes (C : Ctx l R n0 Z own bytes ml nm rt Q K O) {a : Addr} (H : K pc L (.ref a :: rest) h cl sl) {i : Nat} {C' : String} (w : (Cond.classLink own i C').before a0 Z = true) (F : Ins Z h a C' true) (d : decode bytes pc = .ok (.checkcast i, 3)) (hp : pc + 3 = pc') : K pc' L (.ref a :: rest) h cl sl := by
  subst hp
  exact C.note H fun p e s m args below meth c T locs X hx hby hZ hown _ eT => castY X hx hZ hown w eT F (g := mkF m pc L (.ref a :: rest)) rfl rfl (hb hby d)
theorem k_castNull (C : Ctx l R n0 Z own bytes ml nm rt Q K O) (H : K pc L (.null :: rest) h cl sl) {i : Nat} (d : decode bytes pc = .ok (.checkcast i, 3)) (hp : pc + 3 = pc') : K pc' L (.null :: rest) h cl sl := by
  subst hp
  exact C.pure H fun p e s m args below meth c T locs X hx hby hZ hown _ t k => X.checkcastNull hx (g := mkF m pc L (.null :: rest)) rfl rfl (hb hby d) t k
theorem k_instYes (C : Ctx l R n0 Z own bytes ml nm rt Q K O) {a : Addr} (H : K pc L (.ref a :: rest) h cl sl) {i : Nat} {C' : String} (w : (Cond.classLink own i C').before a0 Z = true) (F : Ins Z h a C' true) (d : decode bytes pc = .ok (.instanceof i, 3)) (hp : pc + 3 = pc') : K pc' L (.int 1 :: rest) h cl sl := by
  subst hp
  exact C.note H fun p e s m args below meth c T locs X hx hby hZ hown _ eT => instY X hx hZ hown w eT F (g := mkF m pc L (.ref a :: rest)) rfl rfl (hb hby d)
theorem k_instNull (C : Ctx l R n0 Z own bytes ml nm rt Q K O) (H : K pc L (.null :: rest) h cl sl) {i : Nat} (d : decode bytes pc = .ok (.instanceof i, 3)) (hp : pc + 3 = pc') : K pc' L (.int 0 :: rest) h cl sl := by
  subst hp
  exact C.pure H fun p e s m args below meth c T locs X hx hby hZ hown _ t k => X.instanceofNull hx (g := mkF m pc L (.null :: rest)) rfl rfl (hb hby d) t k
theorem k_instNot (C : Ctx l R n0 Z own bytes ml nm rt Q K O) {a : Addr} (H : K pc L (.ref a :: rest) h cl sl) {i : Nat} {C' D' : String} (w : (Cond.classLink own i C').before a0 Z = true) (E : Exa Z h a D') (F : ∃ c t, Z.vm.findClass D' = some c ∧ Z.vm.findClass C' = some t ∧ Z.vm.assignable c t = false) (d : decode bytes pc = .ok (.instanceof i, 3)) (hp : pc + 3 = pc') : K pc' L (.int 0 :: rest) h cl sl := by
  subst hp
  exact C.note H fun p e s m args below meth c T locs X hx hby hZ hown _ eT => instNo X hx hZ hown w eT E F (g := mkF m pc L (.ref a :: rest)) rfl rfl (hb hby d)
/-! what writes or makes -/
theorem k_putFld (C : Ctx l R n0 Z own bytes ml nm rt Q K O) {a : Addr} {v : Value} (H : K pc L (v :: .ref a :: rest) h cl sl) {i kk : Nat} {O' n d' C' : String} {ty : FieldType} {old : Value} (w : (Cond.fieldLink own i O' n d').before a0 Z = true) (F : Fld Z h a O' n d' old) (E : Exa Z h a C')
    (Lw : (Cond.lays C' O' n d').before a0 Z = true ∨ ((Cond.laysFinal C' O' n d').before a0 Z = true ∧ own = O' ∧ nm = "<init>")) (wi : (Cond.instantiable C' kk).before a0 Z = true) (hty : parseFieldDescriptor d' = some ty) {v' : Value} (hn : narrow ty v = v') (hf : fits ty v' = true) (g : n0 ≤ a) (d : decode bytes pc = .ok (.putfield i, 3)) (hp : pc + 3 = pc') :
    ∃ h', Wr h h' a (Jvm.RoadKit.slotOf Z O' n d') v' ∧ K pc' L rest h' cl sl := by
  subst hp
  obtain ⟨p, e, s, m, args, below, meth, c, s1, f0, hx, hby, hZ, hown, hml, hnm, hrt, hlk, hK, hO⟩ := C
  obtain ⟨T, locs, X, eT, N, st⟩ := (hK _ _ _ _ _ _).mp H
  obtain ⟨T', h', X', e', W', st'⟩ := putFN X hx hZ hown w Via.refl eT F E (Lw.imp id fun q => ⟨q.1, q.2.1, hnm.trans q.2.2⟩) wi hty hn hf (g := mkF m pc L (v :: .ref a :: rest)) rfl rfl (hb hby d)
  exact ⟨h', W', (hK _ _ _ _ _ _).mpr ⟨T', _, X', e', Fr.snoc X' N g, fun t k => st t (st' t k)⟩⟩
theorem k_newObj (C : Ctx l R n0 Z own bytes ml nm rt Q K O) (H : K pc L S h cl sl) {i n : Nat} {C' : String} (w : (Cond.classLink own i C').before a0 Z = true) (wi : (Cond.instantiable C' n).before a0 Z = true) (wz : (Cond.initialized C').before a0 Z = true) (d : decode bytes pc = .ok (.new i, 3)) (hc : cl + 1 ≤ R.cells) (hl : sl + n ≤ R.slots) (hp : pc + 3 = pc') :
    ∃ h' b, b = h.size ∧ Ext h h' ∧ Exa Z h' b C' ∧ (∀ {O' nm' d' : String} {ty : FieldType}, Laid Z a0 C' O' nm' d' → parseFieldDescriptor d' = some ty → Fld Z h' b O' nm' d' (defaultValue ty)) ∧ K pc' L (.ref b :: S) h' (cl + 1) (sl + n) := by
  subst hp
  obtain ⟨p, e, s, m, args, below, meth, c, s1, f0, hx, hby, hZ, hown, hml, hnm, hrt, hlk, hK, hO⟩ := C
  obtain ⟨T, locs, X, eT, N, st⟩ := (hK _ _ _ _ _ _).mp H
  obtain ⟨T', h', X', e', E', A', D', -, st'⟩ := newO X hx hZ hown w wi wz eT (g := mkF m pc L S) rfl (hb hby d) hc hl
  exact ⟨h', _, rfl, E', A', D', (hK _ _ _ _ _ _).mpr ⟨T', _, X', e', N, fun t k => st t (st' t k)⟩⟩
theorem k_newArr (C : Ctx l R n0 Z own bytes ml nm rt Q K O) {n : Int32} (H : K pc L (.int n :: rest) h cl sl) {aty : ArrayType} (w : (Cond.arrayClass (newarray.typeOf aty)).before a0 Z = true) (d : decode bytes pc = .ok (.newarray aty, 2)) (hn : ¬ n < 0) {cap : Nat} (hcap : n.toNatClampNeg ≤ cap) (hb' : cap * 8 ≤ 536870912) (hc : cl + 1 ≤ R.cells) (hl : sl + cap ≤ R.slots) (hp : pc + 2 = pc') :
    ∃ h' b cA, b = h.size ∧ Ext h h' ∧ Arr Z h' b (newA cA (newarray.typeOf aty) n) (newarray.typeOf aty) ∧ K pc' L (.ref b :: rest) h' (cl + 1) (sl + cap) := by
  subst hp
  obtain ⟨p, e, s, m, args, below, meth, c, s1, f0, hx, hby, hZ, hown, hml, hnm, hrt, hlk, hK, hO⟩ := C
  obtain ⟨T, locs, X, eT, N, st⟩ := (hK _ _ _ _ _ _).mp H
  obtain ⟨T', h', cA, X', e', E', A', st'⟩ := newP X hx hZ w eT (g := mkF m pc L (.int n :: rest)) rfl (hb hby d) rfl hn hcap hb' hc hl
  exact ⟨h', _, cA, rfl, E', A', (hK _ _ _ _ _ _).mpr ⟨T', _, X', e', N, fun t k => st t (st' t k)⟩⟩
/-! the returns -/
theorem k_out_of (C : Ctx l R n0 Z own bytes ml nm rt Q K O) (H : K pc L S h cl sl) {v : Option Value} (hv : rt = none → v = none) (hq : Q v h) (hc : cl ≤ R.cells) (hl : sl ≤ R.slots)
    (f : ∀ (p : Program) (e : Env) (s : State) (m : MethodId) (args : Array Value) (below : List Frame) (meth : Method) (c : Code) (T : State) (locs : List Loc) (fs : List Frame), Stand p l e R s m args below meth c T locs cl sl → p.tables.exec = Jvm.exec → c.code = bytes → meth.sig.returnType = rt →
      (∀ (f : JFrame) (acts : List Action), f.method = m → f.locked = none → f.entered = [] → (doReturn e (T.setTop f) acts v).1 = T.setFrames fs) → Steps p.tables e below (T.setTop (mkF m pc L S)) (T.setFrames fs)) : O := by
  obtain ⟨p, e, s, m, args, below, meth, c, s1, f0, hx, hby, hZ, hown, hml, hnm, hrt, hlk, hK, hO⟩ := C
  obtain ⟨T, locs, X, eT, N, st⟩ := (hK _ _ _ _ _ _).mp H
  obtain ⟨fs, hr, hrun, hended, hW, hsame⟩ := X.leave (v := v) (fun q => hv (hrt.symm.trans q)) hlk
  refine hO ⟨_, _, st _ (f p e s m args below meth c T locs fs X hx hby hrt hr), hrun, hended, v, locs, rfl, ⟨?_, N⟩, ⟨_, rfl⟩, hW, hsame.mono hc hl⟩
  show Q v T.heap
  rw [eT]; exact hq
theorem k_retV (C : Ctx l R n0 Z own bytes ml nm none Q K O) (H : K pc L [] h cl sl) (d : decode bytes pc = .ok (.return_, 1)) (hc : cl ≤ R.cells) (hl : sl ≤ R.slots) (hq : Q none h) : O :=
  k_out_of C H (fun _ => rfl) hq hc hl fun p e s m args below meth c T locs fs X hx hby hrt hr => X.returnOut hx hrt (hb hby d) hr
theorem k_retI (C : Ctx l R n0 Z own bytes ml nm (some .int) Q K O) {z : Int32} (H : K pc L (.int z :: rest) h cl sl) (d : decode bytes pc = .ok (.ireturn, 1)) (hc : cl ≤ R.cells) (hl : sl ≤ R.slots) (hq : Q (some (.int z)) h) : O :=
  k_out_of C H (fun q => nomatch q) hq hc hl fun p e s m args below meth c T locs fs X hx hby hrt hr => retOut X hx hrt (i := .ireturn) rfl (Or.inl ⟨rfl, Or.inl rfl, _, rfl⟩) (hb hby d) hr
theorem k_retJ (C : Ctx l R n0 Z own bytes ml nm (some .long) Q K O) {z : Int64} (H : K pc L (.long z :: rest) h cl sl) (d : decode bytes pc = .ok (.lreturn, 1)) (hc : cl ≤ R.cells) (hl : sl ≤ R.slots) (hq : Q (some (.long z)) h) : O :=
  k_out_of C H (fun q => nomatch q) hq hc hl fun p e s m args below meth c T locs fs X hx hby hrt hr => retOut X hx hrt (i := .lreturn) rfl (Or.inr (Or.inl ⟨rfl, rfl, _, rfl⟩)) (hb hby d) hr
theorem k_retA {t : FieldType} (C : Ctx l R n0 Z own bytes ml nm (some t) Q K O) {v : Value} (H : K pc L (v :: rest) h cl sl) (d : decode bytes pc = .ok (.areturn, 1)) (ht : t.isReference = true) (hv : v.isRef = true) (hc : cl ≤ R.cells) (hl : sl ≤ R.slots) (hq : Q (some v) h) : O :=
  k_out_of C H (fun q => nomatch q) hq hc hl fun p e s m args below meth c T locs fs X hx hby hrt hr => retOut X hx hrt (i := .areturn) (by rcases ref_cases hv with rfl | ⟨a, rfl⟩ <;> cases t <;> first | rfl | cases ht) (Or.inr (Or.inr (Or.inr (Or.inr ⟨rfl, ht, hv⟩)))) (hb hby d) hr
theorem k_retN {t : FieldType} (C : Ctx l R n0 Z own bytes ml nm (some t) Q K O) {z : Int32} (H : K pc L (.int z :: rest) h cl sl) (d : decode bytes pc = .ok (.ireturn, 1)) (ht : t = .boolean ∨ t = .byte ∨ t = .char ∨ t = .short) (hc : cl ≤ R.cells) (hl : sl ≤ R.slots) (hq : Q (some (.int (nar t z))) h) : O :=
  k_out_of C H (fun q => nomatch q) hq hc hl fun p e s m args below meth c T locs fs X hx hby hrt hr => Jvm.RoadKit.retN X hx hrt ht (hb hby d) hr
theorem k_retZ (C : Ctx l R n0 Z own bytes ml nm (some .boolean) Q K O) {z : Int32} (H : K pc L (.int z :: rest) h cl sl) (d : decode bytes pc = .ok (.ireturn, 1)) (hz : z &&& 1 = z) (hc : cl ≤ R.cells) (hl : sl ≤ R.slots) (hq : Q (some (.int z)) h) : O :=
  k_retN C H d (Or.inl rfl) hc hl (by show Q (some (.int (z &&& 1))) h; rw [hz]; exact hq)
/-! the calls -/
theorem k_callSta (C : Ctx l R n0 Z own bytes ml nm rt Q K O) (H : K pc L S h cl sl) {i : Nat} {y : MethodName} {bytes' : ByteArray} {ml' : Nat} {rt' : Option FieldType} {rm : Room} {as : Array Value} {Q' : Qt} (k : Con l y bytes' ml' rt' rm Z as h n0 Q')
    (w1 : (Cond.methodLink own i y).before a0 Z = true) (w2 : (Cond.static y).before a0 Z = true) (w3 : (Cond.initialized y.cls).before a0 Z = true) (w4 : (Cond.code y bytes' ml' rt').before a0 Z = true) (hy : y.cls ≠ "java/lang/invoke/MethodHandle" ∧ y.cls ≠ "java/lang/invoke/VarHandle")
    (d : decode bytes pc = .ok (.invokestatic i, 3)) (hsz : L.size = ml) (argsL rest : List Value) {ps : List FieldType} (hd : parseMethodDescriptor y.desc = some ⟨ps, rt'⟩) (hlen : argsL.length = ps.length) (hS : S = argsL.reverse ++ rest) (has : argsL.toArray = as) (W : Nat) (hW : (rest.map fun v => v.category).sum = W)
    (hfr : rm.frames + 1 ≤ R.frames) (hlo : W + (ml' + 11) + rm.locals ≤ R.locals) (hc : cl + rm.cells ≤ R.cells) (hs : sl + rm.slots ≤ R.slots) (hp : pc + 3 = pc') :
    ∃ v h', Q' v h' ∧ K pc' L (v.toList ++ rest) h' (cl + rm.cells) (sl + rm.slots) := by
  subst hp
  obtain ⟨p, e, s, m, args, below, meth, c, s1, f0, hx, hby, hZ, hown, hml, hnm, hrt, hlk, hK, hO⟩ := C
  obtain ⟨T, locs, X, eT, N, st⟩ := (hK _ _ _ _ _ _).mp H
  obtain ⟨v, _, ⟨T', L', k', n'⟩, -, X', ⟨Lc, ⟨hQ, hF⟩, l', y', z'⟩, st'⟩ := Jvm.LawKit.callS X hx (y := y) hown (mvT hZ w1) (mvT hZ w2) (mvT hZ w3) (mvT hZ w4) hy (backOf (Q := fun v h' L => Q' v h' ∧ Fr n0 L) (W := W) (k []) hZ w4 w3 hfr hlo) (g := mkF m pc L S) rfl (hsz.trans hml.symm) (argsL := argsL) (rest := rest) (lenOf hd hlen) hS (by show 2 * 0 + _ ≤ _; omega) (hb hby d) (fun _ _ => ⟨has, eT, hc, hs⟩)
  dsimp only [Pt.U, Pt.locs, Pt.cells, Pt.slots] at X' l' y' z' st' hQ
  subst l' y' z'
  exact ⟨v, T'.heap, hQ, (hK _ _ _ _ _ _).mpr ⟨T', _, X', rfl, N.app hF, fun t k => st t (st' t k)⟩⟩
theorem k_callCon (C : Ctx l R n0 Z own bytes ml nm rt Q K O) (H : K pc L S h cl sl) {i : Nat} {y : MethodName} {bytes' : ByteArray} {ml' : Nat} {rm : Room} {as : Array Value} {Q' : Qt} (k : Con l y bytes' ml' none rm Z as h n0 Q') (hi : y.name = "<init>")
    (w1 : (Cond.methodLink own i y).before a0 Z = true) (w2 : (Cond.instanceMethod y).before a0 Z = true) (w3 : (Cond.initialized y.cls).before a0 Z = true) (w4 : (Cond.code y bytes' ml' none).before a0 Z = true) (hy : y.cls ≠ "java/lang/invoke/MethodHandle" ∧ y.cls ≠ "java/lang/invoke/VarHandle")
    (d : decode bytes pc = .ok (.invokespecial i, 3)) (hsz : L.size = ml) (a : Addr) (argsL rest : List Value) {ps : List FieldType} (hd : parseMethodDescriptor y.desc = some ⟨ps, none⟩) (hlen : argsL.length = ps.length) (hS : S = argsL.reverse ++ .ref a :: rest) (has : (.ref a :: argsL).toArray = as) (W : Nat) (hW : (rest.map fun v => v.category).sum = W)
    (hfr : rm.frames + 1 ≤ R.frames) (hlo : W + (ml' + 11) + rm.locals ≤ R.locals) (hc : cl + rm.cells ≤ R.cells) (hs : sl + rm.slots ≤ R.slots) (hp : pc + 3 = pc') :
    ∃ v h', Q' v h' ∧ K pc' L (v.toList ++ rest) h' (cl + rm.cells) (sl + rm.slots) := by
  subst hp
  obtain ⟨p, e, s, m, args, below, meth, c, s1, f0, hx, hby, hZ, hown, hml, hnm, hrt, hlk, hK, hO⟩ := C
  obtain ⟨T, locs, X, eT, N, st⟩ := (hK _ _ _ _ _ _).mp H
  obtain ⟨v, _, ⟨T', L', k', n'⟩, -, X', ⟨Lc, ⟨hQ, hF⟩, l', y', z'⟩, st'⟩ := X.specialBack hx (y := y) hi hown (mvT hZ w1) (mvT hZ w2) (mvT hZ w4) hy (backOf (Q := fun v h' L => Q' v h' ∧ Fr n0 L) (W := W) (k []) hZ w4 w3 hfr hlo) (g := mkF m pc L S) rfl (hsz.trans hml.symm) (Steps.refl _) (a := a) (argsL := argsL) (rest := rest) (lenOf hd hlen) hS (by show 2 * 0 + _ ≤ _; omega) (hb hby d) (fun _ _ => ⟨has, eT, hc, hs⟩)
  dsimp only [Pt.U, Pt.locs, Pt.cells, Pt.slots] at X' l' y' z' st' hQ
  subst l' y' z'
  exact ⟨v, T'.heap, hQ, (hK _ _ _ _ _ _).mpr ⟨T', _, X', rfl, N.app hF, fun t k => st t (st'.trans k)⟩⟩
theorem k_callVir (C : Ctx l R n0 Z own bytes ml nm rt Q K O) (H : K pc L S h cl sl) {i : Nat} {y : MethodName} {bytes' : ByteArray} {ml' : Nat} {rt' : Option FieldType} {rm : Room} {as : Array Value} {Q' : Qt} (k : Con l y bytes' ml' rt' rm Z as h n0 Q') {a : Addr} {C' : String} (E : Exa Z h a C')
    (w1 : (Cond.methodLink own i y).before a0 Z = true) (w2 : (Cond.declares y).before a0 Z = true) (w3 : (Cond.selects C' y y).before a0 Z = true) (w4 : (Cond.instanceMethod y).before a0 Z = true) (w5 : (Cond.initialized y.cls).before a0 Z = true) (w6 : (Cond.code y bytes' ml' rt').before a0 Z = true) (hy : y.cls ≠ "java/lang/invoke/MethodHandle" ∧ y.cls ≠ "java/lang/invoke/VarHandle")
    (d : decode bytes pc = .ok (.invokevirtual i, 3)) (hsz : L.size = ml) (argsL rest : List Value) {ps : List FieldType} {rt2 : Option FieldType} (hd : parseMethodDescriptor y.desc = some ⟨ps, rt2⟩) (hlen : argsL.length = ps.length) (hS : S = argsL.reverse ++ .ref a :: rest) (has : (.ref a :: argsL).toArray = as) (W : Nat) (hW : (rest.map fun v => v.category).sum = W)
    (hfr : rm.frames + 1 ≤ R.frames) (hlo : W + (ml' + 11) + rm.locals ≤ R.locals) (hc : cl + rm.cells ≤ R.cells) (hs : sl + rm.slots ≤ R.slots) (hp : pc + 3 = pc') :
    ∃ v h', Q' v h' ∧ K pc' L (v.toList ++ rest) h' (cl + rm.cells) (sl + rm.slots) := by
  subst hp
  obtain ⟨p, e, s, m, args, below, meth, c, s1, f0, hx, hby, hZ, hown, hml, hnm, hrt, hlk, hK, hO⟩ := C
  obtain ⟨T, locs, X, eT, N, st⟩ := (hK _ _ _ _ _ _).mp H
  obtain ⟨cq, kq, qa, qb, qc⟩ := isOf hZ eT E
  obtain ⟨v, _, ⟨T', L', k', n'⟩, -, X', ⟨Lc, ⟨hQ, hF⟩, l', y', z'⟩, st'⟩ := X.virtualBack hx (y := y) (z := y) hown (mvT hZ w1) (mvT hZ w2) (notFace_of_selects (args := #[]) (mvT hZ w3)) (mvT hZ w3) (mvT hZ w4) hy (backOf (Q := fun v h' L => Q' v h' ∧ Fr n0 L) (W := W) (k []) hZ w6 w5 hfr hlo) qa qc (g := mkF m pc L S) rfl (hsz.trans hml.symm) (Steps.refl _) (argsL := argsL) (rest := rest) (lenOf hd hlen) hS (by show 2 * 0 + _ ≤ _; omega) (hb hby d) (fun _ _ => ⟨has, eT, hc, hs⟩)
  dsimp only [Pt.U, Pt.locs, Pt.cells, Pt.slots] at X' l' y' z' st' hQ
  subst l' y' z'
  exact ⟨v, T'.heap, hQ, (hK _ _ _ _ _ _).mpr ⟨T', _, X', rfl, N.app hF, fun t k => st t (st'.trans k)⟩⟩
end Steps
/-- a class whose only superclass is one without a superclass is no subclass of a third, ordinary one -/
theorem noSub {Z : State} {a0 : Array Value} {C S K : String} {n : Nat} (w : (Cond.superclass C S).before a0 Z = true) (wo : (Cond.noSuperclass S).before a0 Z = true) (wk : (Cond.instantiable K n).before a0 Z = true) (h1 : S ≠ K) (h2 : C ≠ K) :
    ∃ c t, Z.vm.findClass C = some c ∧ Z.vm.findClass K = some t ∧ Z.vm.assignable c t = false := by
  obtain ⟨t, kt, g1, g2, g3, g4, -⟩ := Cond.instantiable_spec wk
  obtain ⟨co, ko, o1, o2, o3, -, -⟩ := Cond.noSuperclass_spec wo
  have nsO : NS Z S K := ⟨co, t, o1, g1, fun fuel => by
    have ne := ids_ne o1 g1 h1
    cases fuel with
    | zero => rfl
    | succ f => simp [Vm.isSubclassAux, ne, o2, o3]⟩
  obtain ⟨c, t', h0, g0, n3⟩ := NS.step w nsO h2
  cases g1.symm.trans g0
  obtain ⟨p, k, kp, q1, q2, q3, q4, q5, -, q7⟩ := Cond.superclass_spec h0 w
  have ne := ids_ne h0 g0 h2
  have gi : kt.isInterface = false := by
    cases hi : kt.isInterface with
    | false => rfl
    | true => simp [hi] at g4
  refine ⟨c, t, h0, g1, ?_⟩
  show Z.vm.assignableAux (255 + 1) c t = false
  simp [Vm.assignableAux, ne, q2, g2, q5, g3, gi, Vm.isSubclass, n3]
/-! arrays of ints, bytes, chars: what lies at each place -/
def Ari (Z : State) (h : Heap) (a : Addr) (ty : FieldType) (n : Nat) (f : Nat → Int32) : Prop := ∃ c : Cell, Arr Z h a c ty ∧ c.slots.size = n ∧ n < 2 ^ 31 ∧ ∀ i, i < n → c.slots[i]? = some (.int (f i))
section Arrays
variable {Z : State} {h h' : Heap} {a b : Addr} {ty : FieldType} {n : Nat} {f : Nat → Int32} {sl : Nat} {v : Value} {ws : List Addr}
theorem Ari.lt (F : Ari Z h a ty n f) : a < h.size := by obtain ⟨c, A, -⟩ := F; exact A.lt
theorem Ari.ext (F : Ari Z h a ty n f) (E : Ext h h') : Ari Z h' a ty n f := by obtain ⟨c, A, r⟩ := F; exact ⟨c, A.ext E, r⟩
theorem Ari.other (F : Ari Z h b ty n f) (W : Wr h h' a sl v) (q : b ≠ a) : Ari Z h' b ty n f := by obtain ⟨c, A, r⟩ := F; exact ⟨c, A.other W q, r⟩
theorem Ari.keep (F : Ari Z h a ty n f) (K : Keep h h' ws) (q : a ∉ ws) : Ari Z h' a ty n f := by obtain ⟨c, A, r⟩ := F; exact ⟨c, ⟨K.2.1 a c A.1 q, A.2⟩, r⟩
theorem Ari.congr {g : Nat → Int32} (F : Ari Z h a ty n f) (q : ∀ i, i < n → f i = g i) : Ari Z h a ty n g := by obtain ⟨c, A, r1, r2, r3⟩ := F; exact ⟨c, A, r1, r2, fun i hi => by rw [← q i hi]; exact r3 i hi⟩
theorem Ari.set (F : Ari Z h a ty n f) {i : Nat} {x : Int32} (W : Wr h h' a i (.int x)) : Ari Z h' a ty n (fun k => if k = i then x else f k) := by
  obtain ⟨c, A, r1, r2, r3⟩ := F
  refine ⟨c.setSlot i (.int x), A.same W, by rw [sz_set]; exact r1, r2, fun k hk => ?_⟩
  by_cases q : k = i
  · subst q
    simp [Cell.setSlot, r1, hk]
  · have : i ≠ k := fun z => q z.symm
    simp [Cell.setSlot, q, this, Array.getElem?_setIfInBounds_ne this, r3 k hk]
theorem addN {x y : Int32} {i j : Nat} (hx : x.toInt = i) (hy : y.toInt = j) (h : i + j < 2147483648) : (x + y).toInt = ((i + j : Nat) : Int) := by
  have a := c_iadd x y
  have r := rng32 (x + y)
  omega
theorem toNatClampNeg_of {j : Int32} {i : Nat} (hj : j.toInt = i) : j.toNatClampNeg = i := by rw [Int32.toNatClampNeg, hj]; rfl
theorem inb {j : Int32} {i m : Nat} (hj : j.toInt = i) (hi : i < m) : ¬ (j < 0 ∨ m ≤ j.toNatClampNeg) := by
  rw [toNatClampNeg_of hj, Int32.lt_iff_toInt_lt, hj]
  simp; omega
theorem Ari.ofNew {cA : ClassId} {z : Int32} (A : Arr Z h a (newA cA ty z) ty) (hz : z.toInt = n) (hd : defaultValue ty = .int 0) : Ari Z h a ty n (fun _ => 0) := by
  have hn : z.toNatClampNeg = n := toNatClampNeg_of hz
  refine ⟨_, A, by rw [sz_new, hn], by have := z.toInt_lt; omega, fun i hi => ?_⟩
  simp [newA, hn, hi, hd]
end Arrays
section ArrSteps
variable {l : Launch} {R : Room} {n0 : Nat} {Z : State} {own : String} {bytes : ByteArray} {ml : Nat} {nm : String} {rt : Option FieldType} {Q : Qt} {K : Kt} {O : Prop} {a0 : Array Value} {pc : Nat} {L : Array Slot} {S rest : List Value} {h : Heap} {cl sl : Nat} {pc' : Nat}
theorem k_arrlen (C : Ctx l R n0 Z own bytes ml nm rt Q K O) {a : Addr} (H : K pc L (.ref a :: rest) h cl sl) {ty : FieldType} {n : Nat} {f : Nat → Int32} (F : Ari Z h a ty n f) (d : decode bytes pc = .ok (.arraylength, 1)) (hp : pc + 1 = pc') : K pc' L (.int n.toInt32 :: rest) h cl sl := by
  subst hp
  obtain ⟨c', A, r1, r2, r3⟩ := F
  exact C.pure H fun p e s m args below meth c T locs X hx hby hZ hown eT t k => X.arraylength hx (by rw [eT]; exact A.1) (State.isArrayOf_alike hZ.alike A.2.1) (g := mkF m pc L (.ref a :: rest)) rfl rfl (hb hby d) t (by rw [r1]; exact k)

theorem k_iaload (C : Ctx l R n0 Z own bytes ml nm rt Q K O) {a : Addr} {j : Int32} (H : K pc L (.int j :: .ref a :: rest) h cl sl) {n : Nat} {f : Nat → Int32} (F : Ari Z h a .int n f) {i : Nat} (hj : j.toInt = i) (hi : i < n) (d : decode bytes pc = .ok (.iaload, 1)) (hp : pc + 1 = pc') : K pc' L (.int (f i) :: rest) h cl sl := by
  subst hp
  obtain ⟨c', A, r1, r2, r3⟩ := F
  exact C.pure H fun p e s m args below meth c T locs X hx hby hZ hown eT t k => X.iaload hx (by rw [eT]; exact A.1) (State.isArrayOf_alike hZ.alike A.2.1) A.2.2 (inb hj (r1.symm ▸ hi)) (by rw [toNatClampNeg_of hj]; exact r3 i hi) (g := mkF m pc L (.int j :: .ref a :: rest)) rfl rfl (hb hby d) t k
theorem k_baload (C : Ctx l R n0 Z own bytes ml nm rt Q K O) {a : Addr} {j : Int32} (H : K pc L (.int j :: .ref a :: rest) h cl sl) {n : Nat} {f : Nat → Int32} (F : Ari Z h a .byte n f) {i : Nat} (hj : j.toInt = i) (hi : i < n) (d : decode bytes pc = .ok (.baload, 1)) (hp : pc + 1 = pc') : K pc' L (.int (f i) :: rest) h cl sl := by
  subst hp
  obtain ⟨c', A, r1, r2, r3⟩ := F
  exact C.pure H fun p e s m args below meth c T locs X hx hby hZ hown eT t k => X.baloadBytes hx (by rw [eT]; exact A.1) (State.isArrayOf_alike hZ.alike A.2.1) A.2.2 (inb hj (r1.symm ▸ hi)) (by rw [toNatClampNeg_of hj]; exact r3 i hi) (g := mkF m pc L (.int j :: .ref a :: rest)) rfl rfl (hb hby d) t k
theorem k_caload (C : Ctx l R n0 Z own bytes ml nm rt Q K O) {a : Addr} {j : Int32} (H : K pc L (.int j :: .ref a :: rest) h cl sl) {n : Nat} {f : Nat → Int32} (F : Ari Z h a .char n f) {i : Nat} (hj : j.toInt = i) (hi : i < n) (d : decode bytes pc = .ok (.caload, 1)) (hp : pc + 1 = pc') : K pc' L (.int (f i) :: rest) h cl sl := by
  subst hp
  obtain ⟨c', A, r1, r2, r3⟩ := F
  exact C.pure H fun p e s m args below meth c T locs X hx hby hZ hown eT t k => X.caload hx (by rw [eT]; exact A.1) (State.isArrayOf_alike hZ.alike A.2.1) A.2.2 (inb hj (r1.symm ▸ hi)) (by rw [toNatClampNeg_of hj]; exact r3 i hi) (g := mkF m pc L (.int j :: .ref a :: rest)) rfl rfl (hb hby d) t k
theorem k_iastore (C : Ctx l R n0 Z own bytes ml nm rt Q K O) {a : Addr} {j x : Int32} (H : K pc L (.int x :: .int j :: .ref a :: rest) h cl sl) {n : Nat} {f : Nat → Int32} (F : Ari Z h a .int n f) {i : Nat} (hj : j.toInt = i) (hi : i < n) (g : n0 ≤ a) (d : decode bytes pc = .ok (.iastore, 1)) (hp : pc + 1 = pc') : ∃ h', Wr h h' a i (.int (x)) ∧ Ari Z h' a .int n (fun k => if k = i then x else f k) ∧ K pc' L rest h' cl sl := by
  subst hp
  have F0 := F
  obtain ⟨c', A, r1, r2, r3⟩ := F
  obtain ⟨p, e, s, m, args, below, meth, c, s1, f0, hx, hby, hZ, hown, hml, hnm, hrt, hlk, hK, hO⟩ := C
  obtain ⟨T, locs, X, eT, N, st⟩ := (hK _ _ _ _ _ _).mp H
  obtain ⟨T', h', X', e', W', st'⟩ := stI X hx hZ eT A (inb hj (r1.symm ▸ hi)) (g := mkF m pc L (.int x :: .int j :: .ref a :: rest)) rfl rfl (hb hby d)
  have N' := Fr.snoc X' N g
  rw [toNatClampNeg_of hj] at W'
  exact ⟨h', W', F0.set W', (hK _ _ _ _ _ _).mpr ⟨T', _, X', e', N', fun t k => st t (st' t k)⟩⟩
theorem k_bastore (C : Ctx l R n0 Z own bytes ml nm rt Q K O) {a : Addr} {j x : Int32} (H : K pc L (.int x :: .int j :: .ref a :: rest) h cl sl) {n : Nat} {f : Nat → Int32} (F : Ari Z h a .byte n f) {i : Nat} (hj : j.toInt = i) (hi : i < n) (g : n0 ≤ a) (d : decode bytes pc = .ok (.bastore, 1)) (hp : pc + 1 = pc') : ∃ h', Wr h h' a i (.int (nar .byte x)) ∧ Ari Z h' a .byte n (fun k => if k = i then nar .byte x else f k) ∧ K pc' L rest h' cl sl := by
  subst hp
  have F0 := F
  obtain ⟨c', A, r1, r2, r3⟩ := F
  obtain ⟨p, e, s, m, args, below, meth, c, s1, f0, hx, hby, hZ, hown, hml, hnm, hrt, hlk, hK, hO⟩ := C
  obtain ⟨T, locs, X, eT, N, st⟩ := (hK _ _ _ _ _ _).mp H
  obtain ⟨T', h', X', e', W', st'⟩ := stB X hx hZ eT A (inb hj (r1.symm ▸ hi)) (g := mkF m pc L (.int x :: .int j :: .ref a :: rest)) rfl rfl (hb hby d)
  have N' := Fr.snoc X' N g
  rw [toNatClampNeg_of hj] at W'
  exact ⟨h', W', F0.set W', (hK _ _ _ _ _ _).mpr ⟨T', _, X', e', N', fun t k => st t (st' t k)⟩⟩
theorem k_castore (C : Ctx l R n0 Z own bytes ml nm rt Q K O) {a : Addr} {j x : Int32} (H : K pc L (.int x :: .int j :: .ref a :: rest) h cl sl) {n : Nat} {f : Nat → Int32} (F : Ari Z h a .char n f) {i : Nat} (hj : j.toInt = i) (hi : i < n) (g : n0 ≤ a) (d : decode bytes pc = .ok (.castore, 1)) (hp : pc + 1 = pc') : ∃ h', Wr h h' a i (.int (nar .char x)) ∧ Ari Z h' a .char n (fun k => if k = i then nar .char x else f k) ∧ K pc' L rest h' cl sl := by
  subst hp
  have F0 := F
  obtain ⟨c', A, r1, r2, r3⟩ := F
  obtain ⟨p, e, s, m, args, below, meth, c, s1, f0, hx, hby, hZ, hown, hml, hnm, hrt, hlk, hK, hO⟩ := C
  obtain ⟨T, locs, X, eT, N, st⟩ := (hK _ _ _ _ _ _).mp H
  obtain ⟨T', h', X', e', W', st'⟩ := stC X hx hZ eT A (inb hj (r1.symm ▸ hi)) (g := mkF m pc L (.int x :: .int j :: .ref a :: rest)) rfl rfl (hb hby d)
  have N' := Fr.snoc X' N g
  rw [toNatClampNeg_of hj] at W'
  exact ⟨h', W', F0.set W', (hK _ _ _ _ _ _).mpr ⟨T', _, X', e', N', fun t k => st t (st' t k)⟩⟩
end ArrSteps

/-! arrays of references; clones; copies -/
def Arf (Z : State) (h : Heap) (a : Addr) (k : ClassId) (ty : FieldType) (n : Nat) (f : Nat → Value) : Prop := ∃ c : Cell, Arr Z h a c ty ∧ c.cls = k ∧ c.slots.size = n ∧ n < 2 ^ 31 ∧ ∀ i, i < n → c.slots[i]? = some (f i)
section Refs
variable {Z : State} {h h' : Heap} {a b : Addr} {k : ClassId} {ty : FieldType} {n : Nat} {f : Nat → Value} {sl : Nat} {v : Value} {ws : List Addr}
theorem Arf.lt (F : Arf Z h a k ty n f) : a < h.size := by obtain ⟨c, A, -⟩ := F; exact A.lt
theorem Arf.ext (F : Arf Z h a k ty n f) (E : Ext h h') : Arf Z h' a k ty n f := by obtain ⟨c, A, r⟩ := F; exact ⟨c, A.ext E, r⟩
theorem Arf.other (F : Arf Z h b k ty n f) (W : Wr h h' a sl v) (q : b ≠ a) : Arf Z h' b k ty n f := by obtain ⟨c, A, r⟩ := F; exact ⟨c, A.other W q, r⟩
theorem Arf.keep (F : Arf Z h a k ty n f) (K : Keep h h' ws) (q : a ∉ ws) : Arf Z h' a k ty n f := by obtain ⟨c, A, r⟩ := F; exact ⟨c, ⟨K.2.1 a c A.1 q, A.2⟩, r⟩
theorem Arf.congr (F : Arf Z h a k ty n f) {g : Nat → Value} (q : ∀ i, i < n → f i = g i) : Arf Z h a k ty n g := by obtain ⟨c, A, r0, r1, r2, r3⟩ := F; exact ⟨c, A, r0, r1, r2, fun i hi => by rw [r3 i hi, q i hi]⟩
theorem Arf.set (F : Arf Z h a k ty n f) {i : Nat} {x : Value} (W : Wr h h' a i x) : Arf Z h' a k ty n (fun k => if k = i then x else f k) := by
  obtain ⟨c, A, r0, r1, r2, r3⟩ := F
  refine ⟨c.setSlot i x, A.same W, r0, by rw [sz_set]; exact r1, r2, fun k hk => ?_⟩
  by_cases q : k = i
  · subst q
    simp [Cell.setSlot, r1, hk]
  · have : i ≠ k := fun z => q z.symm
    simp [Cell.setSlot, q, Array.getElem?_setIfInBounds_ne this, r3 k hk]
theorem Arf.ofNew {cA : ClassId} {z : Int32} (A : Arr Z h a (newA cA ty z) ty) (hz : z.toInt = n) (hd : defaultValue ty = .null) : Arf Z h a cA ty n (fun _ => .null) := by
  have hn : z.toNatClampNeg = n := toNatClampNeg_of hz
  refine ⟨_, A, rfl, by rw [sz_new, hn], by have := z.toInt_lt; omega, fun i hi => ?_⟩
  simp [newA, hn, hi, hd]
def lf (l : List Int32) : Nat → Int32 := fun k => l.getD k 0
theorem lf_set (l : List Int32) (i : Nat) (x : Int32) (hi : i < l.length) (k : Nat) : (if k = i then x else lf l k) = lf (l.set i x) k := by
  by_cases q : k = i
  · subst q; simp [lf, List.getD, hi]
  · have : ¬ i = k := fun z => q z.symm
    simp [lf, List.getD, q, List.getElem?_set_ne this]
theorem Ari.neX {g : Nat → Int32} {C : String} {a0 : Array Value} {j : Nat} (F : Ari Z h b ty n g) (E : Exa Z h a C) (wi : (Cond.instantiable C j).before a0 Z = true) : b ≠ a := by
  obtain ⟨c, A, -⟩ := F; exact (ne_arr E wi A).symm
theorem Arf.neX {C : String} {a0 : Array Value} {j : Nat} (F : Arf Z h b k ty n f) (E : Exa Z h a C) (wi : (Cond.instantiable C j).before a0 Z = true) : b ≠ a := by
  obtain ⟨c, A, -⟩ := F; exact (ne_arr E wi A).symm
theorem natInt {n : Nat} (hn : n < 2 ^ 31) : n.toInt32.toInt = n := len_toInt hn
theorem natClamp {n : Nat} (hn : n < 2 ^ 31) : n.toInt32.toNatClampNeg = n := toNatClampNeg_of (natInt hn)
theorem natNeg {n : Nat} (hn : n < 2 ^ 31) : ¬ n.toInt32 < 0 := by rw [Int32.lt_iff_toInt_lt, natInt hn]; exact Int.not_lt.mpr (Int.natCast_nonneg n)
theorem Ari.arv {g : Nat → Int32} (F : Ari Z h a .int n g) : ∃ k, Arv Z h a k .int n.toInt32 ((List.range n).map fun i => .int (g i)) (.int 0) := by
  obtain ⟨c, A, r1, r2, r3⟩ := F
  have e : ∀ i, i < n → ((List.range n).map fun i => (Value.int (g i))).getD i (.int 0) = .int (g i) := fun i hi => by simp [List.getD, hi]
  exact ⟨c.cls, c, A, rfl, by rw [natClamp r2]; exact r1, natNeg r2, fun i hi => by rw [e i (r1 ▸ hi)]; exact r3 i (r1 ▸ hi), fun i hi => by rw [e i (r1 ▸ hi)]; rfl⟩
theorem Ari.of_arv {g : Nat → Int32} {z : Int32} {vs : List Value} {d : Value} (F : Arv Z h a k .int z vs d) (hz : z.toInt = n) (hv : ∀ i, i < n → vs.getD i d = .int (g i)) : Ari Z h a .int n g := by
  obtain ⟨c, A, -, r1, r2, r3, -⟩ := F
  have hn : c.slots.size = n := r1.trans (toNatClampNeg_of hz)
  exact ⟨c, A, hn, by have := z.toInt_lt; omega, fun i hi => by rw [r3 i (hn ▸ hi), hv i hi]⟩
end Refs
section RefSteps
variable {l : Launch} {R : Room} {n0 : Nat} {Z : State} {own : String} {bytes : ByteArray} {ml : Nat} {nm : String} {rt : Option FieldType} {Q : Qt} {K : Kt} {O : Prop} {a0 : Array Value} {pc : Nat} {L : Array Slot} {S rest : List Value} {h : Heap} {cl sl : Nat} {pc' : Nat}
theorem k_newArrE (C : Ctx l R n0 Z own bytes ml nm rt Q K O) {n : Int32} (H : K pc L (.int n :: rest) h cl sl) {aty : ArrayType} (w : (Cond.arrayClass (newarray.typeOf aty)).before a0 Z = true) (d : decode bytes pc = .ok (.newarray aty, 2)) (hn : ¬ n < 0) {cap : Nat} (hcap : n.toNatClampNeg ≤ cap) (hb' : cap * 8 ≤ 536870912) (hc : cl + 1 ≤ R.cells) (hl : sl + cap ≤ R.slots) {ad : String} (had : "[" ++ (newarray.typeOf aty).toString = ad) (hp : pc + 2 = pc') :
    ∃ h' b cA, b = h.size ∧ Ext h h' ∧ Arr Z h' b (newA cA (newarray.typeOf aty) n) (newarray.typeOf aty) ∧ Exa Z h' b ad ∧ K pc' L (.ref b :: rest) h' (cl + 1) (sl + cap) := by
  subst hp
  obtain ⟨p, e, s, m, args, below, meth, c, s1, f0, hx, hby, hZ, hown, hml, hnm, hrt, hlk, hK, hO⟩ := C
  obtain ⟨T, locs, X, eT, N, st⟩ := (hK _ _ _ _ _ _).mp H
  obtain ⟨T', h', cA, X', e', E', A', Q', st'⟩ := newPE X hx hZ w eT (g := mkF m pc L (.int n :: rest)) rfl (hb hby d) rfl hn hcap hb' hc hl had
  exact ⟨h', _, cA, rfl, E', A', Q', (hK _ _ _ _ _ _).mpr ⟨T', _, X', e', N, fun t k => st t (st' t k)⟩⟩
theorem k_newRefA (C : Ctx l R n0 Z own bytes ml nm rt Q K O) {n : Int32} (H : K pc L (.int n :: rest) h cl sl) {i : Nat} {C' : String} {ty : FieldType} (hC : (FieldType.array ty).toString = C') (w1 : (Cond.classLink own i C').before a0 Z = true) (w2 : (Cond.arrayOver (.array ty)).before a0 Z = true) (d : decode bytes pc = .ok (.anewarray i, 3)) (hn : ¬ n < 0) {cap : Nat} (hcap : n.toNatClampNeg ≤ cap) (hb' : cap * 8 ≤ 536870912) (hc : cl + 1 ≤ R.cells) (hl : sl + cap ≤ R.slots) (hp : pc + 3 = pc') :
    ∃ h' b cA, b = h.size ∧ Ext h h' ∧ Arr Z h' b (newA cA (.array ty) n) (.array ty) ∧ OvrA Z cA ty C' ∧ K pc' L (.ref b :: rest) h' (cl + 1) (sl + cap) := by
  subst hp
  obtain ⟨p, e, s, m, args, below, meth, c, s1, f0, hx, hby, hZ, hown, hml, hnm, hrt, hlk, hK, hO⟩ := C
  obtain ⟨T, locs, X, eT, N, st⟩ := (hK _ _ _ _ _ _).mp H
  obtain ⟨T', h', cA, X', e', E', A', -, O', st'⟩ := newRA X hx hZ hown hC w1 w2 eT (g := mkF m pc L (.int n :: rest)) rfl (hb hby d) rfl hn hcap hb' hc hl rfl
  exact ⟨h', _, cA, rfl, E', A', O', (hK _ _ _ _ _ _).mpr ⟨T', _, X', e', N, fun t k => st t (st' t k)⟩⟩
theorem k_newRef (C : Ctx l R n0 Z own bytes ml nm rt Q K O) {n : Int32} (H : K pc L (.int n :: rest) h cl sl) {i : Nat} {C' : String} (w1 : (Cond.classLink own i C').before a0 Z = true) (w2 : (Cond.arrayOver (.object C')).before a0 Z = true) (d : decode bytes pc = .ok (.anewarray i, 3)) (hn : ¬ n < 0) {cap : Nat} (hcap : n.toNatClampNeg ≤ cap) (hb' : cap * 8 ≤ 536870912) (hc : cl + 1 ≤ R.cells) (hl : sl + cap ≤ R.slots) (hp : pc + 3 = pc') :
    ∃ h' b cA, b = h.size ∧ Ext h h' ∧ Arr Z h' b (newA cA (.object C') n) (.object C') ∧ Ovr Z cA C' ∧ K pc' L (.ref b :: rest) h' (cl + 1) (sl + cap) := by
  subst hp
  obtain ⟨p, e, s, m, args, below, meth, c, s1, f0, hx, hby, hZ, hown, hml, hnm, hrt, hlk, hK, hO⟩ := C
  obtain ⟨T, locs, X, eT, N, st⟩ := (hK _ _ _ _ _ _).mp H
  obtain ⟨T', h', cA, X', e', E', A', O', st'⟩ := newR X hx hZ hown w1 w2 eT (g := mkF m pc L (.int n :: rest)) rfl (hb hby d) rfl hn hcap hb' hc hl
  exact ⟨h', _, cA, rfl, E', A', O', (hK _ _ _ _ _ _).mpr ⟨T', _, X', e', N, fun t k => st t (st' t k)⟩⟩
theorem k_arflen (C : Ctx l R n0 Z own bytes ml nm rt Q K O) {a : Addr} (H : K pc L (.ref a :: rest) h cl sl) {k : ClassId} {ty : FieldType} {n : Nat} {f : Nat → Value} (F : Arf Z h a k ty n f) (d : decode bytes pc = .ok (.arraylength, 1)) (hp : pc + 1 = pc') : K pc' L (.int n.toInt32 :: rest) h cl sl := by
  subst hp
  obtain ⟨c', A, r0, r1, r2, r3⟩ := F
  exact C.pure H fun p e s m args below meth c T locs X hx hby hZ hown eT t k => X.arraylength hx (by rw [eT]; exact A.1) (State.isArrayOf_alike hZ.alike A.2.1) (g := mkF m pc L (.ref a :: rest)) rfl rfl (hb hby d) t (by rw [r1]; exact k)
theorem k_aaload (C : Ctx l R n0 Z own bytes ml nm rt Q K O) {a : Addr} {j : Int32} (H : K pc L (.int j :: .ref a :: rest) h cl sl) {k : ClassId} {ty : FieldType} {n : Nat} {f : Nat → Value} (F : Arf Z h a k ty n f) (hty : ty.isReference = true) {i : Nat} (hj : j.toInt = i) (hi : i < n) {v : Value} (hv : f i = v) (d : decode bytes pc = .ok (.aaload, 1)) (hp : pc + 1 = pc') : K pc' L (v :: rest) h cl sl := by
  subst hp hv
  obtain ⟨c', A, r0, r1, r2, r3⟩ := F
  exact C.pure H fun p e s m args below meth c T locs X hx hby hZ hown eT t k => X.aaload hx (by rw [eT]; exact A.1) (State.isArrayOf_alike hZ.alike A.2.1) hty A.2.2 (inb hj (r1.symm ▸ hi)) (by rw [toNatClampNeg_of hj]; exact r3 i hi) (g := mkF m pc L (.int j :: .ref a :: rest)) rfl rfl (hb hby d) t k
theorem k_aastore (C : Ctx l R n0 Z own bytes ml nm rt Q K O) {a : Addr} {j : Int32} {v : Value} (H : K pc L (v :: .int j :: .ref a :: rest) h cl sl) {k : ClassId} {ty : FieldType} {n : Nat} {f : Nat → Value} (F : Arf Z h a k ty n f) (hty : ty.isReference = true) (Sv : v = .null ∨ (∃ C', Ovr Z k C' ∧ ∃ y, v = .ref y ∧ Ins Z h y C' true) ∨ (∃ C' t', OvrA Z k t' C' ∧ ∃ y, v = .ref y ∧ Ins Z h y C' true)) {i : Nat} (hj : j.toInt = i) (hi : i < n) (g : n0 ≤ a) (d : decode bytes pc = .ok (.aastore, 1)) (hp : pc + 1 = pc') :
    ∃ h', Wr h h' a i v ∧ Arf Z h' a k ty n (fun k => if k = i then v else f k) ∧ K pc' L rest h' cl sl := by
  subst hp
  have F0 := F
  obtain ⟨c', A, r0, r1, r2, r3⟩ := F
  have Sx : Sto Z h a v := by
    rcases Sv with rfl | ⟨C', O', y, rfl, I⟩ | ⟨C', t', O', y, rfl, I⟩
    · exact Or.inl rfl
    · exact Sto.ofV A r0 O' I
    · exact Sto.ofVA A r0 O' I
  obtain ⟨p, e, s, m, args, below, meth, c, s1, f0, hx, hby, hZ, hown, hml, hnm, hrt, hlk, hK, hO⟩ := C
  obtain ⟨T, locs, X, eT, N, st⟩ := (hK _ _ _ _ _ _).mp H
  obtain ⟨T', h', X', e', W', st'⟩ := stR X hx hZ eT A (inb hj (r1.symm ▸ hi)) hty Sx (g := mkF m pc L (v :: .int j :: .ref a :: rest)) rfl rfl (hb hby d)
  have N' := Fr.snoc X' N g
  rw [toNatClampNeg_of hj] at W'
  exact ⟨h', W', F0.set W', (hK _ _ _ _ _ _).mpr ⟨T', _, X', e', N', fun t k => st t (st' t k)⟩⟩
theorem k_cloneI (C : Ctx l R n0 Z own bytes ml nm rt Q K O) {a : Addr} (H : K pc L (.ref a :: rest) h cl sl) {i : Nat} {n : Nat} {f : Nat → Int32} (F : Ari Z h a .int n f) (E : Exa Z h a "[I")
    (w1 : (Cond.methodLink own i ⟨"[I", "clone", "()Ljava/lang/Object;"⟩).before a0 Z = true) (w2 : (Cond.sameMethod "[I" "java/lang/Object" "clone" "()Ljava/lang/Object;").before a0 Z = true) (w3 : (Cond.native ⟨"java/lang/Object", "clone", "()Ljava/lang/Object;"⟩).before a0 Z = true)
    (w4 : (Cond.instanceMethod ⟨"java/lang/Object", "clone", "()Ljava/lang/Object;"⟩).before a0 Z = true) (w5 : (Cond.selects "[I" ⟨"[I", "clone", "()Ljava/lang/Object;"⟩ ⟨"java/lang/Object", "clone", "()Ljava/lang/Object;"⟩).before a0 Z = true) (w6 : (Cond.castable "[I" "java/lang/Cloneable").before a0 Z = true)
    (d : decode bytes pc = .ok (.invokevirtual i, 3)) (hsz : L.size = ml) (hf : 1 ≤ R.frames) (W : Nat) (hW : (rest.map fun v => v.category).sum = W) (hl : W + 14 ≤ R.locals) (hc : cl + 1 ≤ R.cells) (hs : sl + n ≤ R.slots) (hp : pc + 3 = pc') :
    ∃ h' b, b = h.size ∧ Ext h h' ∧ Ari Z h' b .int n f ∧ Exa Z h' b "[I" ∧ K pc' L (.ref b :: rest) h' (cl + 1) (sl + n) := by
  subst hp
  obtain ⟨c', A, r1, r2, r3⟩ := F
  have G : FitC Z c' := fitC_of A fun j hj v hv => by
    rw [r3 j (r1 ▸ hj)] at hv
    cases hv; rfl
  obtain ⟨p, e, s, m, args, below, meth, c, s1, f0, hx, hby, hZ, hown, hml, hnm, hrt, hlk, hK, hO⟩ := C
  obtain ⟨T, locs, X, eT, N, st⟩ := (hK _ _ _ _ _ _).mp H
  obtain ⟨T', h', X', e', E', A', Q', st'⟩ := cloneA X hx hZ hown w1 w2 w3 w4 w5 w6 eT A E G (g := mkF m pc L (.ref a :: rest)) rfl (hsz.trans hml.symm) rfl (hb hby d) hf (W := W) (by show 2 * 0 + _ ≤ _; omega) hl (cap := n) (Nat.le_of_eq r1) hc hs
  exact ⟨h', _, rfl, E', ⟨_, A', r1, r2, r3⟩, Q', (hK _ _ _ _ _ _).mpr ⟨T', _, X', e', N, fun t k => st t (st' t k)⟩⟩
theorem k_copyI (C : Ctx l R n0 Z own bytes ml nm rt Q K O) {a b : Addr} {zs zd zn : Int32} (H : K pc L (.int zn :: .int zd :: .ref b :: .int zs :: .ref a :: rest) h cl sl) {i : Nat} {n m : Nat} {f g : Nat → Int32} (A : Ari Z h a .int n f) (B : Ari Z h b .int m g) {sp dp nn : Nat} (h1 : zs.toInt = sp) (h2 : zd.toInt = dp) (h3 : zn.toInt = nn) (h4 : sp + nn ≤ n) (h5 : dp + nn ≤ m) (ge : n0 ≤ b)
    (w1 : (Cond.methodLink own i Jvm.Stand.acN).before a0 Z = true) (w2 : (Cond.native Jvm.Stand.acN).before a0 Z = true) (w3 : (Cond.static Jvm.Stand.acN).before a0 Z = true) (w4 : (Cond.initialized "java/lang/System").before a0 Z = true)
    (d : decode bytes pc = .ok (.invokestatic i, 3)) (hsz : L.size = ml) (hf : 1 ≤ R.frames) (W : Nat) (hW : (rest.map fun v => v.category).sum = W) (hl : W + (nativeFrameWords "java/lang/System" "arraycopy" 5 + 11) ≤ R.locals) (hp : pc + 3 = pc') :
    ∃ h', Keep h h' [b] ∧ Ari Z h' b .int m (fun k => if dp ≤ k ∧ k < dp + nn then f (sp + (k - dp)) else g k) ∧ K pc' L rest h' cl sl := by
  subst hp
  have lA : n < 2 ^ 31 := by obtain ⟨_, _, _, r, _⟩ := A; exact r
  have lB : m < 2 ^ 31 := by obtain ⟨_, _, _, r, _⟩ := B; exact r
  obtain ⟨k1, VA⟩ := A.arv
  obtain ⟨k2, VB⟩ := B.arv
  have c1 := toNatClampNeg_of h1
  have c2 := toNatClampNeg_of h2
  have c3 := toNatClampNeg_of h3
  have neg : ∀ {z : Int32} {q : Nat}, z.toInt = q → ¬ z < 0 := fun e => by rw [Int32.lt_iff_toInt_lt, e]; exact Int.not_lt.mpr (Int.natCast_nonneg _)
  obtain ⟨p, e, s, m', args, below, meth, c, s1, f0, hx, hby, hZ, hown, hml, hnm, hrt, hlk, hK, hO⟩ := C
  obtain ⟨T, locs, X, eT, N, st⟩ := (hK _ _ _ _ _ _).mp H
  obtain ⟨T', h', L', X', e', N', K', V', st'⟩ := cpA X hx hZ hown w1 w2 w3 w4 eT VA VB (Or.inl ⟨rfl, rfl⟩) (neg h1) (neg h2) (neg h3) (by rw [c1, c3, natClamp lA]; exact h4) (by rw [c2, c3, natClamp lB]; exact h5) rfl (by rw [c2, c3]; simpa using h5) N ge (g := mkF m' pc L (.int zn :: .int zd :: .ref b :: .int zs :: .ref a :: rest)) rfl (hsz.trans hml.symm) rfl (hb hby d) hf (W := W) (by show 2 * 0 + _ ≤ _; omega) hl
  refine ⟨h', K', Ari.of_arv V' (natInt lB) (fun j hj => ?_), (hK _ _ _ _ _ _).mpr ⟨T', _, X', e', N', fun t k => st t (st' t k)⟩⟩
  rw [c1, c2, c3]
  by_cases q1 : j < dp
  · have : ¬ (dp ≤ j ∧ j < dp + nn) := by omega
    rw [if_neg this]
    have x3 : j < min dp m := by omega
    simp [List.getD, List.getElem?_append, q1, hj, x3]
  · by_cases q2 : j < dp + nn
    · have : dp ≤ j ∧ j < dp + nn := by omega
      rw [if_pos this]
      have x1 : sp + (j - dp) < n := by omega
      have x2 : j - dp < nn := by omega
      have x3 : min dp m = dp := by omega
      simp [List.getD, List.getElem?_append, q1, x1, x2, x3]
    · have : ¬ (dp ≤ j ∧ j < dp + nn) := by omega
      rw [if_neg this]
      have x3 : min dp m = dp := by omega
      have x4 : ¬ j - dp < nn := by omega
      have x5 : dp + nn + (j - dp - nn) = j := by omega
      simp [List.getD, List.getElem?_append, q1, x3, x4, x5, hj]
theorem k_callPri (C : Ctx l R n0 Z own bytes ml nm rt Q K O) (H : K pc L S h cl sl) {i : Nat} {y : MethodName} {bytes' : ByteArray} {ml' : Nat} {rt' : Option FieldType} {rm : Room} {as : Array Value} {Q' : Qt} (k : Con l y bytes' ml' rt' rm Z as h n0 Q') {a : Addr} {C' : String} (E : Exa Z h a C')
    (w1 : (Cond.methodLink own i y).before a0 Z = true) (w2 : (Cond.instanceMethod y).before a0 Z = true) (w3 : (Cond.selects y.cls y y).before a0 Z = true) (w4 : (Cond.privateMethod y).before a0 Z = true) (w5 : (Cond.initialized y.cls).before a0 Z = true) (w6 : (Cond.code y bytes' ml' rt').before a0 Z = true) (hy : y.cls ≠ "java/lang/invoke/MethodHandle" ∧ y.cls ≠ "java/lang/invoke/VarHandle")
    (d : decode bytes pc = .ok (.invokevirtual i, 3)) (hsz : L.size = ml) (argsL rest : List Value) {ps : List FieldType} {rt2 : Option FieldType} (hd : parseMethodDescriptor y.desc = some ⟨ps, rt2⟩) (hlen : argsL.length = ps.length) (hS : S = argsL.reverse ++ .ref a :: rest) (has : (.ref a :: argsL).toArray = as) (W : Nat) (hW : (rest.map fun v => v.category).sum = W)
    (hfr : rm.frames + 1 ≤ R.frames) (hlo : W + (ml' + 11) + rm.locals ≤ R.locals) (hc : cl + rm.cells ≤ R.cells) (hs : sl + rm.slots ≤ R.slots) (hp : pc + 3 = pc') :
    ∃ v h', Q' v h' ∧ K pc' L (v.toList ++ rest) h' (cl + rm.cells) (sl + rm.slots) := by
  subst hp
  obtain ⟨p, e, s, m, args, below, meth, c, s1, f0, hx, hby, hZ, hown, hml, hnm, hrt, hlk, hK, hO⟩ := C
  obtain ⟨T, locs, X, eT, N, st⟩ := (hK _ _ _ _ _ _).mp H
  obtain ⟨cq, q1, q2⟩ := E.cell
  obtain ⟨v, _, ⟨T', L', k', n'⟩, -, X', ⟨Lc, ⟨hQ, hF⟩, l', y', z'⟩, st'⟩ := X.privateBack hx (y := y) hown (mvT hZ w1) (mvT hZ w2) (mvT hZ w3) (Cond.privateMethod_at (mvP hZ w4 (args := #[]))) (mvT hZ w6) hy (backOf (Q := fun v h' L => Q' v h' ∧ Fr n0 L) (W := W) (k []) hZ w6 w5 hfr hlo) (g := mkF m pc L S) rfl (hsz.trans hml.symm) (Steps.refl _) (a := a) (by rw [eT]; exact q1) q2 (argsL := argsL) (rest := rest) (lenOf hd hlen) hS (by show 2 * 0 + _ ≤ _; omega) (hb hby d) (fun _ _ => ⟨has, eT, hc, hs⟩)
  dsimp only [Pt.U, Pt.locs, Pt.cells, Pt.slots] at X' l' y' z' st' hQ
  subst l' y' z'
  exact ⟨v, T'.heap, hQ, (hK _ _ _ _ _ _).mpr ⟨T', _, X', rfl, N.app hF, fun t k => st t (st'.trans k)⟩⟩
theorem k_callInt (C : Ctx l R n0 Z own bytes ml nm rt Q K O) (H : K pc L S h cl sl) {i cn : Nat} {xi y : MethodName} {bytes' : ByteArray} {ml' : Nat} {rt' : Option FieldType} {rm : Room} {as : Array Value} {Q' : Qt} (k : Con l y bytes' ml' rt' rm Z as h n0 Q') {a : Addr} {C' : String} (E : Exa Z h a C')
    (w1 : (Cond.methodLink own i xi).before a0 Z = true) (w2 : (Cond.declares xi).before a0 Z = true) (w3 : (Cond.interfaceMethod xi.cls xi.cls xi.name xi.desc).before a0 Z = true) (w3' : ((Cond.interfaceMethod xi.cls xi.cls xi.name xi.desc).onTables && (Cond.interfaceMethod xi.cls xi.cls xi.name xi.desc).keepsFace) = true) (w4 : (Cond.selects C' xi y).before a0 Z = true) (w5 : (Cond.instanceMethod y).before a0 Z = true) (w6 : (Cond.publicMethod y).before a0 Z = true) (w7 : (Cond.unhidden C' xi.name xi.desc).before a0 Z = true) (w8 : (Cond.castable C' xi.cls).before a0 Z = true) (w9 : (Cond.initialized y.cls).before a0 Z = true) (wc : (Cond.code y bytes' ml' rt').before a0 Z = true) (hy : xi.cls ≠ "java/lang/invoke/MethodHandle" ∧ xi.cls ≠ "java/lang/invoke/VarHandle")
    (d : decode bytes pc = .ok (.invokeinterface i cn, 5)) (hsz : L.size = ml) (argsL rest : List Value) {ps : List FieldType} {rt2 : Option FieldType} (hd : parseMethodDescriptor xi.desc = some ⟨ps, rt2⟩) (hlen : argsL.length = ps.length) (hS : S = argsL.reverse ++ .ref a :: rest) (has : (.ref a :: argsL).toArray = as) (W : Nat) (hW : (rest.map fun v => v.category).sum = W)
    (hfr : rm.frames + 1 ≤ R.frames) (hlo : W + (ml' + 11) + rm.locals ≤ R.locals) (hc : cl + rm.cells ≤ R.cells) (hs : sl + rm.slots ≤ R.slots) (hp : pc + 5 = pc') :
    ∃ v h', Q' v h' ∧ K pc' L (v.toList ++ rest) h' (cl + rm.cells) (sl + rm.slots) := by
  subst hp
  obtain ⟨p, e, s, m, args, below, meth, c, s1, f0, hx, hby, hZ, hown, hml, hnm, hrt, hlk, hK, hO⟩ := C
  obtain ⟨T, locs, X, eT, N, st⟩ := (hK _ _ _ _ _ _).mp H
  obtain ⟨cq, kq, qa, qb, qc⟩ := isOf hZ eT E
  obtain ⟨v, _, ⟨T', L', k', n'⟩, -, X', ⟨Lc, ⟨hQ, hF⟩, l', y', z'⟩, st'⟩ := X.interfaceBack hx (xi := xi) (y := y) hown (mvT hZ w1) (mvT hZ w2) (mvT hZ w3 w3') (mvT hZ w4) (mvT hZ w5) (mvT hZ w6) (mvT hZ w7) (mvT hZ w8) hy (backOf (Q := fun v h' L => Q' v h' ∧ Fr n0 L) (W := W) (k []) hZ wc w9 hfr hlo) qa qb qc (g := mkF m pc L S) rfl (hsz.trans hml.symm) (Steps.refl _) (argsL := argsL) (rest := rest) (lenOf hd hlen) hS (by show 2 * 0 + _ ≤ _; omega) (hb hby d) (fun _ _ => ⟨has, eT, hc, hs⟩)
  dsimp only [Pt.U, Pt.locs, Pt.cells, Pt.slots] at X' l' y' z' st' hQ
  subst l' y' z'
  exact ⟨v, T'.heap, hQ, (hK _ _ _ _ _ _).mpr ⟨T', _, X', rfl, N.app hF, fun t k => st t (st'.trans k)⟩⟩
end RefSteps
end Jvm.OwnK
@@BLOCK:HandJ.lean.txt@@
@@BLOCK:SymMore.lean.txt@@
namespace Jvm.Pilot.@@N@@
open Jvm Jvm.ClassFile Sem Op Lib Jvm.Free Jvm.Stand Jvm.LawKit Jvm.RoadKit Bundle Jvm.OwnK Jvm.Pilot.@@N@@.Jvm.D
def own_min (p1 : Int32) (p2 : Int32) : Int32 := (if p2 < p1 then p2 else p1)
theorem d1_0 : decode jdk_29_method_69_code 0 = .ok (.iload_n 0, 1) := by decide +kernel
theorem d1_1 : decode jdk_29_method_69_code 1 = .ok (.iload_n 1, 1) := by decide +kernel
theorem d1_2 : decode jdk_29_method_69_code 2 = .ok (.if_icmp .gt 7, 3) := by decide +kernel
theorem d1_5 : decode jdk_29_method_69_code 5 = .ok (.iload_n 0, 1) := by decide +kernel
theorem d1_6 : decode jdk_29_method_69_code 6 = .ok (.goto 4, 3) := by decide +kernel
theorem d1_9 : decode jdk_29_method_69_code 9 = .ok (.iload_n 1, 1) := by decide +kernel
theorem d1_10 : decode jdk_29_method_69_code 10 = .ok (.ireturn, 1) := by decide +kernel
theorem pl_1 : plainFor (⟨"java/lang/Math", "min", "(II)I"⟩ : MethodName) = true := Jvm.Free.JP.mathPlain rfl (by decide +kernel)
theorem ef_1 (mm : MethodId) (p1 : Int32) (p2 : Int32) : entryFrame mm #[(.int p1), (.int p2)] 2 = mkF mm 0 #[.val (.int p1), .val (.int p2)] [] := by first | (simp [entryFrame, mkF, argsToLocals, Value.category]; done) | rfl
set_option maxRecDepth 65536 in
set_option maxHeartbeats 40000000 in
theorem rm1 (l : Launch) (Z : State) (a0 : Array Value) (hw : ∀ d ∈ tables_1, d.before a0 Z = true) (p1 : Int32) (p2 : Int32) (h0 : Heap) (n0 : Nat)  :
    Con l (⟨"java/lang/Math", "min", "(II)I"⟩ : MethodName) jdk_29_method_69_code 2 (some .int) ({ frames := 0, cells := 0, slots := 0, locals := 0 } : Room) Z #[(.int p1), (.int p2)] h0 n0 (fun o h => o = some (.int (own_min p1 p2)) ∧ h0 = h) := by
  refine Con.enter pl_1 (fun mm => ef_1 mm p1 p2) ?_
  intro K O C H
  replace H := k_iloadN C H d1_0 rfl (pc' := 1) rfl
  replace H := k_iloadN C H d1_1 rfl (pc' := 2) rfl
  by_cases hc2 : p2 < p1
  · replace H := k_icmpY C H d1_2 (tlt hc2).2.2.1 (by decide) (pc' := 9) rfl
    replace H := k_iloadN C H d1_9 rfl (pc' := 10) rfl
    exact k_retI C H d1_10 (by decide) (by decide) ⟨by rw [own_min, if_pos hc2], rfl⟩
  · replace H := k_icmpN C H d1_2 (flt hc2).2.2.1 (pc' := 5) rfl
    replace H := k_iloadN C H d1_5 rfl (pc' := 6) rfl
    replace H := k_goto C H d1_6 (by decide) (pc' := 10) rfl
    exact k_retI C H d1_10 (by decide) (by decide) ⟨by rw [own_min, if_neg hc2], rfl⟩
theorem dV_0 : decode prog_53_method_12_code 0 = .ok (.aload_n 1, 1) := by decide +kernel
theorem dV_1 : decode prog_53_method_12_code 1 = .ok (.arraylength, 1) := by decide +kernel
theorem dV_2 : decode prog_53_method_12_code 2 = .ok (.aload_n 0, 1) := by decide +kernel
theorem dV_3 : decode prog_53_method_12_code 3 = .ok (.arraylength, 1) := by decide +kernel
theorem dV_4 : decode prog_53_method_12_code 4 = .ok (.if_icmp .eq 20, 3) := by decide +kernel
theorem dV_24 : decode prog_53_method_12_code 24 = .ok (.iconst 0, 1) := by decide +kernel
theorem dV_25 : decode prog_53_method_12_code 25 = .ok (.istore_n 2, 1) := by decide +kernel
theorem dV_26 : decode prog_53_method_12_code 26 = .ok (.iload_n 2, 1) := by decide +kernel
theorem dV_27 : decode prog_53_method_12_code 27 = .ok (.aload_n 0, 1) := by decide +kernel
theorem dV_28 : decode prog_53_method_12_code 28 = .ok (.arraylength, 1) := by decide +kernel
theorem dV_29 : decode prog_53_method_12_code 29 = .ok (.if_icmp .ge 59, 3) := by decide +kernel
theorem dV_32 : decode prog_53_method_12_code 32 = .ok (.aload_n 0, 1) := by decide +kernel
theorem dV_33 : decode prog_53_method_12_code 33 = .ok (.iload_n 2, 1) := by decide +kernel
theorem dV_34 : decode prog_53_method_12_code 34 = .ok (.iaload, 1) := by decide +kernel
theorem dV_35 : decode prog_53_method_12_code 35 = .ok (.ifCond .ge 17, 3) := by decide +kernel
theorem dV_52 : decode prog_53_method_12_code 52 = .ok (.aload_n 1, 1) := by decide +kernel
theorem dV_53 : decode prog_53_method_12_code 53 = .ok (.iload_n 2, 1) := by decide +kernel
theorem dV_54 : decode prog_53_method_12_code 54 = .ok (.iaload, 1) := by decide +kernel
theorem dV_55 : decode prog_53_method_12_code 55 = .ok (.ifCond .eq 27, 3) := by decide +kernel
theorem dV_82 : decode prog_53_method_12_code 82 = .ok (.iinc 2 1, 3) := by decide +kernel
theorem dV_85 : decode prog_53_method_12_code 85 = .ok (.goto (-59), 3) := by decide +kernel
theorem dV_88 : decode prog_53_method_12_code 88 = .ok (.return_, 1) := by decide +kernel
theorem pl_V : plainFor (⟨"com/example/equilibrate/equilibrate/model/ParityGame", "checkVertices", "([I[I)V"⟩ : MethodName) = true := plainFor_of_name (by first | (simp [plainName, overriddenIn]; done) | decide +kernel)
theorem ef_V (mm : MethodId) (a1 : Addr) (a2 : Addr) : entryFrame mm #[(.ref a1), (.ref a2)] 3 = mkF mm 0 #[.val (.ref a1), .val (.ref a2), .unset] [] := by first | (simp [entryFrame, mkF, argsToLocals, Value.category]; done) | rfl
set_option maxRecDepth 65536 in
set_option maxHeartbeats 40000000 in
theorem rmV (l : Launch) (Z : State) (a0 : Array Value) (hw : ∀ d ∈ tables_1, d.before a0 Z = true) (a1 : Addr) (a2 : Addr) (h0 : Heap) (n0 : Nat) (A : Ari Z h0 a1 .int 4 (lf [(0 : Int32), (0 : Int32), (0 : Int32), (0 : Int32)])) (B : Ari Z h0 a2 .int 4 (lf [(0 : Int32), (0 : Int32), (0 : Int32), (0 : Int32)])) :
    Con l (⟨"com/example/equilibrate/equilibrate/model/ParityGame", "checkVertices", "([I[I)V"⟩ : MethodName) prog_53_method_12_code 3 none ({ frames := 0, cells := 0, slots := 0, locals := 0 } : Room) Z #[(.ref a1), (.ref a2)] h0 n0 (fun o h => o = none ∧ h0 = h) := by
  refine Con.enter pl_V (fun mm => ef_V mm a1 a2) ?_
  intro K O C H
  replace H := k_aloadN C H dV_0 rfl rfl (pc' := 1) rfl
  replace H := k_arrlen C H B dV_1 (pc' := 2) rfl
  replace H : K 2 #[.val (.ref a1), .val (.ref a2), .unset] [(.int (4 : Int32))] h0 0 0 := H
  replace H := k_aloadN C H dV_2 rfl rfl (pc' := 3) rfl
  replace H := k_arrlen C H A dV_3 (pc' := 4) rfl
  replace H : K 4 #[.val (.ref a1), .val (.ref a2), .unset] [(.int (4 : Int32)), (.int (4 : Int32))] h0 0 0 := H
  replace H := k_icmpY C H dV_4 (teq (by decide : (4 : Int32) = (4 : Int32))).1 (by decide) (pc' := 24) rfl
  replace H := k_iconst C H (v := 0) dV_24 rfl (pc' := 25) rfl
  replace H := k_istoreN C H dV_25 (L' := #[.val (.ref a1), .val (.ref a2), .val (.int (0 : Int32))]) rfl (pc' := 26) rfl
  replace H := k_iloadN C H dV_26 rfl (pc' := 27) rfl
  replace H := k_aloadN C H dV_27 rfl rfl (pc' := 28) rfl
  replace H := k_arrlen C H A dV_28 (pc' := 29) rfl
  replace H : K 29 #[.val (.ref a1), .val (.ref a2), .val (.int (0 : Int32))] [(.int (4 : Int32)), (.int (0 : Int32))] h0 0 0 := H
  replace H := k_icmpN C H dV_29 (tlt (by decide : (0 : Int32) < (4 : Int32))).2.1 (pc' := 32) rfl
  replace H := k_aloadN C H dV_32 rfl rfl (pc' := 33) rfl
  replace H := k_iloadN C H dV_33 rfl (pc' := 34) rfl
  replace H := k_iaload C H A (i := 0) (by decide) (by decide) dV_34 (pc' := 35) rfl
  replace H : K 35 #[.val (.ref a1), .val (.ref a2), .val (.int (0 : Int32))] [(.int (0 : Int32))] h0 0 0 := H
  replace H := k_ifcY C H dV_35 (flt (by decide : ¬ ((0 : Int32) < (0 : Int32)))).2.1 (by decide) (pc' := 52) rfl
  replace H := k_aloadN C H dV_52 rfl rfl (pc' := 53) rfl
  replace H := k_iloadN C H dV_53 rfl (pc' := 54) rfl
  replace H := k_iaload C H B (i := 0) (by decide) (by decide) dV_54 (pc' := 55) rfl
  replace H : K 55 #[.val (.ref a1), .val (.ref a2), .val (.int (0 : Int32))] [(.int (0 : Int32))] h0 0 0 := H
  replace H := k_ifcY C H dV_55 (teq (by decide : (0 : Int32) = (0 : Int32))).1 (by decide) (pc' := 82) rfl
  replace H := k_iinc C H (y := ((0 : Int32) + (1 : Int32))) dV_82 rfl rfl (L' := #[.val (.ref a1), .val (.ref a2), .val (.int ((0 : Int32) + (1 : Int32)))]) rfl (pc' := 85) rfl
  replace H : K 85 #[.val (.ref a1), .val (.ref a2), .val (.int (1 : Int32))] [] h0 0 0 := H
  replace H := k_goto C H dV_85 (by decide) (pc' := 26) rfl
  replace H := k_iloadN C H dV_26 rfl (pc' := 27) rfl
  replace H := k_aloadN C H dV_27 rfl rfl (pc' := 28) rfl
  replace H := k_arrlen C H A dV_28 (pc' := 29) rfl
  replace H : K 29 #[.val (.ref a1), .val (.ref a2), .val (.int (1 : Int32))] [(.int (4 : Int32)), (.int (1 : Int32))] h0 0 0 := H
  replace H := k_icmpN C H dV_29 (tlt (by decide : (1 : Int32) < (4 : Int32))).2.1 (pc' := 32) rfl
  replace H := k_aloadN C H dV_32 rfl rfl (pc' := 33) rfl
  replace H := k_iloadN C H dV_33 rfl (pc' := 34) rfl
  replace H := k_iaload C H A (i := 1) (by decide) (by decide) dV_34 (pc' := 35) rfl
  replace H : K 35 #[.val (.ref a1), .val (.ref a2), .val (.int (1 : Int32))] [(.int (0 : Int32))] h0 0 0 := H
  replace H := k_ifcY C H dV_35 (flt (by decide : ¬ ((0 : Int32) < (0 : Int32)))).2.1 (by decide) (pc' := 52) rfl
  replace H := k_aloadN C H dV_52 rfl rfl (pc' := 53) rfl
  replace H := k_iloadN C H dV_53 rfl (pc' := 54) rfl
  replace H := k_iaload C H B (i := 1) (by decide) (by decide) dV_54 (pc' := 55) rfl
  replace H : K 55 #[.val (.ref a1), .val (.ref a2), .val (.int (1 : Int32))] [(.int (0 : Int32))] h0 0 0 := H
  replace H := k_ifcY C H dV_55 (teq (by decide : (0 : Int32) = (0 : Int32))).1 (by decide) (pc' := 82) rfl
  replace H := k_iinc C H (y := ((1 : Int32) + (1 : Int32))) dV_82 rfl rfl (L' := #[.val (.ref a1), .val (.ref a2), .val (.int ((1 : Int32) + (1 : Int32)))]) rfl (pc' := 85) rfl
  replace H : K 85 #[.val (.ref a1), .val (.ref a2), .val (.int (2 : Int32))] [] h0 0 0 := H
  replace H := k_goto C H dV_85 (by decide) (pc' := 26) rfl
  replace H := k_iloadN C H dV_26 rfl (pc' := 27) rfl
  replace H := k_aloadN C H dV_27 rfl rfl (pc' := 28) rfl
  replace H := k_arrlen C H A dV_28 (pc' := 29) rfl
  replace H : K 29 #[.val (.ref a1), .val (.ref a2), .val (.int (2 : Int32))] [(.int (4 : Int32)), (.int (2 : Int32))] h0 0 0 := H
  replace H := k_icmpN C H dV_29 (tlt (by decide : (2 : Int32) < (4 : Int32))).2.1 (pc' := 32) rfl
  replace H := k_aloadN C H dV_32 rfl rfl (pc' := 33) rfl
  replace H := k_iloadN C H dV_33 rfl (pc' := 34) rfl
  replace H := k_iaload C H A (i := 2) (by decide) (by decide) dV_34 (pc' := 35) rfl
  replace H : K 35 #[.val (.ref a1), .val (.ref a2), .val (.int (2 : Int32))] [(.int (0 : Int32))] h0 0 0 := H
  replace H := k_ifcY C H dV_35 (flt (by decide : ¬ ((0 : Int32) < (0 : Int32)))).2.1 (by decide) (pc' := 52) rfl
  replace H := k_aloadN C H dV_52 rfl rfl (pc' := 53) rfl
  replace H := k_iloadN C H dV_53 rfl (pc' := 54) rfl
  replace H := k_iaload C H B (i := 2) (by decide) (by decide) dV_54 (pc' := 55) rfl
  replace H : K 55 #[.val (.ref a1), .val (.ref a2), .val (.int (2 : Int32))] [(.int (0 : Int32))] h0 0 0 := H
  replace H := k_ifcY C H dV_55 (teq (by decide : (0 : Int32) = (0 : Int32))).1 (by decide) (pc' := 82) rfl
  replace H := k_iinc C H (y := ((2 : Int32) + (1 : Int32))) dV_82 rfl rfl (L' := #[.val (.ref a1), .val (.ref a2), .val (.int ((2 : Int32) + (1 : Int32)))]) rfl (pc' := 85) rfl
  replace H : K 85 #[.val (.ref a1), .val (.ref a2), .val (.int (3 : Int32))] [] h0 0 0 := H
  replace H := k_goto C H dV_85 (by decide) (pc' := 26) rfl
  replace H := k_iloadN C H dV_26 rfl (pc' := 27) rfl
  replace H := k_aloadN C H dV_27 rfl rfl (pc' := 28) rfl
  replace H := k_arrlen C H A dV_28 (pc' := 29) rfl
  replace H : K 29 #[.val (.ref a1), .val (.ref a2), .val (.int (3 : Int32))] [(.int (4 : Int32)), (.int (3 : Int32))] h0 0 0 := H
  replace H := k_icmpN C H dV_29 (tlt (by decide : (3 : Int32) < (4 : Int32))).2.1 (pc' := 32) rfl
  replace H := k_aloadN C H dV_32 rfl rfl (pc' := 33) rfl
  replace H := k_iloadN C H dV_33 rfl (pc' := 34) rfl
  replace H := k_iaload C H A (i := 3) (by decide) (by decide) dV_34 (pc' := 35) rfl
  replace H : K 35 #[.val (.ref a1), .val (.ref a2), .val (.int (3 : Int32))] [(.int (0 : Int32))] h0 0 0 := H
  replace H := k_ifcY C H dV_35 (flt (by decide : ¬ ((0 : Int32) < (0 : Int32)))).2.1 (by decide) (pc' := 52) rfl
  replace H := k_aloadN C H dV_52 rfl rfl (pc' := 53) rfl
  replace H := k_iloadN C H dV_53 rfl (pc' := 54) rfl
  replace H := k_iaload C H B (i := 3) (by decide) (by decide) dV_54 (pc' := 55) rfl
  replace H : K 55 #[.val (.ref a1), .val (.ref a2), .val (.int (3 : Int32))] [(.int (0 : Int32))] h0 0 0 := H
  replace H := k_ifcY C H dV_55 (teq (by decide : (0 : Int32) = (0 : Int32))).1 (by decide) (pc' := 82) rfl
  replace H := k_iinc C H (y := ((3 : Int32) + (1 : Int32))) dV_82 rfl rfl (L' := #[.val (.ref a1), .val (.ref a2), .val (.int ((3 : Int32) + (1 : Int32)))]) rfl (pc' := 85) rfl
  replace H : K 85 #[.val (.ref a1), .val (.ref a2), .val (.int (4 : Int32))] [] h0 0 0 := H
  replace H := k_goto C H dV_85 (by decide) (pc' := 26) rfl
  replace H := k_iloadN C H dV_26 rfl (pc' := 27) rfl
  replace H := k_aloadN C H dV_27 rfl rfl (pc' := 28) rfl
  replace H := k_arrlen C H A dV_28 (pc' := 29) rfl
  replace H : K 29 #[.val (.ref a1), .val (.ref a2), .val (.int (4 : Int32))] [(.int (4 : Int32)), (.int (4 : Int32))] h0 0 0 := H
  replace H := k_icmpY C H dV_29 (flt (by decide : ¬ ((4 : Int32) < (4 : Int32)))).2.1 (by decide) (pc' := 88) rfl
  exact k_retV C H dV_88 (by decide) (by decide) ⟨rfl, rfl⟩
theorem dS_0 : decode prog_41_method_14_code 0 = .ok (.aload_n 1, 1) := by decide +kernel
theorem dS_1 : decode prog_41_method_14_code 1 = .ok (.arraylength, 1) := by decide +kernel
theorem dS_2 : decode prog_41_method_14_code 2 = .ok (.iload_n 0, 1) := by decide +kernel
theorem dS_3 : decode prog_41_method_14_code 3 = .ok (.if_icmp .eq 19, 3) := by decide +kernel
theorem dS_22 : decode prog_41_method_14_code 22 = .ok (.iload_n 0, 1) := by decide +kernel
theorem dS_23 : decode prog_41_method_14_code 23 = .ok (.iconst 1, 1) := by decide +kernel
theorem dS_24 : decode prog_41_method_14_code 24 = .ok (.iadd, 1) := by decide +kernel
theorem dS_25 : decode prog_41_method_14_code 25 = .ok (.newarray .int, 2) := by decide +kernel
theorem dS_27 : decode prog_41_method_14_code 27 = .ok (.astore_n 2, 1) := by decide +kernel
theorem dS_28 : decode prog_41_method_14_code 28 = .ok (.lconst 0, 1) := by decide +kernel
theorem dS_29 : decode prog_41_method_14_code 29 = .ok (.lstore_n 3, 1) := by decide +kernel
theorem dS_30 : decode prog_41_method_14_code 30 = .ok (.iconst 0, 1) := by decide +kernel
theorem dS_31 : decode prog_41_method_14_code 31 = .ok (.istore 5, 2) := by decide +kernel
theorem dS_33 : decode prog_41_method_14_code 33 = .ok (.iload 5, 2) := by decide +kernel
theorem dS_35 : decode prog_41_method_14_code 35 = .ok (.iload_n 0, 1) := by decide +kernel
theorem dS_36 : decode prog_41_method_14_code 36 = .ok (.if_icmp .ge 44, 3) := by decide +kernel
theorem dS_39 : decode prog_41_method_14_code 39 = .ok (.lload_n 3, 1) := by decide +kernel
theorem dS_40 : decode prog_41_method_14_code 40 = .ok (.aload_n 1, 1) := by decide +kernel
theorem dS_41 : decode prog_41_method_14_code 41 = .ok (.iload 5, 2) := by decide +kernel
theorem dS_43 : decode prog_41_method_14_code 43 = .ok (.aaload, 1) := by decide +kernel
theorem dS_44 : decode prog_41_method_14_code 44 = .ok (.arraylength, 1) := by decide +kernel
theorem dS_45 : decode prog_41_method_14_code 45 = .ok (.i2l, 1) := by decide +kernel
theorem dS_46 : decode prog_41_method_14_code 46 = .ok (.ladd, 1) := by decide +kernel
theorem dS_47 : decode prog_41_method_14_code 47 = .ok (.lstore_n 3, 1) := by decide +kernel
theorem dS_48 : decode prog_41_method_14_code 48 = .ok (.lload_n 3, 1) := by decide +kernel
theorem dS_49 : decode prog_41_method_14_code 49 = .ok (.ldc2_w 79, 3) := by decide +kernel
theorem dS_52 : decode prog_41_method_14_code 52 = .ok (.lcmp, 1) := by decide +kernel
theorem dS_53 : decode prog_41_method_14_code 53 = .ok (.ifCond .le 13, 3) := by decide +kernel
theorem dS_66 : decode prog_41_method_14_code 66 = .ok (.aload_n 2, 1) := by decide +kernel
theorem dS_67 : decode prog_41_method_14_code 67 = .ok (.iload 5, 2) := by decide +kernel
theorem dS_69 : decode prog_41_method_14_code 69 = .ok (.iconst 1, 1) := by decide +kernel
theorem dS_70 : decode prog_41_method_14_code 70 = .ok (.iadd, 1) := by decide +kernel
theorem dS_71 : decode prog_41_method_14_code 71 = .ok (.lload_n 3, 1) := by decide +kernel
theorem dS_72 : decode prog_41_method_14_code 72 = .ok (.l2i, 1) := by decide +kernel
theorem dS_73 : decode prog_41_method_14_code 73 = .ok (.iastore, 1) := by decide +kernel
theorem dS_74 : decode prog_41_method_14_code 74 = .ok (.iinc 5 1, 3) := by decide +kernel
theorem dS_77 : decode prog_41_method_14_code 77 = .ok (.goto (-44), 3) := by decide +kernel
theorem dS_80 : decode prog_41_method_14_code 80 = .ok (.aload_n 2, 1) := by decide +kernel
theorem dS_81 : decode prog_41_method_14_code 81 = .ok (.areturn, 1) := by decide +kernel
theorem pl_S : plainFor (⟨"com/example/equilibrate/equilibrate/model/Arena", "successorStarts", "(I[[I)[I"⟩ : MethodName) = true := plainFor_of_name (by first | (simp [plainName, overriddenIn]; done) | decide +kernel)
theorem ef_S (mm : MethodId) (p1 : Int32) (a2 : Addr) : entryFrame mm #[(.int p1), (.ref a2)] 6 = mkF mm 0 #[.val (.int p1), .val (.ref a2), .unset, .unset, .unset, .unset] [] := by first | (simp [entryFrame, mkF, argsToLocals, Value.category]; done) | rfl
set_option maxRecDepth 65536 in
set_option maxHeartbeats 40000000 in
theorem rmS (l : Launch) (Z : State) (a0 : Array Value) (hw : ∀ d ∈ tables_1, d.before a0 Z = true) (p1 : Int32) (a2 : Addr) (h0 : Heap) (n0 : Nat) (e4 : (4 : Int32) = p1) (Z0 : n0 ≤ h0.size) (kg : ClassId) (r0 r1 r2 r3 : Addr) (G : Arf Z h0 a2 kg (.array .int) 4 (fun k => if k = 3 then .ref r3 else if k = 2 then .ref r2 else if k = 1 then .ref r1 else if k = 0 then .ref r0 else .null)) (R0 : Ari Z h0 r0 .int 1 (lf [(0 : Int32)])) (R1 : Ari Z h0 r1 .int 1 (lf [(1 : Int32)])) (R2 : Ari Z h0 r2 .int 1 (lf [(2 : Int32)])) (R3 : Ari Z h0 r3 .int 1 (lf [(3 : Int32)])) :
    Con l (⟨"com/example/equilibrate/equilibrate/model/Arena", "successorStarts", "(I[[I)[I"⟩ : MethodName) prog_41_method_14_code 6 (some (.array .int)) ({ frames := 0, cells := 1, slots := 5, locals := 0 } : Room) Z #[(.int p1), (.ref a2)] h0 n0 (fun o h => ∃ b, o = some (.ref b) ∧ b = h0.size ∧ Keep h0 h [] ∧ Ari Z h b .int 5 (lf [(0 : Int32), (1 : Int32), (2 : Int32), (3 : Int32), (4 : Int32)])) := by
  refine Con.enter pl_S (fun mm => ef_S mm p1 a2) ?_
  intro K O C H
  subst e4
  replace H : K 0 #[.val (.int (4 : Int32)), .val (.ref a2), .unset, .unset, .unset, .unset] [] h0 0 0 := H
  replace H := k_aloadN C H dS_0 rfl rfl (pc' := 1) rfl
  replace H := k_arflen C H G dS_1 (pc' := 2) rfl
  replace H : K 2 #[.val (.int (4 : Int32)), .val (.ref a2), .unset, .unset, .unset, .unset] [(.int (4 : Int32))] h0 0 0 := H
  replace H := k_iloadN C H dS_2 rfl (pc' := 3) rfl
  replace H := k_icmpY C H dS_3 (teq (by decide : (4 : Int32) = (4 : Int32))).1 (by decide) (pc' := 22) rfl
  replace H := k_iloadN C H dS_22 rfl (pc' := 23) rfl
  replace H := k_iconst C H (v := 1) dS_23 rfl (pc' := 24) rfl
  replace H := k_iadd C H dS_24 (pc' := 25) rfl
  replace H : K 25 #[.val (.int (4 : Int32)), .val (.ref a2), .unset, .unset, .unset, .unset] [(.int (5 : Int32))] h0 0 0 := H
  replace H := k_newArr C H (hw _ (List.mem_of_getElem? (i := 8) rfl)) dS_25 (by decide) (cap := 5) (by decide) (by decide) (by decide) (by decide) (pc' := 27) rfl
  obtain ⟨hb, b, c_b, g_b, E_b, A_b, H⟩ := H
  replace H : K 27 #[.val (.int (4 : Int32)), .val (.ref a2), .unset, .unset, .unset, .unset] [(.ref b)] hb 1 5 := H
  have ne_a2_b : a2 ≠ b := Nat.ne_of_lt (Nat.lt_of_lt_of_le G.lt (Nat.le_of_eq g_b.symm))
  have ne_r0_b : r0 ≠ b := Nat.ne_of_lt (Nat.lt_of_lt_of_le R0.lt (Nat.le_of_eq g_b.symm))
  have ne_r1_b : r1 ≠ b := Nat.ne_of_lt (Nat.lt_of_lt_of_le R1.lt (Nat.le_of_eq g_b.symm))
  have ne_r2_b : r2 ≠ b := Nat.ne_of_lt (Nat.lt_of_lt_of_le R2.lt (Nat.le_of_eq g_b.symm))
  have ne_r3_b : r3 ≠ b := Nat.ne_of_lt (Nat.lt_of_lt_of_le R3.lt (Nat.le_of_eq g_b.symm))
  have n_b : n0 ≤ b := Nat.le_trans Z0 (Nat.le_of_eq g_b.symm)
  replace G := G.ext E_b
  replace R0 := R0.ext E_b
  replace R1 := R1.ext E_b
  replace R2 := R2.ext E_b
  replace R3 := R3.ext E_b
  have Z_b : n0 ≤ hb.size := Nat.le_trans Z0 E_b.1
  have B : Ari Z hb b .int 5 (lf [(0 : Int32), (0 : Int32), (0 : Int32), (0 : Int32), (0 : Int32)]) := (Ari.ofNew A_b (by decide) rfl).congr (fun k hk => by match k, hk with | 0, _ => rfl | 1, _ => rfl | 2, _ => rfl | 3, _ => rfl | 4, _ => rfl)
  have KK : Keep h0 hb [] := (Keep.refl h0 []).ext E_b
  replace H := k_astoreN C H dS_27 (L' := #[.val (.int (4 : Int32)), .val (.ref a2), .val (.ref b), .unset, .unset, .unset]) rfl rfl (pc' := 28) rfl
  replace H := k_lconst C H (v := 0) dS_28 rfl (pc' := 29) rfl
  replace H := k_lstoreN C H dS_29 (L' := #[.val (.int (4 : Int32)), .val (.ref a2), .val (.ref b), .val (.long (0 : Int64)), .second, .unset]) rfl (pc' := 30) rfl
  replace H := k_iconst C H (v := 0) dS_30 rfl (pc' := 31) rfl
  replace H := k_istore C H dS_31 (L' := #[.val (.int (4 : Int32)), .val (.ref a2), .val (.ref b), .val (.long (0 : Int64)), .second, .val (.int (0 : Int32))]) rfl (pc' := 33) rfl
  replace H := k_iload C H dS_33 rfl (pc' := 35) rfl
  replace H := k_iloadN C H dS_35 rfl (pc' := 36) rfl
  replace H := k_icmpN C H dS_36 (tlt (by decide : (0 : Int32) < (4 : Int32))).2.1 (pc' := 39) rfl
  replace H := k_lloadN C H dS_39 rfl (pc' := 40) rfl
  replace H := k_aloadN C H dS_40 rfl rfl (pc' := 41) rfl
  replace H := k_iload C H dS_41 rfl (pc' := 43) rfl
  replace H := k_aaload C H G rfl (i := 0) (by decide) (by decide) (v := (.ref r0)) rfl dS_43 (pc' := 44) rfl
  replace H : K 44 #[.val (.int (4 : Int32)), .val (.ref a2), .val (.ref b), .val (.long (0 : Int64)), .second, .val (.int (0 : Int32))] [(.ref r0), (.long (0 : Int64))] hb 1 5 := H
  replace H := k_arrlen C H R0 dS_44 (pc' := 45) rfl
  replace H : K 45 #[.val (.int (4 : Int32)), .val (.ref a2), .val (.ref b), .val (.long (0 : Int64)), .second, .val (.int (0 : Int32))] [(.int (1 : Int32)), (.long (0 : Int64))] hb 1 5 := H
  replace H := k_i2l C H dS_45 (pc' := 46) rfl
  replace H : K 46 #[.val (.int (4 : Int32)), .val (.ref a2), .val (.ref b), .val (.long (0 : Int64)), .second, .val (.int (0 : Int32))] [(.long (1 : Int64)), (.long (0 : Int64))] hb 1 5 := H
  replace H := k_ladd C H dS_46 (pc' := 47) rfl
  replace H : K 47 #[.val (.int (4 : Int32)), .val (.ref a2), .val (.ref b), .val (.long (0 : Int64)), .second, .val (.int (0 : Int32))] [(.long (1 : Int64))] hb 1 5 := H
  replace H := k_lstoreN C H dS_47 (L' := #[.val (.int (4 : Int32)), .val (.ref a2), .val (.ref b), .val (.long (1 : Int64)), .second, .val (.int (0 : Int32))]) rfl (pc' := 48) rfl
  replace H := k_lloadN C H dS_48 rfl (pc' := 49) rfl
  replace H := k_ldcL C H (hw _ (List.mem_of_getElem? (i := 41) rfl)) dS_49 (pc' := 52) rfl
  replace H := k_lcmp C H dS_52 (pc' := 53) rfl
  have lc : lcmpW (1 : Int64) (2147483647 : Int64) = ((-1) : Int32) := by decide
  rw [lc] at H
  clear lc
  replace H := k_ifcY C H dS_53 (flt (by decide : ¬ ((0 : Int32) < ((-1) : Int32)))).2.2.2 (by decide) (pc' := 66) rfl
  replace H := k_aloadN C H dS_66 rfl rfl (pc' := 67) rfl
  replace H := k_iload C H dS_67 rfl (pc' := 69) rfl
  replace H := k_iconst C H (v := 1) dS_69 rfl (pc' := 70) rfl
  replace H := k_iadd C H dS_70 (pc' := 71) rfl
  replace H : K 71 #[.val (.int (4 : Int32)), .val (.ref a2), .val (.ref b), .val (.long (1 : Int64)), .second, .val (.int (0 : Int32))] [(.int (1 : Int32)), (.ref b)] hb 1 5 := H
  replace H := k_lloadN C H dS_71 rfl (pc' := 72) rfl
  replace H := k_l2i C H dS_72 (pc' := 73) rfl
  replace H : K 73 #[.val (.int (4 : Int32)), .val (.ref a2), .val (.ref b), .val (.long (1 : Int64)), .second, .val (.int (0 : Int32))] [(.int (1 : Int32)), (.int (1 : Int32)), (.ref b)] hb 1 5 := H
  replace H := k_iastore C H B (i := 1) (by decide) (by decide) n_b dS_73 (pc' := 74) rfl
  obtain ⟨hs1, W_hs1, B, H⟩ := H
  replace B : Ari Z hs1 b .int 5 (lf [(0 : Int32), (1 : Int32), (0 : Int32), (0 : Int32), (0 : Int32)]) := B.congr (fun k _ => lf_set _ _ _ (Nat.le_of_ble_eq_true rfl) k)
  replace G := G.other W_hs1 ne_a2_b
  replace R0 := R0.other W_hs1 ne_r0_b
  replace R1 := R1.other W_hs1 ne_r1_b
  replace R2 := R2.other W_hs1 ne_r2_b
  replace R3 := R3.other W_hs1 ne_r3_b
  have Z_hs1 : n0 ≤ hs1.size := by rw [W_hs1.size]; exact Z_b
  replace KK := KK.wr W_hs1 (Or.inr (Nat.le_of_eq g_b.symm))
  replace H := k_iinc C H (y := ((0 : Int32) + (1 : Int32))) dS_74 rfl rfl (L' := #[.val (.int (4 : Int32)), .val (.ref a2), .val (.ref b), .val (.long (1 : Int64)), .second, .val (.int ((0 : Int32) + (1 : Int32)))]) rfl (pc' := 77) rfl
  replace H : K 77 #[.val (.int (4 : Int32)), .val (.ref a2), .val (.ref b), .val (.long (1 : Int64)), .second, .val (.int (1 : Int32))] [] hs1 1 5 := H
  replace H := k_goto C H dS_77 (by decide) (pc' := 33) rfl
  replace H := k_iload C H dS_33 rfl (pc' := 35) rfl
  replace H := k_iloadN C H dS_35 rfl (pc' := 36) rfl
  replace H := k_icmpN C H dS_36 (tlt (by decide : (1 : Int32) < (4 : Int32))).2.1 (pc' := 39) rfl
  replace H := k_lloadN C H dS_39 rfl (pc' := 40) rfl
  replace H := k_aloadN C H dS_40 rfl rfl (pc' := 41) rfl
  replace H := k_iload C H dS_41 rfl (pc' := 43) rfl
  replace H := k_aaload C H G rfl (i := 1) (by decide) (by decide) (v := (.ref r1)) rfl dS_43 (pc' := 44) rfl
  replace H : K 44 #[.val (.int (4 : Int32)), .val (.ref a2), .val (.ref b), .val (.long (1 : Int64)), .second, .val (.int (1 : Int32))] [(.ref r1), (.long (1 : Int64))] hs1 1 5 := H
  replace H := k_arrlen C H R1 dS_44 (pc' := 45) rfl
  replace H : K 45 #[.val (.int (4 : Int32)), .val (.ref a2), .val (.ref b), .val (.long (1 : Int64)), .second, .val (.int (1 : Int32))] [(.int (1 : Int32)), (.long (1 : Int64))] hs1 1 5 := H
  replace H := k_i2l C H dS_45 (pc' := 46) rfl
  replace H : K 46 #[.val (.int (4 : Int32)), .val (.ref a2), .val (.ref b), .val (.long (1 : Int64)), .second, .val (.int (1 : Int32))] [(.long (1 : Int64)), (.long (1 : Int64))] hs1 1 5 := H
  replace H := k_ladd C H dS_46 (pc' := 47) rfl
  replace H : K 47 #[.val (.int (4 : Int32)), .val (.ref a2), .val (.ref b), .val (.long (1 : Int64)), .second, .val (.int (1 : Int32))] [(.long (2 : Int64))] hs1 1 5 := H
  replace H := k_lstoreN C H dS_47 (L' := #[.val (.int (4 : Int32)), .val (.ref a2), .val (.ref b), .val (.long (2 : Int64)), .second, .val (.int (1 : Int32))]) rfl (pc' := 48) rfl
  replace H := k_lloadN C H dS_48 rfl (pc' := 49) rfl
  replace H := k_ldcL C H (hw _ (List.mem_of_getElem? (i := 41) rfl)) dS_49 (pc' := 52) rfl
  replace H := k_lcmp C H dS_52 (pc' := 53) rfl
  have lc : lcmpW (2 : Int64) (2147483647 : Int64) = ((-1) : Int32) := by decide
  rw [lc] at H
  clear lc
  replace H := k_ifcY C H dS_53 (flt (by decide : ¬ ((0 : Int32) < ((-1) : Int32)))).2.2.2 (by decide) (pc' := 66) rfl
  replace H := k_aloadN C H dS_66 rfl rfl (pc' := 67) rfl
  replace H := k_iload C H dS_67 rfl (pc' := 69) rfl
  replace H := k_iconst C H (v := 1) dS_69 rfl (pc' := 70) rfl
  replace H := k_iadd C H dS_70 (pc' := 71) rfl
  replace H : K 71 #[.val (.int (4 : Int32)), .val (.ref a2), .val (.ref b), .val (.long (2 : Int64)), .second, .val (.int (1 : Int32))] [(.int (2 : Int32)), (.ref b)] hs1 1 5 := H
  replace H := k_lloadN C H dS_71 rfl (pc' := 72) rfl
  replace H := k_l2i C H dS_72 (pc' := 73) rfl
  replace H : K 73 #[.val (.int (4 : Int32)), .val (.ref a2), .val (.ref b), .val (.long (2 : Int64)), .second, .val (.int (1 : Int32))] [(.int (2 : Int32)), (.int (2 : Int32)), (.ref b)] hs1 1 5 := H
  replace H := k_iastore C H B (i := 2) (by decide) (by decide) n_b dS_73 (pc' := 74) rfl
  obtain ⟨hs2, W_hs2, B, H⟩ := H
  replace B : Ari Z hs2 b .int 5 (lf [(0 : Int32), (1 : Int32), (2 : Int32), (0 : Int32), (0 : Int32)]) := B.congr (fun k _ => lf_set _ _ _ (Nat.le_of_ble_eq_true rfl) k)
  replace G := G.other W_hs2 ne_a2_b
  replace R0 := R0.other W_hs2 ne_r0_b
  replace R1 := R1.other W_hs2 ne_r1_b
  replace R2 := R2.other W_hs2 ne_r2_b
  replace R3 := R3.other W_hs2 ne_r3_b
  have Z_hs2 : n0 ≤ hs2.size := by rw [W_hs2.size]; exact Z_hs1
  replace KK := KK.wr W_hs2 (Or.inr (Nat.le_of_eq g_b.symm))
  replace H := k_iinc C H (y := ((1 : Int32) + (1 : Int32))) dS_74 rfl rfl (L' := #[.val (.int (4 : Int32)), .val (.ref a2), .val (.ref b), .val (.long (2 : Int64)), .second, .val (.int ((1 : Int32) + (1 : Int32)))]) rfl (pc' := 77) rfl
  replace H : K 77 #[.val (.int (4 : Int32)), .val (.ref a2), .val (.ref b), .val (.long (2 : Int64)), .second, .val (.int (2 : Int32))] [] hs2 1 5 := H
  replace H := k_goto C H dS_77 (by decide) (pc' := 33) rfl
  replace H := k_iload C H dS_33 rfl (pc' := 35) rfl
  replace H := k_iloadN C H dS_35 rfl (pc' := 36) rfl
  replace H := k_icmpN C H dS_36 (tlt (by decide : (2 : Int32) < (4 : Int32))).2.1 (pc' := 39) rfl
  replace H := k_lloadN C H dS_39 rfl (pc' := 40) rfl
  replace H := k_aloadN C H dS_40 rfl rfl (pc' := 41) rfl
  replace H := k_iload C H dS_41 rfl (pc' := 43) rfl
  replace H := k_aaload C H G rfl (i := 2) (by decide) (by decide) (v := (.ref r2)) rfl dS_43 (pc' := 44) rfl
  replace H : K 44 #[.val (.int (4 : Int32)), .val (.ref a2), .val (.ref b), .val (.long (2 : Int64)), .second, .val (.int (2 : Int32))] [(.ref r2), (.long (2 : Int64))] hs2 1 5 := H
  replace H := k_arrlen C H R2 dS_44 (pc' := 45) rfl
  replace H : K 45 #[.val (.int (4 : Int32)), .val (.ref a2), .val (.ref b), .val (.long (2 : Int64)), .second, .val (.int (2 : Int32))] [(.int (1 : Int32)), (.long (2 : Int64))] hs2 1 5 := H
  replace H := k_i2l C H dS_45 (pc' := 46) rfl
  replace H : K 46 #[.val (.int (4 : Int32)), .val (.ref a2), .val (.ref b), .val (.long (2 : Int64)), .second, .val (.int (2 : Int32))] [(.long (1 : Int64)), (.long (2 : Int64))] hs2 1 5 := H
  replace H := k_ladd C H dS_46 (pc' := 47) rfl
  replace H : K 47 #[.val (.int (4 : Int32)), .val (.ref a2), .val (.ref b), .val (.long (2 : Int64)), .second, .val (.int (2 : Int32))] [(.long (3 : Int64))] hs2 1 5 := H
  replace H := k_lstoreN C H dS_47 (L' := #[.val (.int (4 : Int32)), .val (.ref a2), .val (.ref b), .val (.long (3 : Int64)), .second, .val (.int (2 : Int32))]) rfl (pc' := 48) rfl
  replace H := k_lloadN C H dS_48 rfl (pc' := 49) rfl
  replace H := k_ldcL C H (hw _ (List.mem_of_getElem? (i := 41) rfl)) dS_49 (pc' := 52) rfl
  replace H := k_lcmp C H dS_52 (pc' := 53) rfl
  have lc : lcmpW (3 : Int64) (2147483647 : Int64) = ((-1) : Int32) := by decide
  rw [lc] at H
  clear lc
  replace H := k_ifcY C H dS_53 (flt (by decide : ¬ ((0 : Int32) < ((-1) : Int32)))).2.2.2 (by decide) (pc' := 66) rfl
  replace H := k_aloadN C H dS_66 rfl rfl (pc' := 67) rfl
  replace H := k_iload C H dS_67 rfl (pc' := 69) rfl
  replace H := k_iconst C H (v := 1) dS_69 rfl (pc' := 70) rfl
  replace H := k_iadd C H dS_70 (pc' := 71) rfl
  replace H : K 71 #[.val (.int (4 : Int32)), .val (.ref a2), .val (.ref b), .val (.long (3 : Int64)), .second, .val (.int (2 : Int32))] [(.int (3 : Int32)), (.ref b)] hs2 1 5 := H
  replace H := k_lloadN C H dS_71 rfl (pc' := 72) rfl
  replace H := k_l2i C H dS_72 (pc' := 73) rfl
  replace H : K 73 #[.val (.int (4 : Int32)), .val (.ref a2), .val (.ref b), .val (.long (3 : Int64)), .second, .val (.int (2 : Int32))] [(.int (3 : Int32)), (.int (3 : Int32)), (.ref b)] hs2 1 5 := H
  replace H := k_iastore C H B (i := 3) (by decide) (by decide) n_b dS_73 (pc' := 74) rfl
  obtain ⟨hs3, W_hs3, B, H⟩ := H
  replace B : Ari Z hs3 b .int 5 (lf [(0 : Int32), (1 : Int32), (2 : Int32), (3 : Int32), (0 : Int32)]) := B.congr (fun k _ => lf_set _ _ _ (Nat.le_of_ble_eq_true rfl) k)
  replace G := G.other W_hs3 ne_a2_b
  replace R0 := R0.other W_hs3 ne_r0_b
  replace R1 := R1.other W_hs3 ne_r1_b
  replace R2 := R2.other W_hs3 ne_r2_b
  replace R3 := R3.other W_hs3 ne_r3_b
  have Z_hs3 : n0 ≤ hs3.size := by rw [W_hs3.size]; exact Z_hs2
  replace KK := KK.wr W_hs3 (Or.inr (Nat.le_of_eq g_b.symm))
  replace H := k_iinc C H (y := ((2 : Int32) + (1 : Int32))) dS_74 rfl rfl (L' := #[.val (.int (4 : Int32)), .val (.ref a2), .val (.ref b), .val (.long (3 : Int64)), .second, .val (.int ((2 : Int32) + (1 : Int32)))]) rfl (pc' := 77) rfl
  replace H : K 77 #[.val (.int (4 : Int32)), .val (.ref a2), .val (.ref b), .val (.long (3 : Int64)), .second, .val (.int (3 : Int32))] [] hs3 1 5 := H
  replace H := k_goto C H dS_77 (by decide) (pc' := 33) rfl
  replace H := k_iload C H dS_33 rfl (pc' := 35) rfl
  replace H := k_iloadN C H dS_35 rfl (pc' := 36) rfl
  replace H := k_icmpN C H dS_36 (tlt (by decide : (3 : Int32) < (4 : Int32))).2.1 (pc' := 39) rfl
  replace H := k_lloadN C H dS_39 rfl (pc' := 40) rfl
  replace H := k_aloadN C H dS_40 rfl rfl (pc' := 41) rfl
  replace H := k_iload C H dS_41 rfl (pc' := 43) rfl
  replace H := k_aaload C H G rfl (i := 3) (by decide) (by decide) (v := (.ref r3)) rfl dS_43 (pc' := 44) rfl
  replace H : K 44 #[.val (.int (4 : Int32)), .val (.ref a2), .val (.ref b), .val (.long (3 : Int64)), .second, .val (.int (3 : Int32))] [(.ref r3), (.long (3 : Int64))] hs3 1 5 := H
  replace H := k_arrlen C H R3 dS_44 (pc' := 45) rfl
  replace H : K 45 #[.val (.int (4 : Int32)), .val (.ref a2), .val (.ref b), .val (.long (3 : Int64)), .second, .val (.int (3 : Int32))] [(.int (1 : Int32)), (.long (3 : Int64))] hs3 1 5 := H
  replace H := k_i2l C H dS_45 (pc' := 46) rfl
  replace H : K 46 #[.val (.int (4 : Int32)), .val (.ref a2), .val (.ref b), .val (.long (3 : Int64)), .second, .val (.int (3 : Int32))] [(.long (1 : Int64)), (.long (3 : Int64))] hs3 1 5 := H
  replace H := k_ladd C H dS_46 (pc' := 47) rfl
  replace H : K 47 #[.val (.int (4 : Int32)), .val (.ref a2), .val (.ref b), .val (.long (3 : Int64)), .second, .val (.int (3 : Int32))] [(.long (4 : Int64))] hs3 1 5 := H
  replace H := k_lstoreN C H dS_47 (L' := #[.val (.int (4 : Int32)), .val (.ref a2), .val (.ref b), .val (.long (4 : Int64)), .second, .val (.int (3 : Int32))]) rfl (pc' := 48) rfl
  replace H := k_lloadN C H dS_48 rfl (pc' := 49) rfl
  replace H := k_ldcL C H (hw _ (List.mem_of_getElem? (i := 41) rfl)) dS_49 (pc' := 52) rfl
  replace H := k_lcmp C H dS_52 (pc' := 53) rfl
  have lc : lcmpW (4 : Int64) (2147483647 : Int64) = ((-1) : Int32) := by decide
  rw [lc] at H
  clear lc
  replace H := k_ifcY C H dS_53 (flt (by decide : ¬ ((0 : Int32) < ((-1) : Int32)))).2.2.2 (by decide) (pc' := 66) rfl
  replace H := k_aloadN C H dS_66 rfl rfl (pc' := 67) rfl
  replace H := k_iload C H dS_67 rfl (pc' := 69) rfl
  replace H := k_iconst C H (v := 1) dS_69 rfl (pc' := 70) rfl
  replace H := k_iadd C H dS_70 (pc' := 71) rfl
  replace H : K 71 #[.val (.int (4 : Int32)), .val (.ref a2), .val (.ref b), .val (.long (4 : Int64)), .second, .val (.int (3 : Int32))] [(.int (4 : Int32)), (.ref b)] hs3 1 5 := H
  replace H := k_lloadN C H dS_71 rfl (pc' := 72) rfl
  replace H := k_l2i C H dS_72 (pc' := 73) rfl
  replace H : K 73 #[.val (.int (4 : Int32)), .val (.ref a2), .val (.ref b), .val (.long (4 : Int64)), .second, .val (.int (3 : Int32))] [(.int (4 : Int32)), (.int (4 : Int32)), (.ref b)] hs3 1 5 := H
  replace H := k_iastore C H B (i := 4) (by decide) (by decide) n_b dS_73 (pc' := 74) rfl
  obtain ⟨hs4, W_hs4, B, H⟩ := H
  replace B : Ari Z hs4 b .int 5 (lf [(0 : Int32), (1 : Int32), (2 : Int32), (3 : Int32), (4 : Int32)]) := B.congr (fun k _ => lf_set _ _ _ (Nat.le_of_ble_eq_true rfl) k)
  replace G := G.other W_hs4 ne_a2_b
  replace R0 := R0.other W_hs4 ne_r0_b
  replace R1 := R1.other W_hs4 ne_r1_b
  replace R2 := R2.other W_hs4 ne_r2_b
  replace R3 := R3.other W_hs4 ne_r3_b
  have Z_hs4 : n0 ≤ hs4.size := by rw [W_hs4.size]; exact Z_hs3
  replace KK := KK.wr W_hs4 (Or.inr (Nat.le_of_eq g_b.symm))
  replace H := k_iinc C H (y := ((3 : Int32) + (1 : Int32))) dS_74 rfl rfl (L' := #[.val (.int (4 : Int32)), .val (.ref a2), .val (.ref b), .val (.long (4 : Int64)), .second, .val (.int ((3 : Int32) + (1 : Int32)))]) rfl (pc' := 77) rfl
  replace H : K 77 #[.val (.int (4 : Int32)), .val (.ref a2), .val (.ref b), .val (.long (4 : Int64)), .second, .val (.int (4 : Int32))] [] hs4 1 5 := H
  replace H := k_goto C H dS_77 (by decide) (pc' := 33) rfl
  replace H := k_iload C H dS_33 rfl (pc' := 35) rfl
  replace H := k_iloadN C H dS_35 rfl (pc' := 36) rfl
  replace H := k_icmpY C H dS_36 (flt (by decide : ¬ ((4 : Int32) < (4 : Int32)))).2.1 (by decide) (pc' := 80) rfl
  replace H := k_aloadN C H dS_80 rfl rfl (pc' := 81) rfl
  exact k_retA C H dS_81 rfl rfl (by decide) (by decide) ⟨b, rfl, g_b, KK, B⟩
theorem dJ_0 : decode prog_41_method_15_code 0 = .ok (.iload_n 1, 1) := by decide +kernel
theorem dJ_1 : decode prog_41_method_15_code 1 = .ok (.newarray .int, 2) := by decide +kernel
theorem dJ_3 : decode prog_41_method_15_code 3 = .ok (.astore_n 2, 1) := by decide +kernel
theorem dJ_4 : decode prog_41_method_15_code 4 = .ok (.iconst 0, 1) := by decide +kernel
theorem dJ_5 : decode prog_41_method_15_code 5 = .ok (.istore_n 3, 1) := by decide +kernel
theorem dJ_6 : decode prog_41_method_15_code 6 = .ok (.aload_n 0, 1) := by decide +kernel
theorem dJ_7 : decode prog_41_method_15_code 7 = .ok (.astore 4, 2) := by decide +kernel
theorem dJ_9 : decode prog_41_method_15_code 9 = .ok (.aload 4, 2) := by decide +kernel
theorem dJ_11 : decode prog_41_method_15_code 11 = .ok (.arraylength, 1) := by decide +kernel
theorem dJ_12 : decode prog_41_method_15_code 12 = .ok (.istore 5, 2) := by decide +kernel
theorem dJ_14 : decode prog_41_method_15_code 14 = .ok (.iconst 0, 1) := by decide +kernel
theorem dJ_15 : decode prog_41_method_15_code 15 = .ok (.istore 6, 2) := by decide +kernel
theorem dJ_17 : decode prog_41_method_15_code 17 = .ok (.iload 6, 2) := by decide +kernel
theorem dJ_19 : decode prog_41_method_15_code 19 = .ok (.iload 5, 2) := by decide +kernel
theorem dJ_21 : decode prog_41_method_15_code 21 = .ok (.if_icmp .ge 33, 3) := by decide +kernel
theorem dJ_24 : decode prog_41_method_15_code 24 = .ok (.aload 4, 2) := by decide +kernel
theorem dJ_26 : decode prog_41_method_15_code 26 = .ok (.iload 6, 2) := by decide +kernel
theorem dJ_28 : decode prog_41_method_15_code 28 = .ok (.aaload, 1) := by decide +kernel
theorem dJ_29 : decode prog_41_method_15_code 29 = .ok (.astore 7, 2) := by decide +kernel
theorem dJ_31 : decode prog_41_method_15_code 31 = .ok (.aload 7, 2) := by decide +kernel
theorem dJ_33 : decode prog_41_method_15_code 33 = .ok (.iconst 0, 1) := by decide +kernel
theorem dJ_34 : decode prog_41_method_15_code 34 = .ok (.aload_n 2, 1) := by decide +kernel
theorem dJ_35 : decode prog_41_method_15_code 35 = .ok (.iload_n 3, 1) := by decide +kernel
theorem dJ_36 : decode prog_41_method_15_code 36 = .ok (.aload 7, 2) := by decide +kernel
theorem dJ_38 : decode prog_41_method_15_code 38 = .ok (.arraylength, 1) := by decide +kernel
theorem dJ_39 : decode prog_41_method_15_code 39 = .ok (.invokestatic 83, 3) := by decide +kernel
theorem dJ_42 : decode prog_41_method_15_code 42 = .ok (.iload_n 3, 1) := by decide +kernel
theorem dJ_43 : decode prog_41_method_15_code 43 = .ok (.aload 7, 2) := by decide +kernel
theorem dJ_45 : decode prog_41_method_15_code 45 = .ok (.arraylength, 1) := by decide +kernel
theorem dJ_46 : decode prog_41_method_15_code 46 = .ok (.iadd, 1) := by decide +kernel
theorem dJ_47 : decode prog_41_method_15_code 47 = .ok (.istore_n 3, 1) := by decide +kernel
theorem dJ_48 : decode prog_41_method_15_code 48 = .ok (.iinc 6 1, 3) := by decide +kernel
theorem dJ_51 : decode prog_41_method_15_code 51 = .ok (.goto (-34), 3) := by decide +kernel
theorem dJ_54 : decode prog_41_method_15_code 54 = .ok (.aload_n 2, 1) := by decide +kernel
theorem dJ_55 : decode prog_41_method_15_code 55 = .ok (.areturn, 1) := by decide +kernel
theorem pl_J : plainFor (⟨"com/example/equilibrate/equilibrate/model/Arena", "joined", "([[II)[I"⟩ : MethodName) = true := plainFor_of_name (by first | (simp [plainName, overriddenIn]; done) | decide +kernel)
theorem ef_J (mm : MethodId) (a2 : Addr) (p1 : Int32) : entryFrame mm #[(.ref a2), (.int p1)] 8 = mkF mm 0 #[.val (.ref a2), .val (.int p1), .unset, .unset, .unset, .unset, .unset, .unset] [] := by first | (simp [entryFrame, mkF, argsToLocals, Value.category]; done) | rfl
set_option maxRecDepth 65536 in
set_option maxHeartbeats 40000000 in
theorem rmJ (l : Launch) (Z : State) (a0 : Array Value) (hw : ∀ d ∈ tables_1, d.before a0 Z = true) (a2 : Addr) (p1 : Int32) (h0 : Heap) (n0 : Nat) (e4 : (4 : Int32) = p1) (Z0 : n0 ≤ h0.size) (kg : ClassId) (r0 r1 r2 r3 : Addr) (G : Arf Z h0 a2 kg (.array .int) 4 (fun k => if k = 3 then .ref r3 else if k = 2 then .ref r2 else if k = 1 then .ref r1 else if k = 0 then .ref r0 else .null)) (R0 : Ari Z h0 r0 .int 1 (lf [(0 : Int32)])) (R1 : Ari Z h0 r1 .int 1 (lf [(1 : Int32)])) (R2 : Ari Z h0 r2 .int 1 (lf [(2 : Int32)])) (R3 : Ari Z h0 r3 .int 1 (lf [(3 : Int32)])) :
    Con l (⟨"com/example/equilibrate/equilibrate/model/Arena", "joined", "([[II)[I"⟩ : MethodName) prog_41_method_15_code 8 (some (.array .int)) ({ frames := 1, cells := 1, slots := 4, locals := 40 } : Room) Z #[(.ref a2), (.int p1)] h0 n0 (fun o h => ∃ b, o = some (.ref b) ∧ b = h0.size ∧ Keep h0 h [] ∧ Ari Z h b .int 4 (lf [(0 : Int32), (1 : Int32), (2 : Int32), (3 : Int32)])) := by
  refine Con.enter pl_J (fun mm => ef_J mm a2 p1) ?_
  intro K O C H
  subst e4
  replace H : K 0 #[.val (.ref a2), .val (.int (4 : Int32)), .unset, .unset, .unset, .unset, .unset, .unset] [] h0 0 0 := H
  replace H := k_iloadN C H dJ_0 rfl (pc' := 1) rfl
  replace H := k_newArr C H (hw _ (List.mem_of_getElem? (i := 8) rfl)) dJ_1 (by decide) (cap := 4) (by decide) (by decide) (by decide) (by decide) (pc' := 3) rfl
  obtain ⟨hb, b, c_b, g_b, E_b, A_b, H⟩ := H
  replace H : K 3 #[.val (.ref a2), .val (.int (4 : Int32)), .unset, .unset, .unset, .unset, .unset, .unset] [(.ref b)] hb 1 4 := H
  have ne_a2_b : a2 ≠ b := Nat.ne_of_lt (Nat.lt_of_lt_of_le G.lt (Nat.le_of_eq g_b.symm))
  have ne_r0_b : r0 ≠ b := Nat.ne_of_lt (Nat.lt_of_lt_of_le R0.lt (Nat.le_of_eq g_b.symm))
  have ne_r1_b : r1 ≠ b := Nat.ne_of_lt (Nat.lt_of_lt_of_le R1.lt (Nat.le_of_eq g_b.symm))
  have ne_r2_b : r2 ≠ b := Nat.ne_of_lt (Nat.lt_of_lt_of_le R2.lt (Nat.le_of_eq g_b.symm))
  have ne_r3_b : r3 ≠ b := Nat.ne_of_lt (Nat.lt_of_lt_of_le R3.lt (Nat.le_of_eq g_b.symm))
  have n_b : n0 ≤ b := Nat.le_trans Z0 (Nat.le_of_eq g_b.symm)
  replace G := G.ext E_b
  replace R0 := R0.ext E_b
  replace R1 := R1.ext E_b
  replace R2 := R2.ext E_b
  replace R3 := R3.ext E_b
  have Z_b : n0 ≤ hb.size := Nat.le_trans Z0 E_b.1
  have B : Ari Z hb b .int 4 (lf [(0 : Int32), (0 : Int32), (0 : Int32), (0 : Int32)]) := (Ari.ofNew A_b (by decide) rfl).congr (fun k hk => by match k, hk with | 0, _ => rfl | 1, _ => rfl | 2, _ => rfl | 3, _ => rfl)
  have KK : Keep h0 hb [] := (Keep.refl h0 []).ext E_b
  replace H := k_astoreN C H dJ_3 (L' := #[.val (.ref a2), .val (.int (4 : Int32)), .val (.ref b), .unset, .unset, .unset, .unset, .unset]) rfl rfl (pc' := 4) rfl
  replace H := k_iconst C H (v := 0) dJ_4 rfl (pc' := 5) rfl
  replace H := k_istoreN C H dJ_5 (L' := #[.val (.ref a2), .val (.int (4 : Int32)), .val (.ref b), .val (.int (0 : Int32)), .unset, .unset, .unset, .unset]) rfl (pc' := 6) rfl
  replace H := k_aloadN C H dJ_6 rfl rfl (pc' := 7) rfl
  replace H := k_astore C H dJ_7 (L' := #[.val (.ref a2), .val (.int (4 : Int32)), .val (.ref b), .val (.int (0 : Int32)), .val (.ref a2), .unset, .unset, .unset]) rfl rfl (pc' := 9) rfl
  replace H := k_aload C H dJ_9 rfl rfl (pc' := 11) rfl
  replace H := k_arflen C H G dJ_11 (pc' := 12) rfl
  replace H : K 12 #[.val (.ref a2), .val (.int (4 : Int32)), .val (.ref b), .val (.int (0 : Int32)), .val (.ref a2), .unset, .unset, .unset] [(.int (4 : Int32))] hb 1 4 := H
  replace H := k_istore C H dJ_12 (L' := #[.val (.ref a2), .val (.int (4 : Int32)), .val (.ref b), .val (.int (0 : Int32)), .val (.ref a2), .val (.int (4 : Int32)), .unset, .unset]) rfl (pc' := 14) rfl
  replace H := k_iconst C H (v := 0) dJ_14 rfl (pc' := 15) rfl
  replace H := k_istore C H dJ_15 (L' := #[.val (.ref a2), .val (.int (4 : Int32)), .val (.ref b), .val (.int (0 : Int32)), .val (.ref a2), .val (.int (4 : Int32)), .val (.int (0 : Int32)), .unset]) rfl (pc' := 17) rfl
  replace H := k_iload C H dJ_17 rfl (pc' := 19) rfl
  replace H := k_iload C H dJ_19 rfl (pc' := 21) rfl
  replace H := k_icmpN C H dJ_21 (tlt (by decide : (0 : Int32) < (4 : Int32))).2.1 (pc' := 24) rfl
  replace H := k_aload C H dJ_24 rfl rfl (pc' := 26) rfl
  replace H := k_iload C H dJ_26 rfl (pc' := 28) rfl
  replace H := k_aaload C H G rfl (i := 0) (by decide) (by decide) (v := (.ref r0)) rfl dJ_28 (pc' := 29) rfl
  replace H : K 29 #[.val (.ref a2), .val (.int (4 : Int32)), .val (.ref b), .val (.int (0 : Int32)), .val (.ref a2), .val (.int (4 : Int32)), .val (.int (0 : Int32)), .unset] [(.ref r0)] hb 1 4 := H
  replace H := k_astore C H dJ_29 (L' := #[.val (.ref a2), .val (.int (4 : Int32)), .val (.ref b), .val (.int (0 : Int32)), .val (.ref a2), .val (.int (4 : Int32)), .val (.int (0 : Int32)), .val (.ref r0)]) rfl rfl (pc' := 31) rfl
  replace H := k_aload C H dJ_31 rfl rfl (pc' := 33) rfl
  replace H := k_iconst C H (v := 0) dJ_33 rfl (pc' := 34) rfl
  replace H := k_aloadN C H dJ_34 rfl rfl (pc' := 35) rfl
  replace H := k_iloadN C H dJ_35 rfl (pc' := 36) rfl
  replace H := k_aload C H dJ_36 rfl rfl (pc' := 38) rfl
  replace H := k_arrlen C H R0 dJ_38 (pc' := 39) rfl
  replace H : K 39 #[.val (.ref a2), .val (.int (4 : Int32)), .val (.ref b), .val (.int (0 : Int32)), .val (.ref a2), .val (.int (4 : Int32)), .val (.int (0 : Int32)), .val (.ref r0)] [(.int (1 : Int32)), (.int (0 : Int32)), (.ref b), (.int (0 : Int32)), (.ref r0)] hb 1 4 := H
  replace H := k_copyI C H R0 B (sp := 0) (dp := 0) (nn := 1) (by decide) (by decide) (by decide) (by decide) (by decide) n_b (hw _ (List.mem_of_getElem? (i := 47) rfl)) (hw _ (List.mem_of_getElem? (i := 50) rfl)) (hw _ (List.mem_of_getElem? (i := 48) rfl)) (hw _ (List.mem_of_getElem? (i := 49) rfl)) dJ_39 rfl (by decide) 0 rfl (by decide) (pc' := 42) rfl
  obtain ⟨hj0, K_hj0, B, H⟩ := H
  replace B : Ari Z hj0 b .int 4 (lf [(0 : Int32), (0 : Int32), (0 : Int32), (0 : Int32)]) := B.congr (fun k hk => by match k, hk with | 0, _ => rfl | 1, _ => rfl | 2, _ => rfl | 3, _ => rfl)
  replace G := G.keep K_hj0 (ninS ne_a2_b nin0)
  replace R0 := R0.keep K_hj0 (ninS ne_r0_b nin0)
  replace R1 := R1.keep K_hj0 (ninS ne_r1_b nin0)
  replace R2 := R2.keep K_hj0 (ninS ne_r2_b nin0)
  replace R3 := R3.keep K_hj0 (ninS ne_r3_b nin0)
  have Z_hj0 : n0 ≤ hj0.size := Nat.le_trans Z_b K_hj0.1
  replace KK := KK.trans K_hj0 (allS (Or.inr (Nat.le_of_eq g_b.symm)) all0)
  replace H := k_iloadN C H dJ_42 rfl (pc' := 43) rfl
  replace H := k_aload C H dJ_43 rfl rfl (pc' := 45) rfl
  replace H := k_arrlen C H R0 dJ_45 (pc' := 46) rfl
  replace H : K 46 #[.val (.ref a2), .val (.int (4 : Int32)), .val (.ref b), .val (.int (0 : Int32)), .val (.ref a2), .val (.int (4 : Int32)), .val (.int (0 : Int32)), .val (.ref r0)] [(.int (1 : Int32)), (.int (0 : Int32))] hj0 1 4 := H
  replace H := k_iadd C H dJ_46 (pc' := 47) rfl
  replace H : K 47 #[.val (.ref a2), .val (.int (4 : Int32)), .val (.ref b), .val (.int (0 : Int32)), .val (.ref a2), .val (.int (4 : Int32)), .val (.int (0 : Int32)), .val (.ref r0)] [(.int (1 : Int32))] hj0 1 4 := H
  replace H := k_istoreN C H dJ_47 (L' := #[.val (.ref a2), .val (.int (4 : Int32)), .val (.ref b), .val (.int (1 : Int32)), .val (.ref a2), .val (.int (4 : Int32)), .val (.int (0 : Int32)), .val (.ref r0)]) rfl (pc' := 48) rfl
  replace H := k_iinc C H (y := ((0 : Int32) + (1 : Int32))) dJ_48 rfl rfl (L' := #[.val (.ref a2), .val (.int (4 : Int32)), .val (.ref b), .val (.int (1 : Int32)), .val (.ref a2), .val (.int (4 : Int32)), .val (.int ((0 : Int32) + (1 : Int32))), .val (.ref r0)]) rfl (pc' := 51) rfl
  replace H : K 51 #[.val (.ref a2), .val (.int (4 : Int32)), .val (.ref b), .val (.int (1 : Int32)), .val (.ref a2), .val (.int (4 : Int32)), .val (.int (1 : Int32)), .val (.ref r0)] [] hj0 1 4 := H
  replace H := k_goto C H dJ_51 (by decide) (pc' := 17) rfl
  replace H := k_iload C H dJ_17 rfl (pc' := 19) rfl
  replace H := k_iload C H dJ_19 rfl (pc' := 21) rfl
  replace H := k_icmpN C H dJ_21 (tlt (by decide : (1 : Int32) < (4 : Int32))).2.1 (pc' := 24) rfl
  replace H := k_aload C H dJ_24 rfl rfl (pc' := 26) rfl
  replace H := k_iload C H dJ_26 rfl (pc' := 28) rfl
  replace H := k_aaload C H G rfl (i := 1) (by decide) (by decide) (v := (.ref r1)) rfl dJ_28 (pc' := 29) rfl
  replace H : K 29 #[.val (.ref a2), .val (.int (4 : Int32)), .val (.ref b), .val (.int (1 : Int32)), .val (.ref a2), .val (.int (4 : Int32)), .val (.int (1 : Int32)), .val (.ref r0)] [(.ref r1)] hj0 1 4 := H
  replace H := k_astore C H dJ_29 (L' := #[.val (.ref a2), .val (.int (4 : Int32)), .val (.ref b), .val (.int (1 : Int32)), .val (.ref a2), .val (.int (4 : Int32)), .val (.int (1 : Int32)), .val (.ref r1)]) rfl rfl (pc' := 31) rfl
  replace H := k_aload C H dJ_31 rfl rfl (pc' := 33) rfl
  replace H := k_iconst C H (v := 0) dJ_33 rfl (pc' := 34) rfl
  replace H := k_aloadN C H dJ_34 rfl rfl (pc' := 35) rfl
  replace H := k_iloadN C H dJ_35 rfl (pc' := 36) rfl
  replace H := k_aload C H dJ_36 rfl rfl (pc' := 38) rfl
  replace H := k_arrlen C H R1 dJ_38 (pc' := 39) rfl
  replace H : K 39 #[.val (.ref a2), .val (.int (4 : Int32)), .val (.ref b), .val (.int (1 : Int32)), .val (.ref a2), .val (.int (4 : Int32)), .val (.int (1 : Int32)), .val (.ref r1)] [(.int (1 : Int32)), (.int (1 : Int32)), (.ref b), (.int (0 : Int32)), (.ref r1)] hj0 1 4 := H
  replace H := k_copyI C H R1 B (sp := 0) (dp := 1) (nn := 1) (by decide) (by decide) (by decide) (by decide) (by decide) n_b (hw _ (List.mem_of_getElem? (i := 47) rfl)) (hw _ (List.mem_of_getElem? (i := 50) rfl)) (hw _ (List.mem_of_getElem? (i := 48) rfl)) (hw _ (List.mem_of_getElem? (i := 49) rfl)) dJ_39 rfl (by decide) 0 rfl (by decide) (pc' := 42) rfl
  obtain ⟨hj1, K_hj1, B, H⟩ := H
  replace B : Ari Z hj1 b .int 4 (lf [(0 : Int32), (1 : Int32), (0 : Int32), (0 : Int32)]) := B.congr (fun k hk => by match k, hk with | 0, _ => rfl | 1, _ => rfl | 2, _ => rfl | 3, _ => rfl)
  replace G := G.keep K_hj1 (ninS ne_a2_b nin0)
  replace R0 := R0.keep K_hj1 (ninS ne_r0_b nin0)
  replace R1 := R1.keep K_hj1 (ninS ne_r1_b nin0)
  replace R2 := R2.keep K_hj1 (ninS ne_r2_b nin0)
  replace R3 := R3.keep K_hj1 (ninS ne_r3_b nin0)
  have Z_hj1 : n0 ≤ hj1.size := Nat.le_trans Z_hj0 K_hj1.1
  replace KK := KK.trans K_hj1 (allS (Or.inr (Nat.le_of_eq g_b.symm)) all0)
  replace H := k_iloadN C H dJ_42 rfl (pc' := 43) rfl
  replace H := k_aload C H dJ_43 rfl rfl (pc' := 45) rfl
  replace H := k_arrlen C H R1 dJ_45 (pc' := 46) rfl
  replace H : K 46 #[.val (.ref a2), .val (.int (4 : Int32)), .val (.ref b), .val (.int (1 : Int32)), .val (.ref a2), .val (.int (4 : Int32)), .val (.int (1 : Int32)), .val (.ref r1)] [(.int (1 : Int32)), (.int (1 : Int32))] hj1 1 4 := H
  replace H := k_iadd C H dJ_46 (pc' := 47) rfl
  replace H : K 47 #[.val (.ref a2), .val (.int (4 : Int32)), .val (.ref b), .val (.int (1 : Int32)), .val (.ref a2), .val (.int (4 : Int32)), .val (.int (1 : Int32)), .val (.ref r1)] [(.int (2 : Int32))] hj1 1 4 := H
  replace H := k_istoreN C H dJ_47 (L' := #[.val (.ref a2), .val (.int (4 : Int32)), .val (.ref b), .val (.int (2 : Int32)), .val (.ref a2), .val (.int (4 : Int32)), .val (.int (1 : Int32)), .val (.ref r1)]) rfl (pc' := 48) rfl
  replace H := k_iinc C H (y := ((1 : Int32) + (1 : Int32))) dJ_48 rfl rfl (L' := #[.val (.ref a2), .val (.int (4 : Int32)), .val (.ref b), .val (.int (2 : Int32)), .val (.ref a2), .val (.int (4 : Int32)), .val (.int ((1 : Int32) + (1 : Int32))), .val (.ref r1)]) rfl (pc' := 51) rfl
  replace H : K 51 #[.val (.ref a2), .val (.int (4 : Int32)), .val (.ref b), .val (.int (2 : Int32)), .val (.ref a2), .val (.int (4 : Int32)), .val (.int (2 : Int32)), .val (.ref r1)] [] hj1 1 4 := H
  replace H := k_goto C H dJ_51 (by decide) (pc' := 17) rfl
  replace H := k_iload C H dJ_17 rfl (pc' := 19) rfl
  replace H := k_iload C H dJ_19 rfl (pc' := 21) rfl
  replace H := k_icmpN C H dJ_21 (tlt (by decide : (2 : Int32) < (4 : Int32))).2.1 (pc' := 24) rfl
  replace H := k_aload C H dJ_24 rfl rfl (pc' := 26) rfl
  replace H := k_iload C H dJ_26 rfl (pc' := 28) rfl
  replace H := k_aaload C H G rfl (i := 2) (by decide) (by decide) (v := (.ref r2)) rfl dJ_28 (pc' := 29) rfl
  replace H : K 29 #[.val (.ref a2), .val (.int (4 : Int32)), .val (.ref b), .val (.int (2 : Int32)), .val (.ref a2), .val (.int (4 : Int32)), .val (.int (2 : Int32)), .val (.ref r1)] [(.ref r2)] hj1 1 4 := H
  replace H := k_astore C H dJ_29 (L' := #[.val (.ref a2), .val (.int (4 : Int32)), .val (.ref b), .val (.int (2 : Int32)), .val (.ref a2), .val (.int (4 : Int32)), .val (.int (2 : Int32)), .val (.ref r2)]) rfl rfl (pc' := 31) rfl
  replace H := k_aload C H dJ_31 rfl rfl (pc' := 33) rfl
  replace H := k_iconst C H (v := 0) dJ_33 rfl (pc' := 34) rfl
  replace H := k_aloadN C H dJ_34 rfl rfl (pc' := 35) rfl
  replace H := k_iloadN C H dJ_35 rfl (pc' := 36) rfl
  replace H := k_aload C H dJ_36 rfl rfl (pc' := 38) rfl
  replace H := k_arrlen C H R2 dJ_38 (pc' := 39) rfl
  replace H : K 39 #[.val (.ref a2), .val (.int (4 : Int32)), .val (.ref b), .val (.int (2 : Int32)), .val (.ref a2), .val (.int (4 : Int32)), .val (.int (2 : Int32)), .val (.ref r2)] [(.int (1 : Int32)), (.int (2 : Int32)), (.ref b), (.int (0 : Int32)), (.ref r2)] hj1 1 4 := H
  replace H := k_copyI C H R2 B (sp := 0) (dp := 2) (nn := 1) (by decide) (by decide) (by decide) (by decide) (by decide) n_b (hw _ (List.mem_of_getElem? (i := 47) rfl)) (hw _ (List.mem_of_getElem? (i := 50) rfl)) (hw _ (List.mem_of_getElem? (i := 48) rfl)) (hw _ (List.mem_of_getElem? (i := 49) rfl)) dJ_39 rfl (by decide) 0 rfl (by decide) (pc' := 42) rfl
  obtain ⟨hj2, K_hj2, B, H⟩ := H
  replace B : Ari Z hj2 b .int 4 (lf [(0 : Int32), (1 : Int32), (2 : Int32), (0 : Int32)]) := B.congr (fun k hk => by match k, hk with | 0, _ => rfl | 1, _ => rfl | 2, _ => rfl | 3, _ => rfl)
  replace G := G.keep K_hj2 (ninS ne_a2_b nin0)
  replace R0 := R0.keep K_hj2 (ninS ne_r0_b nin0)
  replace R1 := R1.keep K_hj2 (ninS ne_r1_b nin0)
  replace R2 := R2.keep K_hj2 (ninS ne_r2_b nin0)
  replace R3 := R3.keep K_hj2 (ninS ne_r3_b nin0)
  have Z_hj2 : n0 ≤ hj2.size := Nat.le_trans Z_hj1 K_hj2.1
  replace KK := KK.trans K_hj2 (allS (Or.inr (Nat.le_of_eq g_b.symm)) all0)
  replace H := k_iloadN C H dJ_42 rfl (pc' := 43) rfl
  replace H := k_aload C H dJ_43 rfl rfl (pc' := 45) rfl
  replace H := k_arrlen C H R2 dJ_45 (pc' := 46) rfl
  replace H : K 46 #[.val (.ref a2), .val (.int (4 : Int32)), .val (.ref b), .val (.int (2 : Int32)), .val (.ref a2), .val (.int (4 : Int32)), .val (.int (2 : Int32)), .val (.ref r2)] [(.int (1 : Int32)), (.int (2 : Int32))] hj2 1 4 := H
  replace H := k_iadd C H dJ_46 (pc' := 47) rfl
  replace H : K 47 #[.val (.ref a2), .val (.int (4 : Int32)), .val (.ref b), .val (.int (2 : Int32)), .val (.ref a2), .val (.int (4 : Int32)), .val (.int (2 : Int32)), .val (.ref r2)] [(.int (3 : Int32))] hj2 1 4 := H
  replace H := k_istoreN C H dJ_47 (L' := #[.val (.ref a2), .val (.int (4 : Int32)), .val (.ref b), .val (.int (3 : Int32)), .val (.ref a2), .val (.int (4 : Int32)), .val (.int (2 : Int32)), .val (.ref r2)]) rfl (pc' := 48) rfl
  replace H := k_iinc C H (y := ((2 : Int32) + (1 : Int32))) dJ_48 rfl rfl (L' := #[.val (.ref a2), .val (.int (4 : Int32)), .val (.ref b), .val (.int (3 : Int32)), .val (.ref a2), .val (.int (4 : Int32)), .val (.int ((2 : Int32) + (1 : Int32))), .val (.ref r2)]) rfl (pc' := 51) rfl
  replace H : K 51 #[.val (.ref a2), .val (.int (4 : Int32)), .val (.ref b), .val (.int (3 : Int32)), .val (.ref a2), .val (.int (4 : Int32)), .val (.int (3 : Int32)), .val (.ref r2)] [] hj2 1 4 := H
  replace H := k_goto C H dJ_51 (by decide) (pc' := 17) rfl
  replace H := k_iload C H dJ_17 rfl (pc' := 19) rfl
  replace H := k_iload C H dJ_19 rfl (pc' := 21) rfl
  replace H := k_icmpN C H dJ_21 (tlt (by decide : (3 : Int32) < (4 : Int32))).2.1 (pc' := 24) rfl
  replace H := k_aload C H dJ_24 rfl rfl (pc' := 26) rfl
  replace H := k_iload C H dJ_26 rfl (pc' := 28) rfl
  replace H := k_aaload C H G rfl (i := 3) (by decide) (by decide) (v := (.ref r3)) rfl dJ_28 (pc' := 29) rfl
  replace H : K 29 #[.val (.ref a2), .val (.int (4 : Int32)), .val (.ref b), .val (.int (3 : Int32)), .val (.ref a2), .val (.int (4 : Int32)), .val (.int (3 : Int32)), .val (.ref r2)] [(.ref r3)] hj2 1 4 := H
  replace H := k_astore C H dJ_29 (L' := #[.val (.ref a2), .val (.int (4 : Int32)), .val (.ref b), .val (.int (3 : Int32)), .val (.ref a2), .val (.int (4 : Int32)), .val (.int (3 : Int32)), .val (.ref r3)]) rfl rfl (pc' := 31) rfl
  replace H := k_aload C H dJ_31 rfl rfl (pc' := 33) rfl
  replace H := k_iconst C H (v := 0) dJ_33 rfl (pc' := 34) rfl
  replace H := k_aloadN C H dJ_34 rfl rfl (pc' := 35) rfl
  replace H := k_iloadN C H dJ_35 rfl (pc' := 36) rfl
  replace H := k_aload C H dJ_36 rfl rfl (pc' := 38) rfl
  replace H := k_arrlen C H R3 dJ_38 (pc' := 39) rfl
  replace H : K 39 #[.val (.ref a2), .val (.int (4 : Int32)), .val (.ref b), .val (.int (3 : Int32)), .val (.ref a2), .val (.int (4 : Int32)), .val (.int (3 : Int32)), .val (.ref r3)] [(.int (1 : Int32)), (.int (3 : Int32)), (.ref b), (.int (0 : Int32)), (.ref r3)] hj2 1 4 := H
  replace H := k_copyI C H R3 B (sp := 0) (dp := 3) (nn := 1) (by decide) (by decide) (by decide) (by decide) (by decide) n_b (hw _ (List.mem_of_getElem? (i := 47) rfl)) (hw _ (List.mem_of_getElem? (i := 50) rfl)) (hw _ (List.mem_of_getElem? (i := 48) rfl)) (hw _ (List.mem_of_getElem? (i := 49) rfl)) dJ_39 rfl (by decide) 0 rfl (by decide) (pc' := 42) rfl
  obtain ⟨hj3, K_hj3, B, H⟩ := H
  replace B : Ari Z hj3 b .int 4 (lf [(0 : Int32), (1 : Int32), (2 : Int32), (3 : Int32)]) := B.congr (fun k hk => by match k, hk with | 0, _ => rfl | 1, _ => rfl | 2, _ => rfl | 3, _ => rfl)
  replace G := G.keep K_hj3 (ninS ne_a2_b nin0)
  replace R0 := R0.keep K_hj3 (ninS ne_r0_b nin0)
  replace R1 := R1.keep K_hj3 (ninS ne_r1_b nin0)
  replace R2 := R2.keep K_hj3 (ninS ne_r2_b nin0)
  replace R3 := R3.keep K_hj3 (ninS ne_r3_b nin0)
  have Z_hj3 : n0 ≤ hj3.size := Nat.le_trans Z_hj2 K_hj3.1
  replace KK := KK.trans K_hj3 (allS (Or.inr (Nat.le_of_eq g_b.symm)) all0)
  replace H := k_iloadN C H dJ_42 rfl (pc' := 43) rfl
  replace H := k_aload C H dJ_43 rfl rfl (pc' := 45) rfl
  replace H := k_arrlen C H R3 dJ_45 (pc' := 46) rfl
  replace H : K 46 #[.val (.ref a2), .val (.int (4 : Int32)), .val (.ref b), .val (.int (3 : Int32)), .val (.ref a2), .val (.int (4 : Int32)), .val (.int (3 : Int32)), .val (.ref r3)] [(.int (1 : Int32)), (.int (3 : Int32))] hj3 1 4 := H
  replace H := k_iadd C H dJ_46 (pc' := 47) rfl
  replace H : K 47 #[.val (.ref a2), .val (.int (4 : Int32)), .val (.ref b), .val (.int (3 : Int32)), .val (.ref a2), .val (.int (4 : Int32)), .val (.int (3 : Int32)), .val (.ref r3)] [(.int (4 : Int32))] hj3 1 4 := H
  replace H := k_istoreN C H dJ_47 (L' := #[.val (.ref a2), .val (.int (4 : Int32)), .val (.ref b), .val (.int (4 : Int32)), .val (.ref a2), .val (.int (4 : Int32)), .val (.int (3 : Int32)), .val (.ref r3)]) rfl (pc' := 48) rfl
  replace H := k_iinc C H (y := ((3 : Int32) + (1 : Int32))) dJ_48 rfl rfl (L' := #[.val (.ref a2), .val (.int (4 : Int32)), .val (.ref b), .val (.int (4 : Int32)), .val (.ref a2), .val (.int (4 : Int32)), .val (.int ((3 : Int32) + (1 : Int32))), .val (.ref r3)]) rfl (pc' := 51) rfl
  replace H : K 51 #[.val (.ref a2), .val (.int (4 : Int32)), .val (.ref b), .val (.int (4 : Int32)), .val (.ref a2), .val (.int (4 : Int32)), .val (.int (4 : Int32)), .val (.ref r3)] [] hj3 1 4 := H
  replace H := k_goto C H dJ_51 (by decide) (pc' := 17) rfl
  replace H := k_iload C H dJ_17 rfl (pc' := 19) rfl
  replace H := k_iload C H dJ_19 rfl (pc' := 21) rfl
  replace H := k_icmpY C H dJ_21 (flt (by decide : ¬ ((4 : Int32) < (4 : Int32)))).2.1 (by decide) (pc' := 54) rfl
  replace H := k_aloadN C H dJ_54 rfl rfl (pc' := 55) rfl
  exact k_retA C H dJ_55 rfl rfl (by decide) (by decide) ⟨b, rfl, g_b, KK, B⟩
theorem dC_0 : decode prog_41_method_13_code 0 = .ok (.aload_n 0, 1) := by decide +kernel
theorem dC_1 : decode prog_41_method_13_code 1 = .ok (.getfield 13, 3) := by decide +kernel
theorem dC_4 : decode prog_41_method_13_code 4 = .ok (.arraylength, 1) := by decide +kernel
theorem dC_5 : decode prog_41_method_13_code 5 = .ok (.istore_n 1, 1) := by decide +kernel
theorem dC_6 : decode prog_41_method_13_code 6 = .ok (.aload_n 0, 1) := by decide +kernel
theorem dC_7 : decode prog_41_method_13_code 7 = .ok (.getfield 22, 3) := by decide +kernel
theorem dC_10 : decode prog_41_method_13_code 10 = .ok (.arraylength, 1) := by decide +kernel
theorem dC_11 : decode prog_41_method_13_code 11 = .ok (.iload_n 1, 1) := by decide +kernel
theorem dC_12 : decode prog_41_method_13_code 12 = .ok (.iconst 1, 1) := by decide +kernel
theorem dC_13 : decode prog_41_method_13_code 13 = .ok (.iadd, 1) := by decide +kernel
theorem dC_14 : decode prog_41_method_13_code 14 = .ok (.if_icmp .ne 26, 3) := by decide +kernel
theorem dC_17 : decode prog_41_method_13_code 17 = .ok (.aload_n 0, 1) := by decide +kernel
theorem dC_18 : decode prog_41_method_13_code 18 = .ok (.getfield 22, 3) := by decide +kernel
theorem dC_21 : decode prog_41_method_13_code 21 = .ok (.iconst 0, 1) := by decide +kernel
theorem dC_22 : decode prog_41_method_13_code 22 = .ok (.iaload, 1) := by decide +kernel
theorem dC_23 : decode prog_41_method_13_code 23 = .ok (.ifCond .ne 17, 3) := by decide +kernel
theorem dC_26 : decode prog_41_method_13_code 26 = .ok (.aload_n 0, 1) := by decide +kernel
theorem dC_27 : decode prog_41_method_13_code 27 = .ok (.getfield 22, 3) := by decide +kernel
theorem dC_30 : decode prog_41_method_13_code 30 = .ok (.iload_n 1, 1) := by decide +kernel
theorem dC_31 : decode prog_41_method_13_code 31 = .ok (.iaload, 1) := by decide +kernel
theorem dC_32 : decode prog_41_method_13_code 32 = .ok (.aload_n 0, 1) := by decide +kernel
theorem dC_33 : decode prog_41_method_13_code 33 = .ok (.getfield 29, 3) := by decide +kernel
theorem dC_36 : decode prog_41_method_13_code 36 = .ok (.arraylength, 1) := by decide +kernel
theorem dC_37 : decode prog_41_method_13_code 37 = .ok (.if_icmp .eq 24, 3) := by decide +kernel
theorem dC_61 : decode prog_41_method_13_code 61 = .ok (.aload_n 0, 1) := by decide +kernel
theorem dC_62 : decode prog_41_method_13_code 62 = .ok (.getfield 32, 3) := by decide +kernel
theorem dC_65 : decode prog_41_method_13_code 65 = .ok (.ifCond .lt 11, 3) := by decide +kernel
theorem dC_68 : decode prog_41_method_13_code 68 = .ok (.aload_n 0, 1) := by decide +kernel
theorem dC_69 : decode prog_41_method_13_code 69 = .ok (.getfield 32, 3) := by decide +kernel
theorem dC_72 : decode prog_41_method_13_code 72 = .ok (.iload_n 1, 1) := by decide +kernel
theorem dC_73 : decode prog_41_method_13_code 73 = .ok (.if_icmp .lt 14, 3) := by decide +kernel
theorem dC_87 : decode prog_41_method_13_code 87 = .ok (.iconst 0, 1) := by decide +kernel
theorem dC_88 : decode prog_41_method_13_code 88 = .ok (.istore_n 2, 1) := by decide +kernel
theorem dC_89 : decode prog_41_method_13_code 89 = .ok (.iload_n 2, 1) := by decide +kernel
theorem dC_90 : decode prog_41_method_13_code 90 = .ok (.iload_n 1, 1) := by decide +kernel
theorem dC_91 : decode prog_41_method_13_code 91 = .ok (.if_icmp .ge 69, 3) := by decide +kernel
theorem dC_94 : decode prog_41_method_13_code 94 = .ok (.aload_n 0, 1) := by decide +kernel
theorem dC_95 : decode prog_41_method_13_code 95 = .ok (.getfield 13, 3) := by decide +kernel
theorem dC_98 : decode prog_41_method_13_code 98 = .ok (.iload_n 2, 1) := by decide +kernel
theorem dC_99 : decode prog_41_method_13_code 99 = .ok (.iaload, 1) := by decide +kernel
theorem dC_100 : decode prog_41_method_13_code 100 = .ok (.ifCond .ge 23, 3) := by decide +kernel
theorem dC_123 : decode prog_41_method_13_code 123 = .ok (.aload_n 0, 1) := by decide +kernel
theorem dC_124 : decode prog_41_method_13_code 124 = .ok (.getfield 22, 3) := by decide +kernel
theorem dC_127 : decode prog_41_method_13_code 127 = .ok (.iload_n 2, 1) := by decide +kernel
theorem dC_128 : decode prog_41_method_13_code 128 = .ok (.iconst 1, 1) := by decide +kernel
theorem dC_129 : decode prog_41_method_13_code 129 = .ok (.iadd, 1) := by decide +kernel
theorem dC_130 : decode prog_41_method_13_code 130 = .ok (.iaload, 1) := by decide +kernel
theorem dC_131 : decode prog_41_method_13_code 131 = .ok (.aload_n 0, 1) := by decide +kernel
theorem dC_132 : decode prog_41_method_13_code 132 = .ok (.getfield 22, 3) := by decide +kernel
theorem dC_135 : decode prog_41_method_13_code 135 = .ok (.iload_n 2, 1) := by decide +kernel
theorem dC_136 : decode prog_41_method_13_code 136 = .ok (.iaload, 1) := by decide +kernel
theorem dC_137 : decode prog_41_method_13_code 137 = .ok (.if_icmp .gt 17, 3) := by decide +kernel
theorem dC_154 : decode prog_41_method_13_code 154 = .ok (.iinc 2 1, 3) := by decide +kernel
theorem dC_157 : decode prog_41_method_13_code 157 = .ok (.goto (-68), 3) := by decide +kernel
theorem dC_160 : decode prog_41_method_13_code 160 = .ok (.iconst 0, 1) := by decide +kernel
theorem dC_161 : decode prog_41_method_13_code 161 = .ok (.istore_n 2, 1) := by decide +kernel
theorem dC_162 : decode prog_41_method_13_code 162 = .ok (.iload_n 2, 1) := by decide +kernel
theorem dC_163 : decode prog_41_method_13_code 163 = .ok (.iload_n 1, 1) := by decide +kernel
theorem dC_164 : decode prog_41_method_13_code 164 = .ok (.if_icmp .ge 70, 3) := by decide +kernel
theorem dC_167 : decode prog_41_method_13_code 167 = .ok (.aload_n 0, 1) := by decide +kernel
theorem dC_168 : decode prog_41_method_13_code 168 = .ok (.getfield 22, 3) := by decide +kernel
theorem dC_171 : decode prog_41_method_13_code 171 = .ok (.iload_n 2, 1) := by decide +kernel
theorem dC_172 : decode prog_41_method_13_code 172 = .ok (.iaload, 1) := by decide +kernel
theorem dC_173 : decode prog_41_method_13_code 173 = .ok (.istore_n 3, 1) := by decide +kernel
theorem dC_174 : decode prog_41_method_13_code 174 = .ok (.iload_n 3, 1) := by decide +kernel
theorem dC_175 : decode prog_41_method_13_code 175 = .ok (.aload_n 0, 1) := by decide +kernel
theorem dC_176 : decode prog_41_method_13_code 176 = .ok (.getfield 22, 3) := by decide +kernel
theorem dC_179 : decode prog_41_method_13_code 179 = .ok (.iload_n 2, 1) := by decide +kernel
theorem dC_180 : decode prog_41_method_13_code 180 = .ok (.iconst 1, 1) := by decide +kernel
theorem dC_181 : decode prog_41_method_13_code 181 = .ok (.iadd, 1) := by decide +kernel
theorem dC_182 : decode prog_41_method_13_code 182 = .ok (.iaload, 1) := by decide +kernel
theorem dC_183 : decode prog_41_method_13_code 183 = .ok (.if_icmp .ge 45, 3) := by decide +kernel
theorem dC_186 : decode prog_41_method_13_code 186 = .ok (.aload_n 0, 1) := by decide +kernel
theorem dC_187 : decode prog_41_method_13_code 187 = .ok (.getfield 29, 3) := by decide +kernel
theorem dC_190 : decode prog_41_method_13_code 190 = .ok (.iload_n 3, 1) := by decide +kernel
theorem dC_191 : decode prog_41_method_13_code 191 = .ok (.iaload, 1) := by decide +kernel
theorem dC_192 : decode prog_41_method_13_code 192 = .ok (.ifCond .lt 13, 3) := by decide +kernel
theorem dC_195 : decode prog_41_method_13_code 195 = .ok (.aload_n 0, 1) := by decide +kernel
theorem dC_196 : decode prog_41_method_13_code 196 = .ok (.getfield 29, 3) := by decide +kernel
theorem dC_199 : decode prog_41_method_13_code 199 = .ok (.iload_n 3, 1) := by decide +kernel
theorem dC_200 : decode prog_41_method_13_code 200 = .ok (.iaload, 1) := by decide +kernel
theorem dC_201 : decode prog_41_method_13_code 201 = .ok (.iload_n 1, 1) := by decide +kernel
theorem dC_202 : decode prog_41_method_13_code 202 = .ok (.if_icmp .lt 20, 3) := by decide +kernel
theorem dC_222 : decode prog_41_method_13_code 222 = .ok (.iinc 3 1, 3) := by decide +kernel
theorem dC_225 : decode prog_41_method_13_code 225 = .ok (.goto (-51), 3) := by decide +kernel
theorem dC_228 : decode prog_41_method_13_code 228 = .ok (.iinc 2 1, 3) := by decide +kernel
theorem dC_231 : decode prog_41_method_13_code 231 = .ok (.goto (-69), 3) := by decide +kernel
theorem dC_234 : decode prog_41_method_13_code 234 = .ok (.return_, 1) := by decide +kernel
theorem pl_C : plainFor (⟨"com/example/equilibrate/equilibrate/model/Arena", "checkWellFormed", "()V"⟩ : MethodName) = true := plainFor_of_name (by first | (simp [plainName, overriddenIn]; done) | decide +kernel)
theorem ef_C (mm : MethodId) (a1 : Addr) : entryFrame mm #[(.ref a1)] 4 = mkF mm 0 #[.val (.ref a1), .unset, .unset, .unset] [] := by first | (simp [entryFrame, mkF, argsToLocals, Value.category]; done) | rfl
set_option maxRecDepth 65536 in
set_option maxHeartbeats 40000000 in
theorem rmC (l : Launch) (Z : State) (a0 : Array Value) (hw : ∀ d ∈ tables_1, d.before a0 Z = true) (a1 : Addr) (h0 : Heap) (n0 : Nat) (ow ss sc : Addr) (F_owners : Fld Z h0 a1 "com/example/equilibrate/equilibrate/model/Arena" "owners" "[I" (.ref ow)) (F_successorStart : Fld Z h0 a1 "com/example/equilibrate/equilibrate/model/Arena" "successorStart" "[I" (.ref ss)) (F_successors : Fld Z h0 a1 "com/example/equilibrate/equilibrate/model/Arena" "successors" "[I" (.ref sc)) (F_startVertex : Fld Z h0 a1 "com/example/equilibrate/equilibrate/model/Arena" "startVertex" "I" (.int (0 : Int32))) (A : Ari Z h0 ow .int 4 (lf [(0 : Int32), (0 : Int32), (0 : Int32), (0 : Int32)])) (B : Ari Z h0 ss .int 5 (lf [(0 : Int32), (1 : Int32), (2 : Int32), (3 : Int32), (4 : Int32)])) (D : Ari Z h0 sc .int 4 (lf [(0 : Int32), (1 : Int32), (2 : Int32), (3 : Int32)])) :
    Con l (⟨"com/example/equilibrate/equilibrate/model/Arena", "checkWellFormed", "()V"⟩ : MethodName) prog_41_method_13_code 4 none ({ frames := 0, cells := 0, slots := 0, locals := 0 } : Room) Z #[(.ref a1)] h0 n0 (fun o h => o = none ∧ h0 = h) := by
  refine Con.enter pl_C (fun mm => ef_C mm a1) ?_
  intro K O C H
  replace H := k_aloadN C H dC_0 rfl rfl (pc' := 1) rfl
  replace H := k_getFld C H (hw _ (List.mem_of_getElem? (i := 36) rfl)) F_owners dC_1 (pc' := 4) rfl
  replace H := k_arrlen C H A dC_4 (pc' := 5) rfl
  replace H : K 5 #[.val (.ref a1), .unset, .unset, .unset] [(.int (4 : Int32))] h0 0 0 := H
  replace H := k_istoreN C H dC_5 (L' := #[.val (.ref a1), .val (.int (4 : Int32)), .unset, .unset]) rfl (pc' := 6) rfl
  replace H := k_aloadN C H dC_6 rfl rfl (pc' := 7) rfl
  replace H := k_getFld C H (hw _ (List.mem_of_getElem? (i := 42) rfl)) F_successorStart dC_7 (pc' := 10) rfl
  replace H := k_arrlen C H B dC_10 (pc' := 11) rfl
  replace H : K 11 #[.val (.ref a1), .val (.int (4 : Int32)), .unset, .unset] [(.int (5 : Int32))] h0 0 0 := H
  replace H := k_iloadN C H dC_11 rfl (pc' := 12) rfl
  replace H := k_iconst C H (v := 1) dC_12 rfl (pc' := 13) rfl
  replace H := k_iadd C H dC_13 (pc' := 14) rfl
  replace H : K 14 #[.val (.ref a1), .val (.int (4 : Int32)), .unset, .unset] [(.int (5 : Int32)), (.int (5 : Int32))] h0 0 0 := H
  replace H := k_icmpN C H dC_14 (teq (by decide : (5 : Int32) = (5 : Int32))).2 (pc' := 17) rfl
  replace H := k_aloadN C H dC_17 rfl rfl (pc' := 18) rfl
  replace H := k_getFld C H (hw _ (List.mem_of_getElem? (i := 42) rfl)) F_successorStart dC_18 (pc' := 21) rfl
  replace H := k_iconst C H (v := 0) dC_21 rfl (pc' := 22) rfl
  replace H := k_iaload C H B (i := 0) (by decide) (by decide) dC_22 (pc' := 23) rfl
  replace H : K 23 #[.val (.ref a1), .val (.int (4 : Int32)), .unset, .unset] [(.int (0 : Int32))] h0 0 0 := H
  replace H := k_ifcN C H dC_23 (teq (by decide : (0 : Int32) = (0 : Int32))).2 (pc' := 26) rfl
  replace H := k_aloadN C H dC_26 rfl rfl (pc' := 27) rfl
  replace H := k_getFld C H (hw _ (List.mem_of_getElem? (i := 42) rfl)) F_successorStart dC_27 (pc' := 30) rfl
  replace H := k_iloadN C H dC_30 rfl (pc' := 31) rfl
  replace H := k_iaload C H B (i := 4) (by decide) (by decide) dC_31 (pc' := 32) rfl
  replace H : K 32 #[.val (.ref a1), .val (.int (4 : Int32)), .unset, .unset] [(.int (4 : Int32))] h0 0 0 := H
  replace H := k_aloadN C H dC_32 rfl rfl (pc' := 33) rfl
  replace H := k_getFld C H (hw _ (List.mem_of_getElem? (i := 51) rfl)) F_successors dC_33 (pc' := 36) rfl
  replace H := k_arrlen C H D dC_36 (pc' := 37) rfl
  replace H : K 37 #[.val (.ref a1), .val (.int (4 : Int32)), .unset, .unset] [(.int (4 : Int32)), (.int (4 : Int32))] h0 0 0 := H
  replace H := k_icmpY C H dC_37 (teq (by decide : (4 : Int32) = (4 : Int32))).1 (by decide) (pc' := 61) rfl
  replace H := k_aloadN C H dC_61 rfl rfl (pc' := 62) rfl
  replace H := k_getFld C H (hw _ (List.mem_of_getElem? (i := 53) rfl)) F_startVertex dC_62 (pc' := 65) rfl
  replace H := k_ifcN C H dC_65 (flt (by decide : ¬ ((0 : Int32) < (0 : Int32)))).1 (pc' := 68) rfl
  replace H := k_aloadN C H dC_68 rfl rfl (pc' := 69) rfl
  replace H := k_getFld C H (hw _ (List.mem_of_getElem? (i := 53) rfl)) F_startVertex dC_69 (pc' := 72) rfl
  replace H := k_iloadN C H dC_72 rfl (pc' := 73) rfl
  replace H := k_icmpY C H dC_73 (tlt (by decide : (0 : Int32) < (4 : Int32))).1 (by decide) (pc' := 87) rfl
  replace H := k_iconst C H (v := 0) dC_87 rfl (pc' := 88) rfl
  replace H := k_istoreN C H dC_88 (L' := #[.val (.ref a1), .val (.int (4 : Int32)), .val (.int (0 : Int32)), .unset]) rfl (pc' := 89) rfl
  replace H := k_iloadN C H dC_89 rfl (pc' := 90) rfl
  replace H := k_iloadN C H dC_90 rfl (pc' := 91) rfl
  replace H := k_icmpN C H dC_91 (tlt (by decide : (0 : Int32) < (4 : Int32))).2.1 (pc' := 94) rfl
  replace H := k_aloadN C H dC_94 rfl rfl (pc' := 95) rfl
  replace H := k_getFld C H (hw _ (List.mem_of_getElem? (i := 36) rfl)) F_owners dC_95 (pc' := 98) rfl
  replace H := k_iloadN C H dC_98 rfl (pc' := 99) rfl
  replace H := k_iaload C H A (i := 0) (by decide) (by decide) dC_99 (pc' := 100) rfl
  replace H : K 100 #[.val (.ref a1), .val (.int (4 : Int32)), .val (.int (0 : Int32)), .unset] [(.int (0 : Int32))] h0 0 0 := H
  replace H := k_ifcY C H dC_100 (flt (by decide : ¬ ((0 : Int32) < (0 : Int32)))).2.1 (by decide) (pc' := 123) rfl
  replace H := k_aloadN C H dC_123 rfl rfl (pc' := 124) rfl
  replace H := k_getFld C H (hw _ (List.mem_of_getElem? (i := 42) rfl)) F_successorStart dC_124 (pc' := 127) rfl
  replace H := k_iloadN C H dC_127 rfl (pc' := 128) rfl
  replace H := k_iconst C H (v := 1) dC_128 rfl (pc' := 129) rfl
  replace H := k_iadd C H dC_129 (pc' := 130) rfl
  replace H : K 130 #[.val (.ref a1), .val (.int (4 : Int32)), .val (.int (0 : Int32)), .unset] [(.int (1 : Int32)), (.ref ss)] h0 0 0 := H
  replace H := k_iaload C H B (i := 1) (by decide) (by decide) dC_130 (pc' := 131) rfl
  replace H : K 131 #[.val (.ref a1), .val (.int (4 : Int32)), .val (.int (0 : Int32)), .unset] [(.int (1 : Int32))] h0 0 0 := H
  replace H := k_aloadN C H dC_131 rfl rfl (pc' := 132) rfl
  replace H := k_getFld C H (hw _ (List.mem_of_getElem? (i := 42) rfl)) F_successorStart dC_132 (pc' := 135) rfl
  replace H := k_iloadN C H dC_135 rfl (pc' := 136) rfl
  replace H := k_iaload C H B (i := 0) (by decide) (by decide) dC_136 (pc' := 137) rfl
  replace H : K 137 #[.val (.ref a1), .val (.int (4 : Int32)), .val (.int (0 : Int32)), .unset] [(.int (0 : Int32)), (.int (1 : Int32))] h0 0 0 := H
  replace H := k_icmpY C H dC_137 (tlt (by decide : (0 : Int32) < (1 : Int32))).2.2.1 (by decide) (pc' := 154) rfl
  replace H := k_iinc C H (y := ((0 : Int32) + (1 : Int32))) dC_154 rfl rfl (L' := #[.val (.ref a1), .val (.int (4 : Int32)), .val (.int ((0 : Int32) + (1 : Int32))), .unset]) rfl (pc' := 157) rfl
  replace H : K 157 #[.val (.ref a1), .val (.int (4 : Int32)), .val (.int (1 : Int32)), .unset] [] h0 0 0 := H
  replace H := k_goto C H dC_157 (by decide) (pc' := 89) rfl
  replace H := k_iloadN C H dC_89 rfl (pc' := 90) rfl
  replace H := k_iloadN C H dC_90 rfl (pc' := 91) rfl
  replace H := k_icmpN C H dC_91 (tlt (by decide : (1 : Int32) < (4 : Int32))).2.1 (pc' := 94) rfl
  replace H := k_aloadN C H dC_94 rfl rfl (pc' := 95) rfl
  replace H := k_getFld C H (hw _ (List.mem_of_getElem? (i := 36) rfl)) F_owners dC_95 (pc' := 98) rfl
  replace H := k_iloadN C H dC_98 rfl (pc' := 99) rfl
  replace H := k_iaload C H A (i := 1) (by decide) (by decide) dC_99 (pc' := 100) rfl
  replace H : K 100 #[.val (.ref a1), .val (.int (4 : Int32)), .val (.int (1 : Int32)), .unset] [(.int (0 : Int32))] h0 0 0 := H
  replace H := k_ifcY C H dC_100 (flt (by decide : ¬ ((0 : Int32) < (0 : Int32)))).2.1 (by decide) (pc' := 123) rfl
  replace H := k_aloadN C H dC_123 rfl rfl (pc' := 124) rfl
  replace H := k_getFld C H (hw _ (List.mem_of_getElem? (i := 42) rfl)) F_successorStart dC_124 (pc' := 127) rfl
  replace H := k_iloadN C H dC_127 rfl (pc' := 128) rfl
  replace H := k_iconst C H (v := 1) dC_128 rfl (pc' := 129) rfl
  replace H := k_iadd C H dC_129 (pc' := 130) rfl
  replace H : K 130 #[.val (.ref a1), .val (.int (4 : Int32)), .val (.int (1 : Int32)), .unset] [(.int (2 : Int32)), (.ref ss)] h0 0 0 := H
  replace H := k_iaload C H B (i := 2) (by decide) (by decide) dC_130 (pc' := 131) rfl
  replace H : K 131 #[.val (.ref a1), .val (.int (4 : Int32)), .val (.int (1 : Int32)), .unset] [(.int (2 : Int32))] h0 0 0 := H
  replace H := k_aloadN C H dC_131 rfl rfl (pc' := 132) rfl
  replace H := k_getFld C H (hw _ (List.mem_of_getElem? (i := 42) rfl)) F_successorStart dC_132 (pc' := 135) rfl
  replace H := k_iloadN C H dC_135 rfl (pc' := 136) rfl
  replace H := k_iaload C H B (i := 1) (by decide) (by decide) dC_136 (pc' := 137) rfl
  replace H : K 137 #[.val (.ref a1), .val (.int (4 : Int32)), .val (.int (1 : Int32)), .unset] [(.int (1 : Int32)), (.int (2 : Int32))] h0 0 0 := H
  replace H := k_icmpY C H dC_137 (tlt (by decide : (1 : Int32) < (2 : Int32))).2.2.1 (by decide) (pc' := 154) rfl
  replace H := k_iinc C H (y := ((1 : Int32) + (1 : Int32))) dC_154 rfl rfl (L' := #[.val (.ref a1), .val (.int (4 : Int32)), .val (.int ((1 : Int32) + (1 : Int32))), .unset]) rfl (pc' := 157) rfl
  replace H : K 157 #[.val (.ref a1), .val (.int (4 : Int32)), .val (.int (2 : Int32)), .unset] [] h0 0 0 := H
  replace H := k_goto C H dC_157 (by decide) (pc' := 89) rfl
  replace H := k_iloadN C H dC_89 rfl (pc' := 90) rfl
  replace H := k_iloadN C H dC_90 rfl (pc' := 91) rfl
  replace H := k_icmpN C H dC_91 (tlt (by decide : (2 : Int32) < (4 : Int32))).2.1 (pc' := 94) rfl
  replace H := k_aloadN C H dC_94 rfl rfl (pc' := 95) rfl
  replace H := k_getFld C H (hw _ (List.mem_of_getElem? (i := 36) rfl)) F_owners dC_95 (pc' := 98) rfl
  replace H := k_iloadN C H dC_98 rfl (pc' := 99) rfl
  replace H := k_iaload C H A (i := 2) (by decide) (by decide) dC_99 (pc' := 100) rfl
  replace H : K 100 #[.val (.ref a1), .val (.int (4 : Int32)), .val (.int (2 : Int32)), .unset] [(.int (0 : Int32))] h0 0 0 := H
  replace H := k_ifcY C H dC_100 (flt (by decide : ¬ ((0 : Int32) < (0 : Int32)))).2.1 (by decide) (pc' := 123) rfl
  replace H := k_aloadN C H dC_123 rfl rfl (pc' := 124) rfl
  replace H := k_getFld C H (hw _ (List.mem_of_getElem? (i := 42) rfl)) F_successorStart dC_124 (pc' := 127) rfl
  replace H := k_iloadN C H dC_127 rfl (pc' := 128) rfl
  replace H := k_iconst C H (v := 1) dC_128 rfl (pc' := 129) rfl
  replace H := k_iadd C H dC_129 (pc' := 130) rfl
  replace H : K 130 #[.val (.ref a1), .val (.int (4 : Int32)), .val (.int (2 : Int32)), .unset] [(.int (3 : Int32)), (.ref ss)] h0 0 0 := H
  replace H := k_iaload C H B (i := 3) (by decide) (by decide) dC_130 (pc' := 131) rfl
  replace H : K 131 #[.val (.ref a1), .val (.int (4 : Int32)), .val (.int (2 : Int32)), .unset] [(.int (3 : Int32))] h0 0 0 := H
  replace H := k_aloadN C H dC_131 rfl rfl (pc' := 132) rfl
  replace H := k_getFld C H (hw _ (List.mem_of_getElem? (i := 42) rfl)) F_successorStart dC_132 (pc' := 135) rfl
  replace H := k_iloadN C H dC_135 rfl (pc' := 136) rfl
  replace H := k_iaload C H B (i := 2) (by decide) (by decide) dC_136 (pc' := 137) rfl
  replace H : K 137 #[.val (.ref a1), .val (.int (4 : Int32)), .val (.int (2 : Int32)), .unset] [(.int (2 : Int32)), (.int (3 : Int32))] h0 0 0 := H
  replace H := k_icmpY C H dC_137 (tlt (by decide : (2 : Int32) < (3 : Int32))).2.2.1 (by decide) (pc' := 154) rfl
  replace H := k_iinc C H (y := ((2 : Int32) + (1 : Int32))) dC_154 rfl rfl (L' := #[.val (.ref a1), .val (.int (4 : Int32)), .val (.int ((2 : Int32) + (1 : Int32))), .unset]) rfl (pc' := 157) rfl
  replace H : K 157 #[.val (.ref a1), .val (.int (4 : Int32)), .val (.int (3 : Int32)), .unset] [] h0 0 0 := H
  replace H := k_goto C H dC_157 (by decide) (pc' := 89) rfl
  replace H := k_iloadN C H dC_89 rfl (pc' := 90) rfl
  replace H := k_iloadN C H dC_90 rfl (pc' := 91) rfl
  replace H := k_icmpN C H dC_91 (tlt (by decide : (3 : Int32) < (4 : Int32))).2.1 (pc' := 94) rfl
  replace H := k_aloadN C H dC_94 rfl rfl (pc' := 95) rfl
  replace H := k_getFld C H (hw _ (List.mem_of_getElem? (i := 36) rfl)) F_owners dC_95 (pc' := 98) rfl
  replace H := k_iloadN C H dC_98 rfl (pc' := 99) rfl
  replace H := k_iaload C H A (i := 3) (by decide) (by decide) dC_99 (pc' := 100) rfl
  replace H : K 100 #[.val (.ref a1), .val (.int (4 : Int32)), .val (.int (3 : Int32)), .unset] [(.int (0 : Int32))] h0 0 0 := H
  replace H := k_ifcY C H dC_100 (flt (by decide : ¬ ((0 : Int32) < (0 : Int32)))).2.1 (by decide) (pc' := 123) rfl
  replace H := k_aloadN C H dC_123 rfl rfl (pc' := 124) rfl
  replace H := k_getFld C H (hw _ (List.mem_of_getElem? (i := 42) rfl)) F_successorStart dC_124 (pc' := 127) rfl
  replace H := k_iloadN C H dC_127 rfl (pc' := 128) rfl
  replace H := k_iconst C H (v := 1) dC_128 rfl (pc' := 129) rfl
  replace H := k_iadd C H dC_129 (pc' := 130) rfl
  replace H : K 130 #[.val (.ref a1), .val (.int (4 : Int32)), .val (.int (3 : Int32)), .unset] [(.int (4 : Int32)), (.ref ss)] h0 0 0 := H
  replace H := k_iaload C H B (i := 4) (by decide) (by decide) dC_130 (pc' := 131) rfl
  replace H : K 131 #[.val (.ref a1), .val (.int (4 : Int32)), .val (.int (3 : Int32)), .unset] [(.int (4 : Int32))] h0 0 0 := H
  replace H := k_aloadN C H dC_131 rfl rfl (pc' := 132) rfl
  replace H := k_getFld C H (hw _ (List.mem_of_getElem? (i := 42) rfl)) F_successorStart dC_132 (pc' := 135) rfl
  replace H := k_iloadN C H dC_135 rfl (pc' := 136) rfl
  replace H := k_iaload C H B (i := 3) (by decide) (by decide) dC_136 (pc' := 137) rfl
  replace H : K 137 #[.val (.ref a1), .val (.int (4 : Int32)), .val (.int (3 : Int32)), .unset] [(.int (3 : Int32)), (.int (4 : Int32))] h0 0 0 := H
  replace H := k_icmpY C H dC_137 (tlt (by decide : (3 : Int32) < (4 : Int32))).2.2.1 (by decide) (pc' := 154) rfl
  replace H := k_iinc C H (y := ((3 : Int32) + (1 : Int32))) dC_154 rfl rfl (L' := #[.val (.ref a1), .val (.int (4 : Int32)), .val (.int ((3 : Int32) + (1 : Int32))), .unset]) rfl (pc' := 157) rfl
  replace H : K 157 #[.val (.ref a1), .val (.int (4 : Int32)), .val (.int (4 : Int32)), .unset] [] h0 0 0 := H
  replace H := k_goto C H dC_157 (by decide) (pc' := 89) rfl
  replace H := k_iloadN C H dC_89 rfl (pc' := 90) rfl
  replace H := k_iloadN C H dC_90 rfl (pc' := 91) rfl
  replace H := k_icmpY C H dC_91 (flt (by decide : ¬ ((4 : Int32) < (4 : Int32)))).2.1 (by decide) (pc' := 160) rfl
  replace H := k_iconst C H (v := 0) dC_160 rfl (pc' := 161) rfl
  replace H := k_istoreN C H dC_161 (L' := #[.val (.ref a1), .val (.int (4 : Int32)), .val (.int (0 : Int32)), .unset]) rfl (pc' := 162) rfl
  replace H := k_iloadN C H dC_162 rfl (pc' := 163) rfl
  replace H := k_iloadN C H dC_163 rfl (pc' := 164) rfl
  replace H := k_icmpN C H dC_164 (tlt (by decide : (0 : Int32) < (4 : Int32))).2.1 (pc' := 167) rfl
  replace H := k_aloadN C H dC_167 rfl rfl (pc' := 168) rfl
  replace H := k_getFld C H (hw _ (List.mem_of_getElem? (i := 42) rfl)) F_successorStart dC_168 (pc' := 171) rfl
  replace H := k_iloadN C H dC_171 rfl (pc' := 172) rfl
  replace H := k_iaload C H B (i := 0) (by decide) (by decide) dC_172 (pc' := 173) rfl
  replace H : K 173 #[.val (.ref a1), .val (.int (4 : Int32)), .val (.int (0 : Int32)), .unset] [(.int (0 : Int32))] h0 0 0 := H
  replace H := k_istoreN C H dC_173 (L' := #[.val (.ref a1), .val (.int (4 : Int32)), .val (.int (0 : Int32)), .val (.int (0 : Int32))]) rfl (pc' := 174) rfl
  replace H := k_iloadN C H dC_174 rfl (pc' := 175) rfl
  replace H := k_aloadN C H dC_175 rfl rfl (pc' := 176) rfl
  replace H := k_getFld C H (hw _ (List.mem_of_getElem? (i := 42) rfl)) F_successorStart dC_176 (pc' := 179) rfl
  replace H := k_iloadN C H dC_179 rfl (pc' := 180) rfl
  replace H := k_iconst C H (v := 1) dC_180 rfl (pc' := 181) rfl
  replace H := k_iadd C H dC_181 (pc' := 182) rfl
  replace H : K 182 #[.val (.ref a1), .val (.int (4 : Int32)), .val (.int (0 : Int32)), .val (.int (0 : Int32))] [(.int (1 : Int32)), (.ref ss), (.int (0 : Int32))] h0 0 0 := H
  replace H := k_iaload C H B (i := 1) (by decide) (by decide) dC_182 (pc' := 183) rfl
  replace H : K 183 #[.val (.ref a1), .val (.int (4 : Int32)), .val (.int (0 : Int32)), .val (.int (0 : Int32))] [(.int (1 : Int32)), (.int (0 : Int32))] h0 0 0 := H
  replace H := k_icmpN C H dC_183 (tlt (by decide : (0 : Int32) < (1 : Int32))).2.1 (pc' := 186) rfl
  replace H := k_aloadN C H dC_186 rfl rfl (pc' := 187) rfl
  replace H := k_getFld C H (hw _ (List.mem_of_getElem? (i := 51) rfl)) F_successors dC_187 (pc' := 190) rfl
  replace H := k_iloadN C H dC_190 rfl (pc' := 191) rfl
  replace H := k_iaload C H D (i := 0) (by decide) (by decide) dC_191 (pc' := 192) rfl
  replace H : K 192 #[.val (.ref a1), .val (.int (4 : Int32)), .val (.int (0 : Int32)), .val (.int (0 : Int32))] [(.int (0 : Int32))] h0 0 0 := H
  replace H := k_ifcN C H dC_192 (flt (by decide : ¬ ((0 : Int32) < (0 : Int32)))).1 (pc' := 195) rfl
  replace H := k_aloadN C H dC_195 rfl rfl (pc' := 196) rfl
  replace H := k_getFld C H (hw _ (List.mem_of_getElem? (i := 51) rfl)) F_successors dC_196 (pc' := 199) rfl
  replace H := k_iloadN C H dC_199 rfl (pc' := 200) rfl
  replace H := k_iaload C H D (i := 0) (by decide) (by decide) dC_200 (pc' := 201) rfl
  replace H : K 201 #[.val (.ref a1), .val (.int (4 : Int32)), .val (.int (0 : Int32)), .val (.int (0 : Int32))] [(.int (0 : Int32))] h0 0 0 := H
  replace H := k_iloadN C H dC_201 rfl (pc' := 202) rfl
  replace H := k_icmpY C H dC_202 (tlt (by decide : (0 : Int32) < (4 : Int32))).1 (by decide) (pc' := 222) rfl
  replace H := k_iinc C H (y := ((0 : Int32) + (1 : Int32))) dC_222 rfl rfl (L' := #[.val (.ref a1), .val (.int (4 : Int32)), .val (.int (0 : Int32)), .val (.int ((0 : Int32) + (1 : Int32)))]) rfl (pc' := 225) rfl
  replace H : K 225 #[.val (.ref a1), .val (.int (4 : Int32)), .val (.int (0 : Int32)), .val (.int (1 : Int32))] [] h0 0 0 := H
  replace H := k_goto C H dC_225 (by decide) (pc' := 174) rfl
  replace H := k_iloadN C H dC_174 rfl (pc' := 175) rfl
  replace H := k_aloadN C H dC_175 rfl rfl (pc' := 176) rfl
  replace H := k_getFld C H (hw _ (List.mem_of_getElem? (i := 42) rfl)) F_successorStart dC_176 (pc' := 179) rfl
  replace H := k_iloadN C H dC_179 rfl (pc' := 180) rfl
  replace H := k_iconst C H (v := 1) dC_180 rfl (pc' := 181) rfl
  replace H := k_iadd C H dC_181 (pc' := 182) rfl
  replace H : K 182 #[.val (.ref a1), .val (.int (4 : Int32)), .val (.int (0 : Int32)), .val (.int (1 : Int32))] [(.int (1 : Int32)), (.ref ss), (.int (1 : Int32))] h0 0 0 := H
  replace H := k_iaload C H B (i := 1) (by decide) (by decide) dC_182 (pc' := 183) rfl
  replace H : K 183 #[.val (.ref a1), .val (.int (4 : Int32)), .val (.int (0 : Int32)), .val (.int (1 : Int32))] [(.int (1 : Int32)), (.int (1 : Int32))] h0 0 0 := H
  replace H := k_icmpY C H dC_183 (flt (by decide : ¬ ((1 : Int32) < (1 : Int32)))).2.1 (by decide) (pc' := 228) rfl
  replace H := k_iinc C H (y := ((0 : Int32) + (1 : Int32))) dC_228 rfl rfl (L' := #[.val (.ref a1), .val (.int (4 : Int32)), .val (.int ((0 : Int32) + (1 : Int32))), .val (.int (1 : Int32))]) rfl (pc' := 231) rfl
  replace H : K 231 #[.val (.ref a1), .val (.int (4 : Int32)), .val (.int (1 : Int32)), .val (.int (1 : Int32))] [] h0 0 0 := H
  replace H := k_goto C H dC_231 (by decide) (pc' := 162) rfl
  replace H := k_iloadN C H dC_162 rfl (pc' := 163) rfl
  replace H := k_iloadN C H dC_163 rfl (pc' := 164) rfl
  replace H := k_icmpN C H dC_164 (tlt (by decide : (1 : Int32) < (4 : Int32))).2.1 (pc' := 167) rfl
  replace H := k_aloadN C H dC_167 rfl rfl (pc' := 168) rfl
  replace H := k_getFld C H (hw _ (List.mem_of_getElem? (i := 42) rfl)) F_successorStart dC_168 (pc' := 171) rfl
  replace H := k_iloadN C H dC_171 rfl (pc' := 172) rfl
  replace H := k_iaload C H B (i := 1) (by decide) (by decide) dC_172 (pc' := 173) rfl
  replace H : K 173 #[.val (.ref a1), .val (.int (4 : Int32)), .val (.int (1 : Int32)), .val (.int (1 : Int32))] [(.int (1 : Int32))] h0 0 0 := H
  replace H := k_istoreN C H dC_173 (L' := #[.val (.ref a1), .val (.int (4 : Int32)), .val (.int (1 : Int32)), .val (.int (1 : Int32))]) rfl (pc' := 174) rfl
  replace H := k_iloadN C H dC_174 rfl (pc' := 175) rfl
  replace H := k_aloadN C H dC_175 rfl rfl (pc' := 176) rfl
  replace H := k_getFld C H (hw _ (List.mem_of_getElem? (i := 42) rfl)) F_successorStart dC_176 (pc' := 179) rfl
  replace H := k_iloadN C H dC_179 rfl (pc' := 180) rfl
  replace H := k_iconst C H (v := 1) dC_180 rfl (pc' := 181) rfl
  replace H := k_iadd C H dC_181 (pc' := 182) rfl
  replace H : K 182 #[.val (.ref a1), .val (.int (4 : Int32)), .val (.int (1 : Int32)), .val (.int (1 : Int32))] [(.int (2 : Int32)), (.ref ss), (.int (1 : Int32))] h0 0 0 := H
  replace H := k_iaload C H B (i := 2) (by decide) (by decide) dC_182 (pc' := 183) rfl
  replace H : K 183 #[.val (.ref a1), .val (.int (4 : Int32)), .val (.int (1 : Int32)), .val (.int (1 : Int32))] [(.int (2 : Int32)), (.int (1 : Int32))] h0 0 0 := H
  replace H := k_icmpN C H dC_183 (tlt (by decide : (1 : Int32) < (2 : Int32))).2.1 (pc' := 186) rfl
  replace H := k_aloadN C H dC_186 rfl rfl (pc' := 187) rfl
  replace H := k_getFld C H (hw _ (List.mem_of_getElem? (i := 51) rfl)) F_successors dC_187 (pc' := 190) rfl
  replace H := k_iloadN C H dC_190 rfl (pc' := 191) rfl
  replace H := k_iaload C H D (i := 1) (by decide) (by decide) dC_191 (pc' := 192) rfl
  replace H : K 192 #[.val (.ref a1), .val (.int (4 : Int32)), .val (.int (1 : Int32)), .val (.int (1 : Int32))] [(.int (1 : Int32))] h0 0 0 := H
  replace H := k_ifcN C H dC_192 (flt (by decide : ¬ ((1 : Int32) < (0 : Int32)))).1 (pc' := 195) rfl
  replace H := k_aloadN C H dC_195 rfl rfl (pc' := 196) rfl
  replace H := k_getFld C H (hw _ (List.mem_of_getElem? (i := 51) rfl)) F_successors dC_196 (pc' := 199) rfl
  replace H := k_iloadN C H dC_199 rfl (pc' := 200) rfl
  replace H := k_iaload C H D (i := 1) (by decide) (by decide) dC_200 (pc' := 201) rfl
  replace H : K 201 #[.val (.ref a1), .val (.int (4 : Int32)), .val (.int (1 : Int32)), .val (.int (1 : Int32))] [(.int (1 : Int32))] h0 0 0 := H
  replace H := k_iloadN C H dC_201 rfl (pc' := 202) rfl
  replace H := k_icmpY C H dC_202 (tlt (by decide : (1 : Int32) < (4 : Int32))).1 (by decide) (pc' := 222) rfl
  replace H := k_iinc C H (y := ((1 : Int32) + (1 : Int32))) dC_222 rfl rfl (L' := #[.val (.ref a1), .val (.int (4 : Int32)), .val (.int (1 : Int32)), .val (.int ((1 : Int32) + (1 : Int32)))]) rfl (pc' := 225) rfl
  replace H : K 225 #[.val (.ref a1), .val (.int (4 : Int32)), .val (.int (1 : Int32)), .val (.int (2 : Int32))] [] h0 0 0 := H
  replace H := k_goto C H dC_225 (by decide) (pc' := 174) rfl
  replace H := k_iloadN C H dC_174 rfl (pc' := 175) rfl
  replace H := k_aloadN C H dC_175 rfl rfl (pc' := 176) rfl
  replace H := k_getFld C H (hw _ (List.mem_of_getElem? (i := 42) rfl)) F_successorStart dC_176 (pc' := 179) rfl
  replace H := k_iloadN C H dC_179 rfl (pc' := 180) rfl
  replace H := k_iconst C H (v := 1) dC_180 rfl (pc' := 181) rfl
  replace H := k_iadd C H dC_181 (pc' := 182) rfl
  replace H : K 182 #[.val (.ref a1), .val (.int (4 : Int32)), .val (.int (1 : Int32)), .val (.int (2 : Int32))] [(.int (2 : Int32)), (.ref ss), (.int (2 : Int32))] h0 0 0 := H
  replace H := k_iaload C H B (i := 2) (by decide) (by decide) dC_182 (pc' := 183) rfl
  replace H : K 183 #[.val (.ref a1), .val (.int (4 : Int32)), .val (.int (1 : Int32)), .val (.int (2 : Int32))] [(.int (2 : Int32)), (.int (2 : Int32))] h0 0 0 := H
  replace H := k_icmpY C H dC_183 (flt (by decide : ¬ ((2 : Int32) < (2 : Int32)))).2.1 (by decide) (pc' := 228) rfl
  replace H := k_iinc C H (y := ((1 : Int32) + (1 : Int32))) dC_228 rfl rfl (L' := #[.val (.ref a1), .val (.int (4 : Int32)), .val (.int ((1 : Int32) + (1 : Int32))), .val (.int (2 : Int32))]) rfl (pc' := 231) rfl
  replace H : K 231 #[.val (.ref a1), .val (.int (4 : Int32)), .val (.int (2 : Int32)), .val (.int (2 : Int32))] [] h0 0 0 := H
  replace H := k_goto C H dC_231 (by decide) (pc' := 162) rfl
  replace H := k_iloadN C H dC_162 rfl (pc' := 163) rfl
  replace H := k_iloadN C H dC_163 rfl (pc' := 164) rfl
  replace H := k_icmpN C H dC_164 (tlt (by decide : (2 : Int32) < (4 : Int32))).2.1 (pc' := 167) rfl
  replace H := k_aloadN C H dC_167 rfl rfl (pc' := 168) rfl
  replace H := k_getFld C H (hw _ (List.mem_of_getElem? (i := 42) rfl)) F_successorStart dC_168 (pc' := 171) rfl
  replace H := k_iloadN C H dC_171 rfl (pc' := 172) rfl
  replace H := k_iaload C H B (i := 2) (by decide) (by decide) dC_172 (pc' := 173) rfl
  replace H : K 173 #[.val (.ref a1), .val (.int (4 : Int32)), .val (.int (2 : Int32)), .val (.int (2 : Int32))] [(.int (2 : Int32))] h0 0 0 := H
  replace H := k_istoreN C H dC_173 (L' := #[.val (.ref a1), .val (.int (4 : Int32)), .val (.int (2 : Int32)), .val (.int (2 : Int32))]) rfl (pc' := 174) rfl
  replace H := k_iloadN C H dC_174 rfl (pc' := 175) rfl
  replace H := k_aloadN C H dC_175 rfl rfl (pc' := 176) rfl
  replace H := k_getFld C H (hw _ (List.mem_of_getElem? (i := 42) rfl)) F_successorStart dC_176 (pc' := 179) rfl
  replace H := k_iloadN C H dC_179 rfl (pc' := 180) rfl
  replace H := k_iconst C H (v := 1) dC_180 rfl (pc' := 181) rfl
  replace H := k_iadd C H dC_181 (pc' := 182) rfl
  replace H : K 182 #[.val (.ref a1), .val (.int (4 : Int32)), .val (.int (2 : Int32)), .val (.int (2 : Int32))] [(.int (3 : Int32)), (.ref ss), (.int (2 : Int32))] h0 0 0 := H
  replace H := k_iaload C H B (i := 3) (by decide) (by decide) dC_182 (pc' := 183) rfl
  replace H : K 183 #[.val (.ref a1), .val (.int (4 : Int32)), .val (.int (2 : Int32)), .val (.int (2 : Int32))] [(.int (3 : Int32)), (.int (2 : Int32))] h0 0 0 := H
  replace H := k_icmpN C H dC_183 (tlt (by decide : (2 : Int32) < (3 : Int32))).2.1 (pc' := 186) rfl
  replace H := k_aloadN C H dC_186 rfl rfl (pc' := 187) rfl
  replace H := k_getFld C H (hw _ (List.mem_of_getElem? (i := 51) rfl)) F_successors dC_187 (pc' := 190) rfl
  replace H := k_iloadN C H dC_190 rfl (pc' := 191) rfl
  replace H := k_iaload C H D (i := 2) (by decide) (by decide) dC_191 (pc' := 192) rfl
  replace H : K 192 #[.val (.ref a1), .val (.int (4 : Int32)), .val (.int (2 : Int32)), .val (.int (2 : Int32))] [(.int (2 : Int32))] h0 0 0 := H
  replace H := k_ifcN C H dC_192 (flt (by decide : ¬ ((2 : Int32) < (0 : Int32)))).1 (pc' := 195) rfl
  replace H := k_aloadN C H dC_195 rfl rfl (pc' := 196) rfl
  replace H := k_getFld C H (hw _ (List.mem_of_getElem? (i := 51) rfl)) F_successors dC_196 (pc' := 199) rfl
  replace H := k_iloadN C H dC_199 rfl (pc' := 200) rfl
  replace H := k_iaload C H D (i := 2) (by decide) (by decide) dC_200 (pc' := 201) rfl
  replace H : K 201 #[.val (.ref a1), .val (.int (4 : Int32)), .val (.int (2 : Int32)), .val (.int (2 : Int32))] [(.int (2 : Int32))] h0 0 0 := H
  replace H := k_iloadN C H dC_201 rfl (pc' := 202) rfl
  replace H := k_icmpY C H dC_202 (tlt (by decide : (2 : Int32) < (4 : Int32))).1 (by decide) (pc' := 222) rfl
  replace H := k_iinc C H (y := ((2 : Int32) + (1 : Int32))) dC_222 rfl rfl (L' := #[.val (.ref a1), .val (.int (4 : Int32)), .val (.int (2 : Int32)), .val (.int ((2 : Int32) + (1 : Int32)))]) rfl (pc' := 225) rfl
  replace H : K 225 #[.val (.ref a1), .val (.int (4 : Int32)), .val (.int (2 : Int32)), .val (.int (3 : Int32))] [] h0 0 0 := H
  replace H := k_goto C H dC_225 (by decide) (pc' := 174) rfl
  replace H := k_iloadN C H dC_174 rfl (pc' := 175) rfl
  replace H := k_aloadN C H dC_175 rfl rfl (pc' := 176) rfl
  replace H := k_getFld C H (hw _ (List.mem_of_getElem? (i := 42) rfl)) F_successorStart dC_176 (pc' := 179) rfl
  replace H := k_iloadN C H dC_179 rfl (pc' := 180) rfl
  replace H := k_iconst C H (v := 1) dC_180 rfl (pc' := 181) rfl
  replace H := k_iadd C H dC_181 (pc' := 182) rfl
  replace H : K 182 #[.val (.ref a1), .val (.int (4 : Int32)), .val (.int (2 : Int32)), .val (.int (3 : Int32))] [(.int (3 : Int32)), (.ref ss), (.int (3 : Int32))] h0 0 0 := H
  replace H := k_iaload C H B (i := 3) (by decide) (by decide) dC_182 (pc' := 183) rfl
  replace H : K 183 #[.val (.ref a1), .val (.int (4 : Int32)), .val (.int (2 : Int32)), .val (.int (3 : Int32))] [(.int (3 : Int32)), (.int (3 : Int32))] h0 0 0 := H
  replace H := k_icmpY C H dC_183 (flt (by decide : ¬ ((3 : Int32) < (3 : Int32)))).2.1 (by decide) (pc' := 228) rfl
  replace H := k_iinc C H (y := ((2 : Int32) + (1 : Int32))) dC_228 rfl rfl (L' := #[.val (.ref a1), .val (.int (4 : Int32)), .val (.int ((2 : Int32) + (1 : Int32))), .val (.int (3 : Int32))]) rfl (pc' := 231) rfl
  replace H : K 231 #[.val (.ref a1), .val (.int (4 : Int32)), .val (.int (3 : Int32)), .val (.int (3 : Int32))] [] h0 0 0 := H
  replace H := k_goto C H dC_231 (by decide) (pc' := 162) rfl
  replace H := k_iloadN C H dC_162 rfl (pc' := 163) rfl
  replace H := k_iloadN C H dC_163 rfl (pc' := 164) rfl
  replace H := k_icmpN C H dC_164 (tlt (by decide : (3 : Int32) < (4 : Int32))).2.1 (pc' := 167) rfl
  replace H := k_aloadN C H dC_167 rfl rfl (pc' := 168) rfl
  replace H := k_getFld C H (hw _ (List.mem_of_getElem? (i := 42) rfl)) F_successorStart dC_168 (pc' := 171) rfl
  replace H := k_iloadN C H dC_171 rfl (pc' := 172) rfl
  replace H := k_iaload C H B (i := 3) (by decide) (by decide) dC_172 (pc' := 173) rfl
  replace H : K 173 #[.val (.ref a1), .val (.int (4 : Int32)), .val (.int (3 : Int32)), .val (.int (3 : Int32))] [(.int (3 : Int32))] h0 0 0 := H
  replace H := k_istoreN C H dC_173 (L' := #[.val (.ref a1), .val (.int (4 : Int32)), .val (.int (3 : Int32)), .val (.int (3 : Int32))]) rfl (pc' := 174) rfl
  replace H := k_iloadN C H dC_174 rfl (pc' := 175) rfl
  replace H := k_aloadN C H dC_175 rfl rfl (pc' := 176) rfl
  replace H := k_getFld C H (hw _ (List.mem_of_getElem? (i := 42) rfl)) F_successorStart dC_176 (pc' := 179) rfl
  replace H := k_iloadN C H dC_179 rfl (pc' := 180) rfl
  replace H := k_iconst C H (v := 1) dC_180 rfl (pc' := 181) rfl
  replace H := k_iadd C H dC_181 (pc' := 182) rfl
  replace H : K 182 #[.val (.ref a1), .val (.int (4 : Int32)), .val (.int (3 : Int32)), .val (.int (3 : Int32))] [(.int (4 : Int32)), (.ref ss), (.int (3 : Int32))] h0 0 0 := H
  replace H := k_iaload C H B (i := 4) (by decide) (by decide) dC_182 (pc' := 183) rfl
  replace H : K 183 #[.val (.ref a1), .val (.int (4 : Int32)), .val (.int (3 : Int32)), .val (.int (3 : Int32))] [(.int (4 : Int32)), (.int (3 : Int32))] h0 0 0 := H
  replace H := k_icmpN C H dC_183 (tlt (by decide : (3 : Int32) < (4 : Int32))).2.1 (pc' := 186) rfl
  replace H := k_aloadN C H dC_186 rfl rfl (pc' := 187) rfl
  replace H := k_getFld C H (hw _ (List.mem_of_getElem? (i := 51) rfl)) F_successors dC_187 (pc' := 190) rfl
  replace H := k_iloadN C H dC_190 rfl (pc' := 191) rfl
  replace H := k_iaload C H D (i := 3) (by decide) (by decide) dC_191 (pc' := 192) rfl
  replace H : K 192 #[.val (.ref a1), .val (.int (4 : Int32)), .val (.int (3 : Int32)), .val (.int (3 : Int32))] [(.int (3 : Int32))] h0 0 0 := H
  replace H := k_ifcN C H dC_192 (flt (by decide : ¬ ((3 : Int32) < (0 : Int32)))).1 (pc' := 195) rfl
  replace H := k_aloadN C H dC_195 rfl rfl (pc' := 196) rfl
  replace H := k_getFld C H (hw _ (List.mem_of_getElem? (i := 51) rfl)) F_successors dC_196 (pc' := 199) rfl
  replace H := k_iloadN C H dC_199 rfl (pc' := 200) rfl
  replace H := k_iaload C H D (i := 3) (by decide) (by decide) dC_200 (pc' := 201) rfl
  replace H : K 201 #[.val (.ref a1), .val (.int (4 : Int32)), .val (.int (3 : Int32)), .val (.int (3 : Int32))] [(.int (3 : Int32))] h0 0 0 := H
  replace H := k_iloadN C H dC_201 rfl (pc' := 202) rfl
  replace H := k_icmpY C H dC_202 (tlt (by decide : (3 : Int32) < (4 : Int32))).1 (by decide) (pc' := 222) rfl
  replace H := k_iinc C H (y := ((3 : Int32) + (1 : Int32))) dC_222 rfl rfl (L' := #[.val (.ref a1), .val (.int (4 : Int32)), .val (.int (3 : Int32)), .val (.int ((3 : Int32) + (1 : Int32)))]) rfl (pc' := 225) rfl
  replace H : K 225 #[.val (.ref a1), .val (.int (4 : Int32)), .val (.int (3 : Int32)), .val (.int (4 : Int32))] [] h0 0 0 := H
  replace H := k_goto C H dC_225 (by decide) (pc' := 174) rfl
  replace H := k_iloadN C H dC_174 rfl (pc' := 175) rfl
  replace H := k_aloadN C H dC_175 rfl rfl (pc' := 176) rfl
  replace H := k_getFld C H (hw _ (List.mem_of_getElem? (i := 42) rfl)) F_successorStart dC_176 (pc' := 179) rfl
  replace H := k_iloadN C H dC_179 rfl (pc' := 180) rfl
  replace H := k_iconst C H (v := 1) dC_180 rfl (pc' := 181) rfl
  replace H := k_iadd C H dC_181 (pc' := 182) rfl
  replace H : K 182 #[.val (.ref a1), .val (.int (4 : Int32)), .val (.int (3 : Int32)), .val (.int (4 : Int32))] [(.int (4 : Int32)), (.ref ss), (.int (4 : Int32))] h0 0 0 := H
  replace H := k_iaload C H B (i := 4) (by decide) (by decide) dC_182 (pc' := 183) rfl
  replace H : K 183 #[.val (.ref a1), .val (.int (4 : Int32)), .val (.int (3 : Int32)), .val (.int (4 : Int32))] [(.int (4 : Int32)), (.int (4 : Int32))] h0 0 0 := H
  replace H := k_icmpY C H dC_183 (flt (by decide : ¬ ((4 : Int32) < (4 : Int32)))).2.1 (by decide) (pc' := 228) rfl
  replace H := k_iinc C H (y := ((3 : Int32) + (1 : Int32))) dC_228 rfl rfl (L' := #[.val (.ref a1), .val (.int (4 : Int32)), .val (.int ((3 : Int32) + (1 : Int32))), .val (.int (4 : Int32))]) rfl (pc' := 231) rfl
  replace H : K 231 #[.val (.ref a1), .val (.int (4 : Int32)), .val (.int (4 : Int32)), .val (.int (4 : Int32))] [] h0 0 0 := H
  replace H := k_goto C H dC_231 (by decide) (pc' := 162) rfl
  replace H := k_iloadN C H dC_162 rfl (pc' := 163) rfl
  replace H := k_iloadN C H dC_163 rfl (pc' := 164) rfl
  replace H := k_icmpY C H dC_164 (flt (by decide : ¬ ((4 : Int32) < (4 : Int32)))).2.1 (by decide) (pc' := 234) rfl
  exact k_retV C H dC_234 (by decide) (by decide) ⟨rfl, rfl⟩
theorem dA_0 : decode prog_41_method_1_code 0 = .ok (.aload_n 0, 1) := by decide +kernel
theorem dA_1 : decode prog_41_method_1_code 1 = .ok (.invokespecial 1, 3) := by decide +kernel
theorem dA_4 : decode prog_41_method_1_code 4 = .ok (.aload_n 0, 1) := by decide +kernel
theorem dA_5 : decode prog_41_method_1_code 5 = .ok (.aload_n 1, 1) := by decide +kernel
theorem dA_6 : decode prog_41_method_1_code 6 = .ok (.invokevirtual 7, 3) := by decide +kernel
theorem dA_9 : decode prog_41_method_1_code 9 = .ok (.checkcast 8, 3) := by decide +kernel
theorem dA_12 : decode prog_41_method_1_code 12 = .ok (.putfield 13, 3) := by decide +kernel
theorem dA_15 : decode prog_41_method_1_code 15 = .ok (.aload_n 0, 1) := by decide +kernel
theorem dA_16 : decode prog_41_method_1_code 16 = .ok (.aload_n 1, 1) := by decide +kernel
theorem dA_17 : decode prog_41_method_1_code 17 = .ok (.arraylength, 1) := by decide +kernel
theorem dA_18 : decode prog_41_method_1_code 18 = .ok (.aload_n 2, 1) := by decide +kernel
theorem dA_19 : decode prog_41_method_1_code 19 = .ok (.invokestatic 18, 3) := by decide +kernel
theorem dA_22 : decode prog_41_method_1_code 22 = .ok (.putfield 22, 3) := by decide +kernel
theorem dA_25 : decode prog_41_method_1_code 25 = .ok (.aload_n 0, 1) := by decide +kernel
theorem dA_26 : decode prog_41_method_1_code 26 = .ok (.aload_n 2, 1) := by decide +kernel
theorem dA_27 : decode prog_41_method_1_code 27 = .ok (.aload_n 0, 1) := by decide +kernel
theorem dA_28 : decode prog_41_method_1_code 28 = .ok (.getfield 22, 3) := by decide +kernel
theorem dA_31 : decode prog_41_method_1_code 31 = .ok (.aload_n 1, 1) := by decide +kernel
theorem dA_32 : decode prog_41_method_1_code 32 = .ok (.arraylength, 1) := by decide +kernel
theorem dA_33 : decode prog_41_method_1_code 33 = .ok (.iaload, 1) := by decide +kernel
theorem dA_34 : decode prog_41_method_1_code 34 = .ok (.invokestatic 25, 3) := by decide +kernel
theorem dA_37 : decode prog_41_method_1_code 37 = .ok (.putfield 29, 3) := by decide +kernel
theorem dA_40 : decode prog_41_method_1_code 40 = .ok (.aload_n 0, 1) := by decide +kernel
theorem dA_41 : decode prog_41_method_1_code 41 = .ok (.iload_n 3, 1) := by decide +kernel
theorem dA_42 : decode prog_41_method_1_code 42 = .ok (.putfield 32, 3) := by decide +kernel
theorem dA_45 : decode prog_41_method_1_code 45 = .ok (.aload_n 0, 1) := by decide +kernel
theorem dA_46 : decode prog_41_method_1_code 46 = .ok (.invokevirtual 36, 3) := by decide +kernel
theorem dA_49 : decode prog_41_method_1_code 49 = .ok (.return_, 1) := by decide +kernel
theorem pdA_0 : parseMethodDescriptor "(I[[I)[I" = some ⟨[.int, (.array (.array .int))], some (.array .int)⟩ := by decide +kernel
theorem pdA_1 : parseMethodDescriptor "([[II)[I" = some ⟨[(.array (.array .int)), .int], some (.array .int)⟩ := by decide +kernel
theorem pdA_2 : parseMethodDescriptor "()V" = some ⟨[], none⟩ := by decide +kernel
theorem pl_A : plainFor (⟨"com/example/equilibrate/equilibrate/model/Arena", "<init>", "([I[[II)V"⟩ : MethodName) = true := plainFor_of_name (by first | (simp [plainName, overriddenIn]; done) | decide +kernel)
theorem ef_A (mm : MethodId) (a1 : Addr) (a2 : Addr) (a3 : Addr) (p4 : Int32) : entryFrame mm #[(.ref a1), (.ref a2), (.ref a3), (.int p4)] 4 = mkF mm 0 #[.val (.ref a1), .val (.ref a2), .val (.ref a3), .val (.int p4)] [] := by first | (simp [entryFrame, mkF, argsToLocals, Value.category]; done) | rfl
set_option maxRecDepth 65536 in
set_option maxHeartbeats 40000000 in
theorem rmA (l : Launch) (Z : State) (a0 : Array Value) (hw : ∀ d ∈ tables_1, d.before a0 Z = true) (a1 : Addr) (a2 : Addr) (a3 : Addr) (p4 : Int32) (h0 : Heap) (n0 : Nat) (e0 : (0 : Int32) = p4) (Z0 : n0 ≤ h0.size) (u_owners u_successorStart u_successors u_startVertex : Value) (E : Exa Z h0 a1 "com/example/equilibrate/equilibrate/model/Arena") (F_owners : Fld Z h0 a1 "com/example/equilibrate/equilibrate/model/Arena" "owners" "[I" u_owners) (F_successorStart : Fld Z h0 a1 "com/example/equilibrate/equilibrate/model/Arena" "successorStart" "[I" u_successorStart) (F_successors : Fld Z h0 a1 "com/example/equilibrate/equilibrate/model/Arena" "successors" "[I" u_successors) (F_startVertex : Fld Z h0 a1 "com/example/equilibrate/equilibrate/model/Arena" "startVertex" "I" u_startVertex) (A : Ari Z h0 a2 .int 4 (lf [(0 : Int32), (0 : Int32), (0 : Int32), (0 : Int32)])) (X2 : Exa Z h0 a2 "[I") (kg : ClassId) (r0 r1 r2 r3 : Addr) (G : Arf Z h0 a3 kg (.array .int) 4 (fun k => if k = 3 then .ref r3 else if k = 2 then .ref r2 else if k = 1 then .ref r1 else if k = 0 then .ref r0 else .null)) (R0 : Ari Z h0 r0 .int 1 (lf [(0 : Int32)])) (R1 : Ari Z h0 r1 .int 1 (lf [(1 : Int32)])) (R2 : Ari Z h0 r2 .int 1 (lf [(2 : Int32)])) (R3 : Ari Z h0 r3 .int 1 (lf [(3 : Int32)])) (g : n0 ≤ a1) :
    Con l (⟨"com/example/equilibrate/equilibrate/model/Arena", "<init>", "([I[[II)V"⟩ : MethodName) prog_41_method_1_code 4 none ({ frames := 2, cells := 3, slots := 13, locals := 60 } : Room) Z #[(.ref a1), (.ref a2), (.ref a3), (.int p4)] h0 n0 (fun o h => o = none ∧ ∃ ss sc, Keep h0 h [a1] ∧ h0.size ≤ ss ∧ h0.size ≤ sc ∧ Fld Z h a1 "com/example/equilibrate/equilibrate/model/Arena" "successorStart" "[I" (.ref ss) ∧ Fld Z h a1 "com/example/equilibrate/equilibrate/model/Arena" "successors" "[I" (.ref sc) ∧ Ari Z h ss .int 5 (lf [(0 : Int32), (1 : Int32), (2 : Int32), (3 : Int32), (4 : Int32)]) ∧ Ari Z h sc .int 4 (lf [(0 : Int32), (1 : Int32), (2 : Int32), (3 : Int32)])) := by
  refine Con.enter pl_A (fun mm => ef_A mm a1 a2 a3 p4) ?_
  intro K O C H
  subst e0
  replace H : K 0 #[.val (.ref a1), .val (.ref a2), .val (.ref a3), .val (.int (0 : Int32))] [] h0 0 0 := H
  have KK : Keep h0 h0 [a1] := Keep.refl h0 _
  have n_a1 := g
  have ne_a2_a1 : a2 ≠ a1 := A.neX E (hw _ (List.mem_of_getElem? (i := 22) rfl))
  have ne_a3_a1 : a3 ≠ a1 := G.neX E (hw _ (List.mem_of_getElem? (i := 22) rfl))
  have ne_r0_a1 : r0 ≠ a1 := R0.neX E (hw _ (List.mem_of_getElem? (i := 22) rfl))
  have ne_r1_a1 : r1 ≠ a1 := R1.neX E (hw _ (List.mem_of_getElem? (i := 22) rfl))
  have ne_r2_a1 : r2 ≠ a1 := R2.neX E (hw _ (List.mem_of_getElem? (i := 22) rfl))
  have ne_r3_a1 : r3 ≠ a1 := R3.neX E (hw _ (List.mem_of_getElem? (i := 22) rfl))
  replace H := k_aloadN C H dA_0 rfl rfl (pc' := 1) rfl
  replace H := k_initObj C H (hw _ (List.mem_of_getElem? (i := 27) rfl)) (hw _ (List.mem_of_getElem? (i := 16) rfl)) (hw _ (List.mem_of_getElem? (i := 17) rfl)) dA_1 rfl (by decide) 0 rfl (by decide) (pc' := 4) rfl
  replace H := k_aloadN C H dA_4 rfl rfl (pc' := 5) rfl
  replace H := k_aloadN C H dA_5 rfl rfl (pc' := 6) rfl
  replace H := k_cloneI C H A X2 (hw _ (List.mem_of_getElem? (i := 28) rfl)) (hw _ (List.mem_of_getElem? (i := 29) rfl)) (hw _ (List.mem_of_getElem? (i := 33) rfl)) (hw _ (List.mem_of_getElem? (i := 31) rfl)) (hw _ (List.mem_of_getElem? (i := 32) rfl)) (hw _ (List.mem_of_getElem? (i := 34) rfl)) dA_6 rfl (by decide) 1 rfl (by decide) (by decide) (by decide) (pc' := 9) rfl
  obtain ⟨h_ow, ow, g_ow, E_ow, V_ow, X_ow, H⟩ := H
  replace H : K 9 #[.val (.ref a1), .val (.ref a2), .val (.ref a3), .val (.int (0 : Int32))] [(.ref ow), (.ref a1)] h_ow 1 4 := H
  have ne_a1_ow : a1 ≠ ow := Nat.ne_of_lt (Nat.lt_of_lt_of_le E.lt (Nat.le_of_eq g_ow.symm))
  have ne_a2_ow : a2 ≠ ow := Nat.ne_of_lt (Nat.lt_of_lt_of_le A.lt (Nat.le_of_eq g_ow.symm))
  have ne_a3_ow : a3 ≠ ow := Nat.ne_of_lt (Nat.lt_of_lt_of_le G.lt (Nat.le_of_eq g_ow.symm))
  have ne_r0_ow : r0 ≠ ow := Nat.ne_of_lt (Nat.lt_of_lt_of_le R0.lt (Nat.le_of_eq g_ow.symm))
  have ne_r1_ow : r1 ≠ ow := Nat.ne_of_lt (Nat.lt_of_lt_of_le R1.lt (Nat.le_of_eq g_ow.symm))
  have ne_r2_ow : r2 ≠ ow := Nat.ne_of_lt (Nat.lt_of_lt_of_le R2.lt (Nat.le_of_eq g_ow.symm))
  have ne_r3_ow : r3 ≠ ow := Nat.ne_of_lt (Nat.lt_of_lt_of_le R3.lt (Nat.le_of_eq g_ow.symm))
  have n_ow : n0 ≤ ow := Nat.le_trans Z0 (Nat.le_of_eq g_ow.symm)
  have s_ow : h0.size ≤ ow := Nat.le_trans KK.1 (Nat.le_of_eq g_ow.symm)
  replace E := E.ext E_ow
  replace F_owners := F_owners.ext E_ow
  replace F_successorStart := F_successorStart.ext E_ow
  replace F_successors := F_successors.ext E_ow
  replace F_startVertex := F_startVertex.ext E_ow
  replace A := A.ext E_ow
  replace X2 := X2.ext E_ow
  replace G := G.ext E_ow
  replace R0 := R0.ext E_ow
  replace R1 := R1.ext E_ow
  replace R2 := R2.ext E_ow
  replace R3 := R3.ext E_ow
  replace KK := KK.ext E_ow
  have Z_h_ow : n0 ≤ h_ow.size := Nat.le_trans Z0 E_ow.1
  replace H := k_castYes C H (hw _ (List.mem_of_getElem? (i := 35) rfl)) (Ins.self X_ow) dA_9 (pc' := 12) rfl
  replace H := k_putFld C H (hw _ (List.mem_of_getElem? (i := 36) rfl)) F_owners E (Or.inr ⟨(hw _ (List.mem_of_getElem? (i := 37) rfl)), rfl, rfl⟩) (hw _ (List.mem_of_getElem? (i := 22) rfl)) (ty := (.array .int)) (by decide) (v' := (.ref ow)) rfl rfl n_a1 dA_12 (pc' := 15) rfl
  obtain ⟨p12, W_p12, H⟩ := H
  replace E := E.wr W_p12
  replace F_owners := F_owners.same W_p12
  replace F_successorStart := F_successorStart.other W_p12 (Or.inr (slot_ne (Or.inr (hw _ (List.mem_of_getElem? (i := 43) rfl))) (Or.inr (hw _ (List.mem_of_getElem? (i := 37) rfl))) (by decide) (t := (.array .int)) (t' := (.array .int)) (by decide) (by decide)))
  replace F_successors := F_successors.other W_p12 (Or.inr (slot_ne (Or.inr (hw _ (List.mem_of_getElem? (i := 52) rfl))) (Or.inr (hw _ (List.mem_of_getElem? (i := 37) rfl))) (by decide) (t := (.array .int)) (t' := (.array .int)) (by decide) (by decide)))
  replace F_startVertex := F_startVertex.other W_p12 (Or.inr (slot_ne (Or.inr (hw _ (List.mem_of_getElem? (i := 54) rfl))) (Or.inr (hw _ (List.mem_of_getElem? (i := 37) rfl))) (by decide) (t := .int) (t' := (.array .int)) (by decide) (by decide)))
  replace A := A.other W_p12 ne_a2_a1
  replace X2 := X2.wr W_p12
  replace G := G.other W_p12 ne_a3_a1
  replace R0 := R0.other W_p12 ne_r0_a1
  replace R1 := R1.other W_p12 ne_r1_a1
  replace R2 := R2.other W_p12 ne_r2_a1
  replace R3 := R3.other W_p12 ne_r3_a1
  replace V_ow := V_ow.other W_p12 (Ne.symm ne_a1_ow)
  replace X_ow := X_ow.wr W_p12
  replace KK := KK.wr W_p12 (Or.inl (List.mem_of_getElem? (i := 0) rfl))
  have Z_p12 : n0 ≤ p12.size := by rw [W_p12.size]; exact Z_h_ow
  replace H := k_aloadN C H dA_15 rfl rfl (pc' := 16) rfl
  replace H := k_aloadN C H dA_16 rfl rfl (pc' := 17) rfl
  replace H := k_arrlen C H A dA_17 (pc' := 18) rfl
  replace H : K 18 #[.val (.ref a1), .val (.ref a2), .val (.ref a3), .val (.int (0 : Int32))] [(.int (4 : Int32)), (.ref a1)] p12 1 4 := H
  replace H := k_aloadN C H dA_18 rfl rfl (pc' := 19) rfl
  replace H := k_callSta C H (rmS l Z a0 hw (4 : Int32) a3 p12 n0 rfl Z_p12 kg r0 r1 r2 r3 G R0 R1 R2 R3) (hw _ (List.mem_of_getElem? (i := 38) rfl)) (hw _ (List.mem_of_getElem? (i := 39) rfl)) (hw _ (List.mem_of_getElem? (i := 23) rfl)) (hw _ (List.mem_of_getElem? (i := 40) rfl)) (by decide) dA_19 rfl [(.int (4 : Int32)), (.ref a3)] [(.ref a1)] pdA_0 rfl rfl rfl 1 rfl (by decide) (by decide) (by decide) (by decide) (pc' := 22) rfl
  obtain ⟨_, h_ss, ⟨ss, rfl, g_ss, K_ss, B_ss⟩, H⟩ := H
  replace H : K 22 #[.val (.ref a1), .val (.ref a2), .val (.ref a3), .val (.int (0 : Int32))] [(.ref ss), (.ref a1)] h_ss 2 9 := H
  have ne_a1_ss : a1 ≠ ss := Nat.ne_of_lt (Nat.lt_of_lt_of_le E.lt (Nat.le_of_eq g_ss.symm))
  have ne_a2_ss : a2 ≠ ss := Nat.ne_of_lt (Nat.lt_of_lt_of_le A.lt (Nat.le_of_eq g_ss.symm))
  have ne_a3_ss : a3 ≠ ss := Nat.ne_of_lt (Nat.lt_of_lt_of_le G.lt (Nat.le_of_eq g_ss.symm))
  have ne_r0_ss : r0 ≠ ss := Nat.ne_of_lt (Nat.lt_of_lt_of_le R0.lt (Nat.le_of_eq g_ss.symm))
  have ne_r1_ss : r1 ≠ ss := Nat.ne_of_lt (Nat.lt_of_lt_of_le R1.lt (Nat.le_of_eq g_ss.symm))
  have ne_r2_ss : r2 ≠ ss := Nat.ne_of_lt (Nat.lt_of_lt_of_le R2.lt (Nat.le_of_eq g_ss.symm))
  have ne_r3_ss : r3 ≠ ss := Nat.ne_of_lt (Nat.lt_of_lt_of_le R3.lt (Nat.le_of_eq g_ss.symm))
  have ne_ow_ss : ow ≠ ss := Nat.ne_of_lt (Nat.lt_of_lt_of_le V_ow.lt (Nat.le_of_eq g_ss.symm))
  have s_ss : h0.size ≤ ss := Nat.le_trans KK.1 (Nat.le_of_eq g_ss.symm)
  replace E := E.keep K_ss
  replace F_owners := F_owners.keep K_ss nin0
  replace F_successorStart := F_successorStart.keep K_ss nin0
  replace F_successors := F_successors.keep K_ss nin0
  replace F_startVertex := F_startVertex.keep K_ss nin0
  replace A := A.keep K_ss nin0
  replace X2 := X2.keep K_ss
  replace G := G.keep K_ss nin0
  replace R0 := R0.keep K_ss nin0
  replace R1 := R1.keep K_ss nin0
  replace R2 := R2.keep K_ss nin0
  replace R3 := R3.keep K_ss nin0
  replace V_ow := V_ow.keep K_ss nin0
  replace X_ow := X_ow.keep K_ss
  replace KK := KK.trans K_ss all0
  have Z_h_ss : n0 ≤ h_ss.size := Nat.le_trans Z_p12 K_ss.1
  replace H := k_putFld C H (hw _ (List.mem_of_getElem? (i := 42) rfl)) F_successorStart E (Or.inr ⟨(hw _ (List.mem_of_getElem? (i := 43) rfl)), rfl, rfl⟩) (hw _ (List.mem_of_getElem? (i := 22) rfl)) (ty := (.array .int)) (by decide) (v' := (.ref ss)) rfl rfl n_a1 dA_22 (pc' := 25) rfl
  obtain ⟨p22, W_p22, H⟩ := H
  replace E := E.wr W_p22
  replace F_owners := F_owners.other W_p22 (Or.inr (slot_ne (Or.inr (hw _ (List.mem_of_getElem? (i := 37) rfl))) (Or.inr (hw _ (List.mem_of_getElem? (i := 43) rfl))) (by decide) (t := (.array .int)) (t' := (.array .int)) (by decide) (by decide)))
  replace F_successorStart := F_successorStart.same W_p22
  replace F_successors := F_successors.other W_p22 (Or.inr (slot_ne (Or.inr (hw _ (List.mem_of_getElem? (i := 52) rfl))) (Or.inr (hw _ (List.mem_of_getElem? (i := 43) rfl))) (by decide) (t := (.array .int)) (t' := (.array .int)) (by decide) (by decide)))
  replace F_startVertex := F_startVertex.other W_p22 (Or.inr (slot_ne (Or.inr (hw _ (List.mem_of_getElem? (i := 54) rfl))) (Or.inr (hw _ (List.mem_of_getElem? (i := 43) rfl))) (by decide) (t := .int) (t' := (.array .int)) (by decide) (by decide)))
  replace A := A.other W_p22 ne_a2_a1
  replace X2 := X2.wr W_p22
  replace G := G.other W_p22 ne_a3_a1
  replace R0 := R0.other W_p22 ne_r0_a1
  replace R1 := R1.other W_p22 ne_r1_a1
  replace R2 := R2.other W_p22 ne_r2_a1
  replace R3 := R3.other W_p22 ne_r3_a1
  replace V_ow := V_ow.other W_p22 (Ne.symm ne_a1_ow)
  replace X_ow := X_ow.wr W_p22
  replace B_ss := B_ss.other W_p22 (Ne.symm ne_a1_ss)
  replace KK := KK.wr W_p22 (Or.inl (List.mem_of_getElem? (i := 0) rfl))
  have Z_p22 : n0 ≤ p22.size := by rw [W_p22.size]; exact Z_h_ss
  replace H := k_aloadN C H dA_25 rfl rfl (pc' := 26) rfl
  replace H := k_aloadN C H dA_26 rfl rfl (pc' := 27) rfl
  replace H := k_aloadN C H dA_27 rfl rfl (pc' := 28) rfl
  replace H := k_getFld C H (hw _ (List.mem_of_getElem? (i := 42) rfl)) F_successorStart dA_28 (pc' := 31) rfl
  replace H := k_aloadN C H dA_31 rfl rfl (pc' := 32) rfl
  replace H := k_arrlen C H A dA_32 (pc' := 33) rfl
  replace H : K 33 #[.val (.ref a1), .val (.ref a2), .val (.ref a3), .val (.int (0 : Int32))] [(.int (4 : Int32)), (.ref ss), (.ref a3), (.ref a1)] p22 2 9 := H
  replace H := k_iaload C H B_ss (i := 4) (by decide) (by decide) dA_33 (pc' := 34) rfl
  replace H : K 34 #[.val (.ref a1), .val (.ref a2), .val (.ref a3), .val (.int (0 : Int32))] [(.int (4 : Int32)), (.ref a3), (.ref a1)] p22 2 9 := H
  replace H := k_callSta C H (rmJ l Z a0 hw a3 (4 : Int32) p22 n0 rfl Z_p22 kg r0 r1 r2 r3 G R0 R1 R2 R3) (hw _ (List.mem_of_getElem? (i := 44) rfl)) (hw _ (List.mem_of_getElem? (i := 45) rfl)) (hw _ (List.mem_of_getElem? (i := 23) rfl)) (hw _ (List.mem_of_getElem? (i := 46) rfl)) (by decide) dA_34 rfl [(.ref a3), (.int (4 : Int32))] [(.ref a1)] pdA_1 rfl rfl rfl 1 rfl (by decide) (by decide) (by decide) (by decide) (pc' := 37) rfl
  obtain ⟨_, h_sc, ⟨sc, rfl, g_sc, K_sc, B_sc⟩, H⟩ := H
  replace H : K 37 #[.val (.ref a1), .val (.ref a2), .val (.ref a3), .val (.int (0 : Int32))] [(.ref sc), (.ref a1)] h_sc 3 13 := H
  have ne_a1_sc : a1 ≠ sc := Nat.ne_of_lt (Nat.lt_of_lt_of_le E.lt (Nat.le_of_eq g_sc.symm))
  have ne_a2_sc : a2 ≠ sc := Nat.ne_of_lt (Nat.lt_of_lt_of_le A.lt (Nat.le_of_eq g_sc.symm))
  have ne_a3_sc : a3 ≠ sc := Nat.ne_of_lt (Nat.lt_of_lt_of_le G.lt (Nat.le_of_eq g_sc.symm))
  have ne_r0_sc : r0 ≠ sc := Nat.ne_of_lt (Nat.lt_of_lt_of_le R0.lt (Nat.le_of_eq g_sc.symm))
  have ne_r1_sc : r1 ≠ sc := Nat.ne_of_lt (Nat.lt_of_lt_of_le R1.lt (Nat.le_of_eq g_sc.symm))
  have ne_r2_sc : r2 ≠ sc := Nat.ne_of_lt (Nat.lt_of_lt_of_le R2.lt (Nat.le_of_eq g_sc.symm))
  have ne_r3_sc : r3 ≠ sc := Nat.ne_of_lt (Nat.lt_of_lt_of_le R3.lt (Nat.le_of_eq g_sc.symm))
  have ne_ow_sc : ow ≠ sc := Nat.ne_of_lt (Nat.lt_of_lt_of_le V_ow.lt (Nat.le_of_eq g_sc.symm))
  have ne_ss_sc : ss ≠ sc := Nat.ne_of_lt (Nat.lt_of_lt_of_le B_ss.lt (Nat.le_of_eq g_sc.symm))
  have s_sc : h0.size ≤ sc := Nat.le_trans KK.1 (Nat.le_of_eq g_sc.symm)
  replace E := E.keep K_sc
  replace F_owners := F_owners.keep K_sc nin0
  replace F_successorStart := F_successorStart.keep K_sc nin0
  replace F_successors := F_successors.keep K_sc nin0
  replace F_startVertex := F_startVertex.keep K_sc nin0
  replace A := A.keep K_sc nin0
  replace X2 := X2.keep K_sc
  replace G := G.keep K_sc nin0
  replace R0 := R0.keep K_sc nin0
  replace R1 := R1.keep K_sc nin0
  replace R2 := R2.keep K_sc nin0
  replace R3 := R3.keep K_sc nin0
  replace V_ow := V_ow.keep K_sc nin0
  replace X_ow := X_ow.keep K_sc
  replace B_ss := B_ss.keep K_sc nin0
  replace KK := KK.trans K_sc all0
  have Z_h_sc : n0 ≤ h_sc.size := Nat.le_trans Z_p22 K_sc.1
  replace H := k_putFld C H (hw _ (List.mem_of_getElem? (i := 51) rfl)) F_successors E (Or.inr ⟨(hw _ (List.mem_of_getElem? (i := 52) rfl)), rfl, rfl⟩) (hw _ (List.mem_of_getElem? (i := 22) rfl)) (ty := (.array .int)) (by decide) (v' := (.ref sc)) rfl rfl n_a1 dA_37 (pc' := 40) rfl
  obtain ⟨p37, W_p37, H⟩ := H
  replace E := E.wr W_p37
  replace F_owners := F_owners.other W_p37 (Or.inr (slot_ne (Or.inr (hw _ (List.mem_of_getElem? (i := 37) rfl))) (Or.inr (hw _ (List.mem_of_getElem? (i := 52) rfl))) (by decide) (t := (.array .int)) (t' := (.array .int)) (by decide) (by decide)))
  replace F_successorStart := F_successorStart.other W_p37 (Or.inr (slot_ne (Or.inr (hw _ (List.mem_of_getElem? (i := 43) rfl))) (Or.inr (hw _ (List.mem_of_getElem? (i := 52) rfl))) (by decide) (t := (.array .int)) (t' := (.array .int)) (by decide) (by decide)))
  replace F_successors := F_successors.same W_p37
  replace F_startVertex := F_startVertex.other W_p37 (Or.inr (slot_ne (Or.inr (hw _ (List.mem_of_getElem? (i := 54) rfl))) (Or.inr (hw _ (List.mem_of_getElem? (i := 52) rfl))) (by decide) (t := .int) (t' := (.array .int)) (by decide) (by decide)))
  replace A := A.other W_p37 ne_a2_a1
  replace X2 := X2.wr W_p37
  replace G := G.other W_p37 ne_a3_a1
  replace R0 := R0.other W_p37 ne_r0_a1
  replace R1 := R1.other W_p37 ne_r1_a1
  replace R2 := R2.other W_p37 ne_r2_a1
  replace R3 := R3.other W_p37 ne_r3_a1
  replace V_ow := V_ow.other W_p37 (Ne.symm ne_a1_ow)
  replace X_ow := X_ow.wr W_p37
  replace B_ss := B_ss.other W_p37 (Ne.symm ne_a1_ss)
  replace B_sc := B_sc.other W_p37 (Ne.symm ne_a1_sc)
  replace KK := KK.wr W_p37 (Or.inl (List.mem_of_getElem? (i := 0) rfl))
  have Z_p37 : n0 ≤ p37.size := by rw [W_p37.size]; exact Z_h_sc
  replace H := k_aloadN C H dA_40 rfl rfl (pc' := 41) rfl
  replace H := k_iloadN C H dA_41 rfl (pc' := 42) rfl
  replace H := k_putFld C H (hw _ (List.mem_of_getElem? (i := 53) rfl)) F_startVertex E (Or.inr ⟨(hw _ (List.mem_of_getElem? (i := 54) rfl)), rfl, rfl⟩) (hw _ (List.mem_of_getElem? (i := 22) rfl)) (ty := .int) (by decide) (v' := (.int (0 : Int32))) rfl rfl n_a1 dA_42 (pc' := 45) rfl
  obtain ⟨p42, W_p42, H⟩ := H
  replace E := E.wr W_p42
  replace F_owners := F_owners.other W_p42 (Or.inr (slot_ne (Or.inr (hw _ (List.mem_of_getElem? (i := 37) rfl))) (Or.inr (hw _ (List.mem_of_getElem? (i := 54) rfl))) (by decide) (t := (.array .int)) (t' := .int) (by decide) (by decide)))
  replace F_successorStart := F_successorStart.other W_p42 (Or.inr (slot_ne (Or.inr (hw _ (List.mem_of_getElem? (i := 43) rfl))) (Or.inr (hw _ (List.mem_of_getElem? (i := 54) rfl))) (by decide) (t := (.array .int)) (t' := .int) (by decide) (by decide)))
  replace F_successors := F_successors.other W_p42 (Or.inr (slot_ne (Or.inr (hw _ (List.mem_of_getElem? (i := 52) rfl))) (Or.inr (hw _ (List.mem_of_getElem? (i := 54) rfl))) (by decide) (t := (.array .int)) (t' := .int) (by decide) (by decide)))
  replace F_startVertex := F_startVertex.same W_p42
  replace A := A.other W_p42 ne_a2_a1
  replace X2 := X2.wr W_p42
  replace G := G.other W_p42 ne_a3_a1
  replace R0 := R0.other W_p42 ne_r0_a1
  replace R1 := R1.other W_p42 ne_r1_a1
  replace R2 := R2.other W_p42 ne_r2_a1
  replace R3 := R3.other W_p42 ne_r3_a1
  replace V_ow := V_ow.other W_p42 (Ne.symm ne_a1_ow)
  replace X_ow := X_ow.wr W_p42
  replace B_ss := B_ss.other W_p42 (Ne.symm ne_a1_ss)
  replace B_sc := B_sc.other W_p42 (Ne.symm ne_a1_sc)
  replace KK := KK.wr W_p42 (Or.inl (List.mem_of_getElem? (i := 0) rfl))
  have Z_p42 : n0 ≤ p42.size := by rw [W_p42.size]; exact Z_p37
  replace H := k_aloadN C H dA_45 rfl rfl (pc' := 46) rfl
  replace H := k_callPri C H (rmC l Z a0 hw a1 p42 n0 ow ss sc F_owners F_successorStart F_successors F_startVertex V_ow B_ss B_sc) E (hw _ (List.mem_of_getElem? (i := 55) rfl)) (hw _ (List.mem_of_getElem? (i := 56) rfl)) (Jvm.Kit.selects_private (by decide) (hw _ (List.mem_of_getElem? (i := 22) rfl)) (hw _ (List.mem_of_getElem? (i := 57) rfl)) (hw _ (List.mem_of_getElem? (i := 56) rfl))) (hw _ (List.mem_of_getElem? (i := 57) rfl)) (hw _ (List.mem_of_getElem? (i := 23) rfl)) (hw _ (List.mem_of_getElem? (i := 58) rfl)) (by decide) dA_46 rfl [] [] pdA_2 rfl rfl rfl 0 rfl (by decide) (by decide) (by decide) (by decide) (pc' := 49) rfl
  obtain ⟨_, _, ⟨rfl, rfl⟩, H⟩ := H
  replace H : K 49 #[.val (.ref a1), .val (.ref a2), .val (.ref a3), .val (.int (0 : Int32))] [] p42 3 13 := H
  exact k_retV C H dA_49 (by decide) (by decide) ⟨rfl, ss, sc, KK, s_ss, s_sc, F_successorStart, F_successors, B_ss, B_sc⟩
theorem dG_0 : decode prog_53_method_1_code 0 = .ok (.aload_n 0, 1) := by decide +kernel
theorem dG_1 : decode prog_53_method_1_code 1 = .ok (.invokespecial 1, 3) := by decide +kernel
theorem dG_4 : decode prog_53_method_1_code 4 = .ok (.aload_n 2, 1) := by decide +kernel
theorem dG_5 : decode prog_53_method_1_code 5 = .ok (.arraylength, 1) := by decide +kernel
theorem dG_6 : decode prog_53_method_1_code 6 = .ok (.aload_n 1, 1) := by decide +kernel
theorem dG_7 : decode prog_53_method_1_code 7 = .ok (.arraylength, 1) := by decide +kernel
theorem dG_8 : decode prog_53_method_1_code 8 = .ok (.if_icmp .ne 10, 3) := by decide +kernel
theorem dG_11 : decode prog_53_method_1_code 11 = .ok (.aload_n 3, 1) := by decide +kernel
theorem dG_12 : decode prog_53_method_1_code 12 = .ok (.arraylength, 1) := by decide +kernel
theorem dG_13 : decode prog_53_method_1_code 13 = .ok (.aload_n 1, 1) := by decide +kernel
theorem dG_14 : decode prog_53_method_1_code 14 = .ok (.arraylength, 1) := by decide +kernel
theorem dG_15 : decode prog_53_method_1_code 15 = .ok (.if_icmp .eq 22, 3) := by decide +kernel
theorem dG_37 : decode prog_53_method_1_code 37 = .ok (.aload_n 1, 1) := by decide +kernel
theorem dG_38 : decode prog_53_method_1_code 38 = .ok (.aload_n 2, 1) := by decide +kernel
theorem dG_39 : decode prog_53_method_1_code 39 = .ok (.invokestatic 16, 3) := by decide +kernel
theorem dG_42 : decode prog_53_method_1_code 42 = .ok (.aload_n 0, 1) := by decide +kernel
theorem dG_43 : decode prog_53_method_1_code 43 = .ok (.new 22, 3) := by decide +kernel
theorem dG_46 : decode prog_53_method_1_code 46 = .ok (.dup, 1) := by decide +kernel
theorem dG_47 : decode prog_53_method_1_code 47 = .ok (.aload_n 2, 1) := by decide +kernel
theorem dG_48 : decode prog_53_method_1_code 48 = .ok (.aload_n 3, 1) := by decide +kernel
theorem dG_49 : decode prog_53_method_1_code 49 = .ok (.iload 4, 2) := by decide +kernel
theorem dG_51 : decode prog_53_method_1_code 51 = .ok (.invokespecial 24, 3) := by decide +kernel
theorem dG_54 : decode prog_53_method_1_code 54 = .ok (.putfield 27, 3) := by decide +kernel
theorem dG_57 : decode prog_53_method_1_code 57 = .ok (.aload_n 0, 1) := by decide +kernel
theorem dG_58 : decode prog_53_method_1_code 58 = .ok (.aload_n 1, 1) := by decide +kernel
theorem dG_59 : decode prog_53_method_1_code 59 = .ok (.invokevirtual 31, 3) := by decide +kernel
theorem dG_62 : decode prog_53_method_1_code 62 = .ok (.checkcast 32, 3) := by decide +kernel
theorem dG_65 : decode prog_53_method_1_code 65 = .ok (.putfield 37, 3) := by decide +kernel
theorem dG_68 : decode prog_53_method_1_code 68 = .ok (.return_, 1) := by decide +kernel
theorem pdG_0 : parseMethodDescriptor "([I[I)V" = some ⟨[(.array .int), (.array .int)], none⟩ := by decide +kernel
theorem pdG_1 : parseMethodDescriptor "([I[[II)V" = some ⟨[(.array .int), (.array (.array .int)), .int], none⟩ := by decide +kernel
theorem pl_G : plainFor (⟨"com/example/equilibrate/equilibrate/model/ParityGame", "<init>", "([I[I[[II)V"⟩ : MethodName) = true := plainFor_of_name (by first | (simp [plainName, overriddenIn]; done) | decide +kernel)
theorem ef_G (mm : MethodId) (a1 : Addr) (a2 : Addr) (a3 : Addr) (a4 : Addr) (p5 : Int32) : entryFrame mm #[(.ref a1), (.ref a2), (.ref a3), (.ref a4), (.int p5)] 5 = mkF mm 0 #[.val (.ref a1), .val (.ref a2), .val (.ref a3), .val (.ref a4), .val (.int p5)] [] := by first | (simp [entryFrame, mkF, argsToLocals, Value.category]; done) | rfl
set_option maxRecDepth 65536 in
set_option maxHeartbeats 40000000 in
theorem rmG (l : Launch) (Z : State) (a0 : Array Value) (hw : ∀ d ∈ tables_1, d.before a0 Z = true) (a1 : Addr) (a2 : Addr) (a3 : Addr) (a4 : Addr) (p5 : Int32) (h0 : Heap) (n0 : Nat) (e0 : (0 : Int32) = p5) (Z0 : n0 ≤ h0.size) (u1 u2 : Value) (E : Exa Z h0 a1 "com/example/equilibrate/equilibrate/model/ParityGame") (F_arena : Fld Z h0 a1 "com/example/equilibrate/equilibrate/model/ParityGame" "arena" "Lcom/example/equilibrate/equilibrate/model/Arena;" u1) (F_priorities : Fld Z h0 a1 "com/example/equilibrate/equilibrate/model/ParityGame" "priorities" "[I" u2) (A : Ari Z h0 a2 .int 4 (lf [(0 : Int32), (0 : Int32), (0 : Int32), (0 : Int32)])) (X2 : Exa Z h0 a2 "[I") (B : Ari Z h0 a3 .int 4 (lf [(0 : Int32), (0 : Int32), (0 : Int32), (0 : Int32)])) (X3 : Exa Z h0 a3 "[I") (kg : ClassId) (r0 r1 r2 r3 : Addr) (G : Arf Z h0 a4 kg (.array .int) 4 (fun k => if k = 3 then .ref r3 else if k = 2 then .ref r2 else if k = 1 then .ref r1 else if k = 0 then .ref r0 else .null)) (R0 : Ari Z h0 r0 .int 1 (lf [(0 : Int32)])) (R1 : Ari Z h0 r1 .int 1 (lf [(1 : Int32)])) (R2 : Ari Z h0 r2 .int 1 (lf [(2 : Int32)])) (R3 : Ari Z h0 r3 .int 1 (lf [(3 : Int32)])) (g : n0 ≤ a1) :
    Con l (⟨"com/example/equilibrate/equilibrate/model/ParityGame", "<init>", "([I[I[[II)V"⟩ : MethodName) prog_53_method_1_code 5 none ({ frames := 3, cells := 5, slots := 21, locals := 77 } : Room) Z #[(.ref a1), (.ref a2), (.ref a3), (.ref a4), (.int p5)] h0 n0 (fun o h => o = none ∧ ∃ ar pr ss sc, Keep h0 h [a1] ∧ h0.size ≤ ar ∧ h0.size ≤ pr ∧ h0.size ≤ ss ∧ h0.size ≤ sc ∧ Fld Z h a1 "com/example/equilibrate/equilibrate/model/ParityGame" "arena" "Lcom/example/equilibrate/equilibrate/model/Arena;" (.ref ar) ∧ Fld Z h a1 "com/example/equilibrate/equilibrate/model/ParityGame" "priorities" "[I" (.ref pr) ∧ Ari Z h pr .int 4 (lf [(0 : Int32), (0 : Int32), (0 : Int32), (0 : Int32)]) ∧ Exa Z h ar "com/example/equilibrate/equilibrate/model/Arena" ∧ Fld Z h ar "com/example/equilibrate/equilibrate/model/Arena" "successorStart" "[I" (.ref ss) ∧ Fld Z h ar "com/example/equilibrate/equilibrate/model/Arena" "successors" "[I" (.ref sc) ∧ Ari Z h ss .int 5 (lf [(0 : Int32), (1 : Int32), (2 : Int32), (3 : Int32), (4 : Int32)]) ∧ Ari Z h sc .int 4 (lf [(0 : Int32), (1 : Int32), (2 : Int32), (3 : Int32)])) := by
  refine Con.enter pl_G (fun mm => ef_G mm a1 a2 a3 a4 p5) ?_
  intro K O C H
  subst e0
  replace H : K 0 #[.val (.ref a1), .val (.ref a2), .val (.ref a3), .val (.ref a4), .val (.int (0 : Int32))] [] h0 0 0 := H
  have KK : Keep h0 h0 [a1] := Keep.refl h0 _
  have n_a1 := g
  have ne_a2_a1 : a2 ≠ a1 := A.neX E (hw _ (List.mem_of_getElem? (i := 6) rfl))
  have ne_a3_a1 : a3 ≠ a1 := B.neX E (hw _ (List.mem_of_getElem? (i := 6) rfl))
  have ne_a4_a1 : a4 ≠ a1 := G.neX E (hw _ (List.mem_of_getElem? (i := 6) rfl))
  have ne_r0_a1 : r0 ≠ a1 := R0.neX E (hw _ (List.mem_of_getElem? (i := 6) rfl))
  have ne_r1_a1 : r1 ≠ a1 := R1.neX E (hw _ (List.mem_of_getElem? (i := 6) rfl))
  have ne_r2_a1 : r2 ≠ a1 := R2.neX E (hw _ (List.mem_of_getElem? (i := 6) rfl))
  have ne_r3_a1 : r3 ≠ a1 := R3.neX E (hw _ (List.mem_of_getElem? (i := 6) rfl))
  replace H := k_aloadN C H dG_0 rfl rfl (pc' := 1) rfl
  replace H := k_initObj C H (hw _ (List.mem_of_getElem? (i := 15) rfl)) (hw _ (List.mem_of_getElem? (i := 16) rfl)) (hw _ (List.mem_of_getElem? (i := 17) rfl)) dG_1 rfl (by decide) 0 rfl (by decide) (pc' := 4) rfl
  replace H := k_aloadN C H dG_4 rfl rfl (pc' := 5) rfl
  replace H := k_arrlen C H B dG_5 (pc' := 6) rfl
  replace H : K 6 #[.val (.ref a1), .val (.ref a2), .val (.ref a3), .val (.ref a4), .val (.int (0 : Int32))] [(.int (4 : Int32))] h0 0 0 := H
  replace H := k_aloadN C H dG_6 rfl rfl (pc' := 7) rfl
  replace H := k_arrlen C H A dG_7 (pc' := 8) rfl
  replace H : K 8 #[.val (.ref a1), .val (.ref a2), .val (.ref a3), .val (.ref a4), .val (.int (0 : Int32))] [(.int (4 : Int32)), (.int (4 : Int32))] h0 0 0 := H
  replace H := k_icmpN C H dG_8 (teq (by decide : (4 : Int32) = (4 : Int32))).2 (pc' := 11) rfl
  replace H := k_aloadN C H dG_11 rfl rfl (pc' := 12) rfl
  replace H := k_arflen C H G dG_12 (pc' := 13) rfl
  replace H : K 13 #[.val (.ref a1), .val (.ref a2), .val (.ref a3), .val (.ref a4), .val (.int (0 : Int32))] [(.int (4 : Int32))] h0 0 0 := H
  replace H := k_aloadN C H dG_13 rfl rfl (pc' := 14) rfl
  replace H := k_arrlen C H A dG_14 (pc' := 15) rfl
  replace H : K 15 #[.val (.ref a1), .val (.ref a2), .val (.ref a3), .val (.ref a4), .val (.int (0 : Int32))] [(.int (4 : Int32)), (.int (4 : Int32))] h0 0 0 := H
  replace H := k_icmpY C H dG_15 (teq (by decide : (4 : Int32) = (4 : Int32))).1 (by decide) (pc' := 37) rfl
  replace H := k_aloadN C H dG_37 rfl rfl (pc' := 38) rfl
  replace H := k_aloadN C H dG_38 rfl rfl (pc' := 39) rfl
  replace H := k_callSta C H (rmV l Z a0 hw a2 a3 h0 n0 A B) (hw _ (List.mem_of_getElem? (i := 18) rfl)) (hw _ (List.mem_of_getElem? (i := 19) rfl)) (hw _ (List.mem_of_getElem? (i := 7) rfl)) (hw _ (List.mem_of_getElem? (i := 20) rfl)) (by decide) dG_39 rfl [(.ref a2), (.ref a3)] [] pdG_0 rfl rfl rfl 0 rfl (by decide) (by decide) (by decide) (by decide) (pc' := 42) rfl
  obtain ⟨_, _, ⟨rfl, rfl⟩, H⟩ := H
  replace H : K 42 #[.val (.ref a1), .val (.ref a2), .val (.ref a3), .val (.ref a4), .val (.int (0 : Int32))] [] h0 0 0 := H
  replace H := k_aloadN C H dG_42 rfl rfl (pc' := 43) rfl
  replace H := k_newObj C H (hw _ (List.mem_of_getElem? (i := 21) rfl)) (hw _ (List.mem_of_getElem? (i := 22) rfl)) (hw _ (List.mem_of_getElem? (i := 23) rfl)) dG_43 (by decide) (by decide) (pc' := 46) rfl
  obtain ⟨h_ar, ar, g_ar, E_ar, X_ar, D_ar, H⟩ := H
  replace H : K 46 #[.val (.ref a1), .val (.ref a2), .val (.ref a3), .val (.ref a4), .val (.int (0 : Int32))] [(.ref ar), (.ref a1)] h_ar 1 4 := H
  have ne_a1_ar : a1 ≠ ar := Nat.ne_of_lt (Nat.lt_of_lt_of_le E.lt (Nat.le_of_eq g_ar.symm))
  have ne_a2_ar : a2 ≠ ar := Nat.ne_of_lt (Nat.lt_of_lt_of_le A.lt (Nat.le_of_eq g_ar.symm))
  have ne_a3_ar : a3 ≠ ar := Nat.ne_of_lt (Nat.lt_of_lt_of_le B.lt (Nat.le_of_eq g_ar.symm))
  have ne_a4_ar : a4 ≠ ar := Nat.ne_of_lt (Nat.lt_of_lt_of_le G.lt (Nat.le_of_eq g_ar.symm))
  have ne_r0_ar : r0 ≠ ar := Nat.ne_of_lt (Nat.lt_of_lt_of_le R0.lt (Nat.le_of_eq g_ar.symm))
  have ne_r1_ar : r1 ≠ ar := Nat.ne_of_lt (Nat.lt_of_lt_of_le R1.lt (Nat.le_of_eq g_ar.symm))
  have ne_r2_ar : r2 ≠ ar := Nat.ne_of_lt (Nat.lt_of_lt_of_le R2.lt (Nat.le_of_eq g_ar.symm))
  have ne_r3_ar : r3 ≠ ar := Nat.ne_of_lt (Nat.lt_of_lt_of_le R3.lt (Nat.le_of_eq g_ar.symm))
  have n_ar : n0 ≤ ar := Nat.le_trans Z0 (Nat.le_of_eq g_ar.symm)
  have s_ar : h0.size ≤ ar := Nat.le_trans KK.1 (Nat.le_of_eq g_ar.symm)
  replace E := E.ext E_ar
  replace F_arena := F_arena.ext E_ar
  replace F_priorities := F_priorities.ext E_ar
  replace A := A.ext E_ar
  replace X2 := X2.ext E_ar
  replace B := B.ext E_ar
  replace X3 := X3.ext E_ar
  replace G := G.ext E_ar
  replace R0 := R0.ext E_ar
  replace R1 := R1.ext E_ar
  replace R2 := R2.ext E_ar
  replace R3 := R3.ext E_ar
  replace KK := KK.ext E_ar
  have Z_h_ar : n0 ≤ h_ar.size := Nat.le_trans Z0 E_ar.1
  have F_ar_owners : Fld Z h_ar ar "com/example/equilibrate/equilibrate/model/Arena" "owners" "[I" .null := D_ar (Or.inr (hw _ (List.mem_of_getElem? (i := 37) rfl))) (ty := (.array .int)) (by decide)
  have F_ar_successorStart : Fld Z h_ar ar "com/example/equilibrate/equilibrate/model/Arena" "successorStart" "[I" .null := D_ar (Or.inr (hw _ (List.mem_of_getElem? (i := 43) rfl))) (ty := (.array .int)) (by decide)
  have F_ar_successors : Fld Z h_ar ar "com/example/equilibrate/equilibrate/model/Arena" "successors" "[I" .null := D_ar (Or.inr (hw _ (List.mem_of_getElem? (i := 52) rfl))) (ty := (.array .int)) (by decide)
  have F_ar_startVertex : Fld Z h_ar ar "com/example/equilibrate/equilibrate/model/Arena" "startVertex" "I" (.int (0 : Int32)) := D_ar (Or.inr (hw _ (List.mem_of_getElem? (i := 54) rfl))) (ty := .int) (by decide)
  have sz : h0.size ≤ h_ar.size := KK.1
  replace H := k_dup C H dG_46 rfl (pc' := 47) rfl
  replace H := k_aloadN C H dG_47 rfl rfl (pc' := 48) rfl
  replace H := k_aloadN C H dG_48 rfl rfl (pc' := 49) rfl
  replace H := k_iload C H dG_49 rfl (pc' := 51) rfl
  have lt_a1 : a1 < h_ar.size := E.lt
  have lt_a2 : a2 < h_ar.size := A.lt
  have lt_a3 : a3 < h_ar.size := B.lt
  have lt_a4 : a4 < h_ar.size := G.lt
  have lt_r0 : r0 < h_ar.size := R0.lt
  have lt_r1 : r1 < h_ar.size := R1.lt
  have lt_r2 : r2 < h_ar.size := R2.lt
  have lt_r3 : r3 < h_ar.size := R3.lt
  have lt_ar : ar < h_ar.size := X_ar.lt
  replace H := k_callCon C H (rmA l Z a0 hw ar a3 a4 (0 : Int32) h_ar n0 rfl Z_h_ar _ _ _ _ X_ar F_ar_owners F_ar_successorStart F_ar_successors F_ar_startVertex B X3 kg r0 r1 r2 r3 G R0 R1 R2 R3 n_ar) rfl (hw _ (List.mem_of_getElem? (i := 24) rfl)) (hw _ (List.mem_of_getElem? (i := 25) rfl)) (hw _ (List.mem_of_getElem? (i := 23) rfl)) (hw _ (List.mem_of_getElem? (i := 26) rfl)) (by decide) dG_51 rfl ar [(.ref a3), (.ref a4), (.int (0 : Int32))] [(.ref ar), (.ref a1)] pdG_1 rfl rfl rfl 2 rfl (by decide) (by decide) (by decide) (by decide) (pc' := 54) rfl
  obtain ⟨_, h2, ⟨rfl, ss, sc, K_ar, gs, gc, FS, FC, BS, BC⟩, H⟩ := H
  replace H : K 54 #[.val (.ref a1), .val (.ref a2), .val (.ref a3), .val (.ref a4), .val (.int (0 : Int32))] [(.ref ar), (.ref a1)] h2 4 17 := H
  replace E := E.keep K_ar
  replace F_arena := F_arena.keep K_ar (ninS ne_a1_ar nin0)
  replace F_priorities := F_priorities.keep K_ar (ninS ne_a1_ar nin0)
  replace A := A.keep K_ar (ninS ne_a2_ar nin0)
  replace X2 := X2.keep K_ar
  replace B := B.keep K_ar (ninS ne_a3_ar nin0)
  replace X3 := X3.keep K_ar
  replace G := G.keep K_ar (ninS ne_a4_ar nin0)
  replace R0 := R0.keep K_ar (ninS ne_r0_ar nin0)
  replace R1 := R1.keep K_ar (ninS ne_r1_ar nin0)
  replace R2 := R2.keep K_ar (ninS ne_r2_ar nin0)
  replace R3 := R3.keep K_ar (ninS ne_r3_ar nin0)
  replace X_ar := X_ar.keep K_ar
  replace KK := KK.trans K_ar (allS (Or.inr s_ar) all0)
  have Z_h2 : n0 ≤ h2.size := Nat.le_trans Z_h_ar K_ar.1
  have ne_a1_ss : a1 ≠ ss := Nat.ne_of_lt (Nat.lt_of_lt_of_le lt_a1 gs)
  have ne_a2_ss : a2 ≠ ss := Nat.ne_of_lt (Nat.lt_of_lt_of_le lt_a2 gs)
  have ne_a3_ss : a3 ≠ ss := Nat.ne_of_lt (Nat.lt_of_lt_of_le lt_a3 gs)
  have ne_a4_ss : a4 ≠ ss := Nat.ne_of_lt (Nat.lt_of_lt_of_le lt_a4 gs)
  have ne_r0_ss : r0 ≠ ss := Nat.ne_of_lt (Nat.lt_of_lt_of_le lt_r0 gs)
  have ne_r1_ss : r1 ≠ ss := Nat.ne_of_lt (Nat.lt_of_lt_of_le lt_r1 gs)
  have ne_r2_ss : r2 ≠ ss := Nat.ne_of_lt (Nat.lt_of_lt_of_le lt_r2 gs)
  have ne_r3_ss : r3 ≠ ss := Nat.ne_of_lt (Nat.lt_of_lt_of_le lt_r3 gs)
  have ne_ar_ss : ar ≠ ss := Nat.ne_of_lt (Nat.lt_of_lt_of_le lt_ar gs)
  have s_ss : h0.size ≤ ss := Nat.le_trans sz gs
  have ne_a1_sc : a1 ≠ sc := Nat.ne_of_lt (Nat.lt_of_lt_of_le lt_a1 gc)
  have ne_a2_sc : a2 ≠ sc := Nat.ne_of_lt (Nat.lt_of_lt_of_le lt_a2 gc)
  have ne_a3_sc : a3 ≠ sc := Nat.ne_of_lt (Nat.lt_of_lt_of_le lt_a3 gc)
  have ne_a4_sc : a4 ≠ sc := Nat.ne_of_lt (Nat.lt_of_lt_of_le lt_a4 gc)
  have ne_r0_sc : r0 ≠ sc := Nat.ne_of_lt (Nat.lt_of_lt_of_le lt_r0 gc)
  have ne_r1_sc : r1 ≠ sc := Nat.ne_of_lt (Nat.lt_of_lt_of_le lt_r1 gc)
  have ne_r2_sc : r2 ≠ sc := Nat.ne_of_lt (Nat.lt_of_lt_of_le lt_r2 gc)
  have ne_r3_sc : r3 ≠ sc := Nat.ne_of_lt (Nat.lt_of_lt_of_le lt_r3 gc)
  have ne_ar_sc : ar ≠ sc := Nat.ne_of_lt (Nat.lt_of_lt_of_le lt_ar gc)
  have s_sc : h0.size ≤ sc := Nat.le_trans sz gc
  replace H := k_putFld C H (hw _ (List.mem_of_getElem? (i := 59) rfl)) F_arena E (Or.inr ⟨(hw _ (List.mem_of_getElem? (i := 60) rfl)), rfl, rfl⟩) (hw _ (List.mem_of_getElem? (i := 6) rfl)) (ty := (.object "com/example/equilibrate/equilibrate/model/Arena")) (by decide) (v' := (.ref ar)) rfl rfl n_a1 dG_54 (pc' := 57) rfl
  obtain ⟨p54, W_p54, H⟩ := H
  replace E := E.wr W_p54
  replace F_arena := F_arena.same W_p54
  replace F_priorities := F_priorities.other W_p54 (Or.inr (slot_ne (Or.inr (hw _ (List.mem_of_getElem? (i := 64) rfl))) (Or.inr (hw _ (List.mem_of_getElem? (i := 60) rfl))) (by decide) (t := (.array .int)) (t' := (.object "com/example/equilibrate/equilibrate/model/Arena")) (by decide) (by decide)))
  replace A := A.other W_p54 ne_a2_a1
  replace X2 := X2.wr W_p54
  replace B := B.other W_p54 ne_a3_a1
  replace X3 := X3.wr W_p54
  replace G := G.other W_p54 ne_a4_a1
  replace R0 := R0.other W_p54 ne_r0_a1
  replace R1 := R1.other W_p54 ne_r1_a1
  replace R2 := R2.other W_p54 ne_r2_a1
  replace R3 := R3.other W_p54 ne_r3_a1
  replace X_ar := X_ar.wr W_p54
  replace FS := FS.other W_p54 (Or.inl (Ne.symm ne_a1_ar))
  replace FC := FC.other W_p54 (Or.inl (Ne.symm ne_a1_ar))
  replace BS := BS.other W_p54 (Ne.symm ne_a1_ss)
  replace BC := BC.other W_p54 (Ne.symm ne_a1_sc)
  replace KK := KK.wr W_p54 (Or.inl (List.mem_of_getElem? (i := 0) rfl))
  have Z_p54 : n0 ≤ p54.size := by rw [W_p54.size]; exact Z_h2
  replace H := k_aloadN C H dG_57 rfl rfl (pc' := 58) rfl
  replace H := k_aloadN C H dG_58 rfl rfl (pc' := 59) rfl
  replace H := k_cloneI C H A X2 (hw _ (List.mem_of_getElem? (i := 61) rfl)) (hw _ (List.mem_of_getElem? (i := 29) rfl)) (hw _ (List.mem_of_getElem? (i := 33) rfl)) (hw _ (List.mem_of_getElem? (i := 31) rfl)) (hw _ (List.mem_of_getElem? (i := 32) rfl)) (hw _ (List.mem_of_getElem? (i := 34) rfl)) dG_59 rfl (by decide) 1 rfl (by decide) (by decide) (by decide) (pc' := 62) rfl
  obtain ⟨h_pr, pr, g_pr, E_pr, V_pr, X_pr, H⟩ := H
  replace H : K 62 #[.val (.ref a1), .val (.ref a2), .val (.ref a3), .val (.ref a4), .val (.int (0 : Int32))] [(.ref pr), (.ref a1)] h_pr 5 21 := H
  have ne_a1_pr : a1 ≠ pr := Nat.ne_of_lt (Nat.lt_of_lt_of_le E.lt (Nat.le_of_eq g_pr.symm))
  have ne_a2_pr : a2 ≠ pr := Nat.ne_of_lt (Nat.lt_of_lt_of_le A.lt (Nat.le_of_eq g_pr.symm))
  have ne_a3_pr : a3 ≠ pr := Nat.ne_of_lt (Nat.lt_of_lt_of_le B.lt (Nat.le_of_eq g_pr.symm))
  have ne_a4_pr : a4 ≠ pr := Nat.ne_of_lt (Nat.lt_of_lt_of_le G.lt (Nat.le_of_eq g_pr.symm))
  have ne_r0_pr : r0 ≠ pr := Nat.ne_of_lt (Nat.lt_of_lt_of_le R0.lt (Nat.le_of_eq g_pr.symm))
  have ne_r1_pr : r1 ≠ pr := Nat.ne_of_lt (Nat.lt_of_lt_of_le R1.lt (Nat.le_of_eq g_pr.symm))
  have ne_r2_pr : r2 ≠ pr := Nat.ne_of_lt (Nat.lt_of_lt_of_le R2.lt (Nat.le_of_eq g_pr.symm))
  have ne_r3_pr : r3 ≠ pr := Nat.ne_of_lt (Nat.lt_of_lt_of_le R3.lt (Nat.le_of_eq g_pr.symm))
  have ne_ar_pr : ar ≠ pr := Nat.ne_of_lt (Nat.lt_of_lt_of_le X_ar.lt (Nat.le_of_eq g_pr.symm))
  have ne_ss_pr : ss ≠ pr := Nat.ne_of_lt (Nat.lt_of_lt_of_le BS.lt (Nat.le_of_eq g_pr.symm))
  have ne_sc_pr : sc ≠ pr := Nat.ne_of_lt (Nat.lt_of_lt_of_le BC.lt (Nat.le_of_eq g_pr.symm))
  have n_pr : n0 ≤ pr := Nat.le_trans Z_p54 (Nat.le_of_eq g_pr.symm)
  have s_pr : h0.size ≤ pr := Nat.le_trans KK.1 (Nat.le_of_eq g_pr.symm)
  replace E := E.ext E_pr
  replace F_arena := F_arena.ext E_pr
  replace F_priorities := F_priorities.ext E_pr
  replace A := A.ext E_pr
  replace X2 := X2.ext E_pr
  replace B := B.ext E_pr
  replace X3 := X3.ext E_pr
  replace G := G.ext E_pr
  replace R0 := R0.ext E_pr
  replace R1 := R1.ext E_pr
  replace R2 := R2.ext E_pr
  replace R3 := R3.ext E_pr
  replace X_ar := X_ar.ext E_pr
  replace FS := FS.ext E_pr
  replace FC := FC.ext E_pr
  replace BS := BS.ext E_pr
  replace BC := BC.ext E_pr
  replace KK := KK.ext E_pr
  have Z_h_pr : n0 ≤ h_pr.size := Nat.le_trans Z_p54 E_pr.1
  replace H := k_castYes C H (hw _ (List.mem_of_getElem? (i := 62) rfl)) (Ins.self X_pr) dG_62 (pc' := 65) rfl
  replace H := k_putFld C H (hw _ (List.mem_of_getElem? (i := 63) rfl)) F_priorities E (Or.inr ⟨(hw _ (List.mem_of_getElem? (i := 64) rfl)), rfl, rfl⟩) (hw _ (List.mem_of_getElem? (i := 6) rfl)) (ty := (.array .int)) (by decide) (v' := (.ref pr)) rfl rfl n_a1 dG_65 (pc' := 68) rfl
  obtain ⟨p65, W_p65, H⟩ := H
  replace E := E.wr W_p65
  replace F_arena := F_arena.other W_p65 (Or.inr (slot_ne (Or.inr (hw _ (List.mem_of_getElem? (i := 60) rfl))) (Or.inr (hw _ (List.mem_of_getElem? (i := 64) rfl))) (by decide) (t := (.object "com/example/equilibrate/equilibrate/model/Arena")) (t' := (.array .int)) (by decide) (by decide)))
  replace F_priorities := F_priorities.same W_p65
  replace A := A.other W_p65 ne_a2_a1
  replace X2 := X2.wr W_p65
  replace B := B.other W_p65 ne_a3_a1
  replace X3 := X3.wr W_p65
  replace G := G.other W_p65 ne_a4_a1
  replace R0 := R0.other W_p65 ne_r0_a1
  replace R1 := R1.other W_p65 ne_r1_a1
  replace R2 := R2.other W_p65 ne_r2_a1
  replace R3 := R3.other W_p65 ne_r3_a1
  replace X_ar := X_ar.wr W_p65
  replace FS := FS.other W_p65 (Or.inl (Ne.symm ne_a1_ar))
  replace FC := FC.other W_p65 (Or.inl (Ne.symm ne_a1_ar))
  replace BS := BS.other W_p65 (Ne.symm ne_a1_ss)
  replace BC := BC.other W_p65 (Ne.symm ne_a1_sc)
  replace V_pr := V_pr.other W_p65 (Ne.symm ne_a1_pr)
  replace X_pr := X_pr.wr W_p65
  replace KK := KK.wr W_p65 (Or.inl (List.mem_of_getElem? (i := 0) rfl))
  have Z_p65 : n0 ≤ p65.size := by rw [W_p65.size]; exact Z_h_pr
  exact k_retV C H dG_68 (by decide) (by decide) ⟨rfl, ar, pr, ss, sc, KK, s_ar, s_pr, s_ss, s_sc, F_arena, F_priorities, V_pr, X_ar, FS, FC, BS, BC⟩
theorem dgv_0 : decode prog_53_method_4_code 0 = .ok (.aload_n 0, 1) := by decide +kernel
theorem dgv_1 : decode prog_53_method_4_code 1 = .ok (.getfield 37, 3) := by decide +kernel
theorem dgv_4 : decode prog_53_method_4_code 4 = .ok (.arraylength, 1) := by decide +kernel
theorem dgv_5 : decode prog_53_method_4_code 5 = .ok (.ireturn, 1) := by decide +kernel
theorem pl_gv : plainFor (⟨"com/example/equilibrate/equilibrate/model/ParityGame", "getVertexCount", "()I"⟩ : MethodName) = true := plainFor_of_name (by first | (simp [plainName, overriddenIn]; done) | decide +kernel)
theorem ef_gv (mm : MethodId) (a1 : Addr) : entryFrame mm #[(.ref a1)] 1 = mkF mm 0 #[.val (.ref a1)] [] := by first | (simp [entryFrame, mkF, argsToLocals, Value.category]; done) | rfl
set_option maxRecDepth 65536 in
set_option maxHeartbeats 40000000 in
theorem rmgv (l : Launch) (Z : State) (a0 : Array Value) (hw : ∀ d ∈ tables_1, d.before a0 Z = true) (a1 : Addr) (h0 : Heap) (n0 : Nat)  (ar pr ss sc : Addr) (FA : Fld Z h0 a1 "com/example/equilibrate/equilibrate/model/ParityGame" "arena" "Lcom/example/equilibrate/equilibrate/model/Arena;" (.ref ar)) (FP : Fld Z h0 a1 "com/example/equilibrate/equilibrate/model/ParityGame" "priorities" "[I" (.ref pr)) (AP : Ari Z h0 pr .int 4 (lf [(0 : Int32), (0 : Int32), (0 : Int32), (0 : Int32)])) (XA : Exa Z h0 ar "com/example/equilibrate/equilibrate/model/Arena") (FS : Fld Z h0 ar "com/example/equilibrate/equilibrate/model/Arena" "successorStart" "[I" (.ref ss)) (FC : Fld Z h0 ar "com/example/equilibrate/equilibrate/model/Arena" "successors" "[I" (.ref sc)) (BS : Ari Z h0 ss .int 5 (lf [(0 : Int32), (1 : Int32), (2 : Int32), (3 : Int32), (4 : Int32)])) (BC : Ari Z h0 sc .int 4 (lf [(0 : Int32), (1 : Int32), (2 : Int32), (3 : Int32)])) :
    Con l (⟨"com/example/equilibrate/equilibrate/model/ParityGame", "getVertexCount", "()I"⟩ : MethodName) prog_53_method_4_code 1 (some .int) ({ frames := 0, cells := 0, slots := 0, locals := 0 } : Room) Z #[(.ref a1)] h0 n0 (fun o h => o = some (.int (4 : Int32)) ∧ h0 = h) := by
  refine Con.enter pl_gv (fun mm => ef_gv mm a1) ?_
  intro K O C H
  replace H : K 0 #[.val (.ref a1)] [] h0 0 0 := H
  replace H := k_aloadN C H dgv_0 rfl rfl (pc' := 1) rfl
  replace H := k_getFld C H (hw _ (List.mem_of_getElem? (i := 63) rfl)) FP dgv_1 (pc' := 4) rfl
  replace H := k_arrlen C H AP dgv_4 (pc' := 5) rfl
  replace H : K 5 #[.val (.ref a1)] [(.int (4 : Int32))] h0 0 0 := H
  exact k_retI C H dgv_5 (by decide) (by decide) ⟨rfl, rfl⟩
theorem dgea_0 : decode prog_41_method_6_code 0 = .ok (.aload_n 0, 1) := by decide +kernel
theorem dgea_1 : decode prog_41_method_6_code 1 = .ok (.getfield 29, 3) := by decide +kernel
theorem dgea_4 : decode prog_41_method_6_code 4 = .ok (.arraylength, 1) := by decide +kernel
theorem dgea_5 : decode prog_41_method_6_code 5 = .ok (.ireturn, 1) := by decide +kernel
theorem pl_gea : plainFor (⟨"com/example/equilibrate/equilibrate/model/Arena", "getEdgeCount", "()I"⟩ : MethodName) = true := plainFor_of_name (by first | (simp [plainName, overriddenIn]; done) | decide +kernel)
theorem ef_gea (mm : MethodId) (a1 : Addr) : entryFrame mm #[(.ref a1)] 1 = mkF mm 0 #[.val (.ref a1)] [] := by first | (simp [entryFrame, mkF, argsToLocals, Value.category]; done) | rfl
set_option maxRecDepth 65536 in
set_option maxHeartbeats 40000000 in
theorem rmgea (l : Launch) (Z : State) (a0 : Array Value) (hw : ∀ d ∈ tables_1, d.before a0 Z = true) (a1 : Addr) (h0 : Heap) (n0 : Nat)  (ss sc : Addr) (FS : Fld Z h0 a1 "com/example/equilibrate/equilibrate/model/Arena" "successorStart" "[I" (.ref ss)) (FC : Fld Z h0 a1 "com/example/equilibrate/equilibrate/model/Arena" "successors" "[I" (.ref sc)) (BS : Ari Z h0 ss .int 5 (lf [(0 : Int32), (1 : Int32), (2 : Int32), (3 : Int32), (4 : Int32)])) (BC : Ari Z h0 sc .int 4 (lf [(0 : Int32), (1 : Int32), (2 : Int32), (3 : Int32)])) :
    Con l (⟨"com/example/equilibrate/equilibrate/model/Arena", "getEdgeCount", "()I"⟩ : MethodName) prog_41_method_6_code 1 (some .int) ({ frames := 0, cells := 0, slots := 0, locals := 0 } : Room) Z #[(.ref a1)] h0 n0 (fun o h => o = some (.int (4 : Int32)) ∧ h0 = h) := by
  refine Con.enter pl_gea (fun mm => ef_gea mm a1) ?_
  intro K O C H
  replace H : K 0 #[.val (.ref a1)] [] h0 0 0 := H
  replace H := k_aloadN C H dgea_0 rfl rfl (pc' := 1) rfl
  replace H := k_getFld C H (hw _ (List.mem_of_getElem? (i := 51) rfl)) FC dgea_1 (pc' := 4) rfl
  replace H := k_arrlen C H BC dgea_4 (pc' := 5) rfl
  replace H : K 5 #[.val (.ref a1)] [(.int (4 : Int32))] h0 0 0 := H
  exact k_retI C H dgea_5 (by decide) (by decide) ⟨rfl, rfl⟩
theorem dge_0 : decode prog_53_method_5_code 0 = .ok (.aload_n 0, 1) := by decide +kernel
theorem dge_1 : decode prog_53_method_5_code 1 = .ok (.getfield 27, 3) := by decide +kernel
theorem dge_4 : decode prog_53_method_5_code 4 = .ok (.invokevirtual 43, 3) := by decide +kernel
theorem dge_7 : decode prog_53_method_5_code 7 = .ok (.ireturn, 1) := by decide +kernel
theorem pdge_0 : parseMethodDescriptor "()I" = some ⟨[], some .int⟩ := by decide +kernel
theorem pl_ge : plainFor (⟨"com/example/equilibrate/equilibrate/model/ParityGame", "getEdgeCount", "()I"⟩ : MethodName) = true := plainFor_of_name (by first | (simp [plainName, overriddenIn]; done) | decide +kernel)
theorem ef_ge (mm : MethodId) (a1 : Addr) : entryFrame mm #[(.ref a1)] 1 = mkF mm 0 #[.val (.ref a1)] [] := by first | (simp [entryFrame, mkF, argsToLocals, Value.category]; done) | rfl
set_option maxRecDepth 65536 in
set_option maxHeartbeats 40000000 in
theorem rmge (l : Launch) (Z : State) (a0 : Array Value) (hw : ∀ d ∈ tables_1, d.before a0 Z = true) (a1 : Addr) (h0 : Heap) (n0 : Nat)  (ar pr ss sc : Addr) (FA : Fld Z h0 a1 "com/example/equilibrate/equilibrate/model/ParityGame" "arena" "Lcom/example/equilibrate/equilibrate/model/Arena;" (.ref ar)) (FP : Fld Z h0 a1 "com/example/equilibrate/equilibrate/model/ParityGame" "priorities" "[I" (.ref pr)) (AP : Ari Z h0 pr .int 4 (lf [(0 : Int32), (0 : Int32), (0 : Int32), (0 : Int32)])) (XA : Exa Z h0 ar "com/example/equilibrate/equilibrate/model/Arena") (FS : Fld Z h0 ar "com/example/equilibrate/equilibrate/model/Arena" "successorStart" "[I" (.ref ss)) (FC : Fld Z h0 ar "com/example/equilibrate/equilibrate/model/Arena" "successors" "[I" (.ref sc)) (BS : Ari Z h0 ss .int 5 (lf [(0 : Int32), (1 : Int32), (2 : Int32), (3 : Int32), (4 : Int32)])) (BC : Ari Z h0 sc .int 4 (lf [(0 : Int32), (1 : Int32), (2 : Int32), (3 : Int32)])) :
    Con l (⟨"com/example/equilibrate/equilibrate/model/ParityGame", "getEdgeCount", "()I"⟩ : MethodName) prog_53_method_5_code 1 (some .int) ({ frames := 1, cells := 0, slots := 0, locals := 12 } : Room) Z #[(.ref a1)] h0 n0 (fun o h => o = some (.int (4 : Int32)) ∧ h0 = h) := by
  refine Con.enter pl_ge (fun mm => ef_ge mm a1) ?_
  intro K O C H
  replace H : K 0 #[.val (.ref a1)] [] h0 0 0 := H
  replace H := k_aloadN C H dge_0 rfl rfl (pc' := 1) rfl
  replace H := k_getFld C H (hw _ (List.mem_of_getElem? (i := 59) rfl)) FA dge_1 (pc' := 4) rfl
  replace H := k_callVir C H (rmgea l Z a0 hw ar  h0 n0  ss sc FS FC BS BC) XA (hw _ (List.mem_of_getElem? (i := 87) rfl)) (hw _ (List.mem_of_getElem? (i := 88) rfl)) (hw _ (List.mem_of_getElem? (i := 90) rfl)) (hw _ (List.mem_of_getElem? (i := 89) rfl)) (hw _ (List.mem_of_getElem? (i := 23) rfl)) (hw _ (List.mem_of_getElem? (i := 91) rfl)) (by decide) dge_4 rfl [] [] pdge_0 rfl rfl rfl 0 rfl (by decide) (by decide) (by decide) (by decide) (pc' := 7) rfl
  obtain ⟨_, _, ⟨rfl, rfl⟩, H⟩ := H
  replace H : K 7 #[.val (.ref a1)] [(.int (4 : Int32))] h0 0 0 := H
  exact k_retI C H dge_7 (by decide) (by decide) ⟨rfl, rfl⟩
theorem dgca0_0 : decode prog_41_method_8_code 0 = .ok (.aload_n 0, 1) := by decide +kernel
theorem dgca0_1 : decode prog_41_method_8_code 1 = .ok (.getfield 22, 3) := by decide +kernel
theorem dgca0_4 : decode prog_41_method_8_code 4 = .ok (.iload_n 1, 1) := by decide +kernel
theorem dgca0_5 : decode prog_41_method_8_code 5 = .ok (.iconst 1, 1) := by decide +kernel
theorem dgca0_6 : decode prog_41_method_8_code 6 = .ok (.iadd, 1) := by decide +kernel
theorem dgca0_7 : decode prog_41_method_8_code 7 = .ok (.iaload, 1) := by decide +kernel
theorem dgca0_8 : decode prog_41_method_8_code 8 = .ok (.aload_n 0, 1) := by decide +kernel
theorem dgca0_9 : decode prog_41_method_8_code 9 = .ok (.getfield 22, 3) := by decide +kernel
theorem dgca0_12 : decode prog_41_method_8_code 12 = .ok (.iload_n 1, 1) := by decide +kernel
theorem dgca0_13 : decode prog_41_method_8_code 13 = .ok (.iaload, 1) := by decide +kernel
theorem dgca0_14 : decode prog_41_method_8_code 14 = .ok (.isub, 1) := by decide +kernel
theorem dgca0_15 : decode prog_41_method_8_code 15 = .ok (.ireturn, 1) := by decide +kernel
theorem pl_gca0 : plainFor (⟨"com/example/equilibrate/equilibrate/model/Arena", "getSuccessorCount", "(I)I"⟩ : MethodName) = true := plainFor_of_name (by first | (simp [plainName, overriddenIn]; done) | decide +kernel)
theorem ef_gca0 (mm : MethodId) (a1 : Addr) (p2 : Int32) : entryFrame mm #[(.ref a1), (.int p2)] 2 = mkF mm 0 #[.val (.ref a1), .val (.int p2)] [] := by first | (simp [entryFrame, mkF, argsToLocals, Value.category]; done) | rfl
set_option maxRecDepth 65536 in
set_option maxHeartbeats 40000000 in
theorem rmgca0 (l : Launch) (Z : State) (a0 : Array Value) (hw : ∀ d ∈ tables_1, d.before a0 Z = true) (a1 : Addr) (p2 : Int32) (h0 : Heap) (n0 : Nat) (e0 : (0 : Int32) = p2) (ss sc : Addr) (FS : Fld Z h0 a1 "com/example/equilibrate/equilibrate/model/Arena" "successorStart" "[I" (.ref ss)) (FC : Fld Z h0 a1 "com/example/equilibrate/equilibrate/model/Arena" "successors" "[I" (.ref sc)) (BS : Ari Z h0 ss .int 5 (lf [(0 : Int32), (1 : Int32), (2 : Int32), (3 : Int32), (4 : Int32)])) (BC : Ari Z h0 sc .int 4 (lf [(0 : Int32), (1 : Int32), (2 : Int32), (3 : Int32)])) :
    Con l (⟨"com/example/equilibrate/equilibrate/model/Arena", "getSuccessorCount", "(I)I"⟩ : MethodName) prog_41_method_8_code 2 (some .int) ({ frames := 0, cells := 0, slots := 0, locals := 0 } : Room) Z #[(.ref a1), (.int p2)] h0 n0 (fun o h => o = some (.int (1 : Int32)) ∧ h0 = h) := by
  refine Con.enter pl_gca0 (fun mm => ef_gca0 mm a1 p2) ?_
  intro K O C H
  subst e0
  replace H : K 0 #[.val (.ref a1), .val (.int (0 : Int32))] [] h0 0 0 := H
  replace H := k_aloadN C H dgca0_0 rfl rfl (pc' := 1) rfl
  replace H := k_getFld C H (hw _ (List.mem_of_getElem? (i := 42) rfl)) FS dgca0_1 (pc' := 4) rfl
  replace H := k_iloadN C H dgca0_4 rfl (pc' := 5) rfl
  replace H := k_iconst C H (v := 1) dgca0_5 rfl (pc' := 6) rfl
  replace H := k_iadd C H dgca0_6 (pc' := 7) rfl
  replace H : K 7 #[.val (.ref a1), .val (.int (0 : Int32))] [(.int (1 : Int32)), (.ref ss)] h0 0 0 := H
  replace H := k_iaload C H BS (i := 1) (by decide) (by decide) dgca0_7 (pc' := 8) rfl
  replace H : K 8 #[.val (.ref a1), .val (.int (0 : Int32))] [(.int (1 : Int32))] h0 0 0 := H
  replace H := k_aloadN C H dgca0_8 rfl rfl (pc' := 9) rfl
  replace H := k_getFld C H (hw _ (List.mem_of_getElem? (i := 42) rfl)) FS dgca0_9 (pc' := 12) rfl
  replace H := k_iloadN C H dgca0_12 rfl (pc' := 13) rfl
  replace H := k_iaload C H BS (i := 0) (by decide) (by decide) dgca0_13 (pc' := 14) rfl
  replace H : K 14 #[.val (.ref a1), .val (.int (0 : Int32))] [(.int (0 : Int32)), (.int (1 : Int32))] h0 0 0 := H
  replace H := k_isub C H dgca0_14 (pc' := 15) rfl
  replace H : K 15 #[.val (.ref a1), .val (.int (0 : Int32))] [(.int (1 : Int32))] h0 0 0 := H
  exact k_retI C H dgca0_15 (by decide) (by decide) ⟨rfl, rfl⟩
theorem dgc0_0 : decode prog_53_method_9_code 0 = .ok (.aload_n 0, 1) := by decide +kernel
theorem dgc0_1 : decode prog_53_method_9_code 1 = .ok (.getfield 27, 3) := by decide +kernel
theorem dgc0_4 : decode prog_53_method_9_code 4 = .ok (.iload_n 1, 1) := by decide +kernel
theorem dgc0_5 : decode prog_53_method_9_code 5 = .ok (.invokevirtual 51, 3) := by decide +kernel
theorem dgc0_8 : decode prog_53_method_9_code 8 = .ok (.ireturn, 1) := by decide +kernel
theorem pdgc0_0 : parseMethodDescriptor "(I)I" = some ⟨[.int], some .int⟩ := by decide +kernel
theorem pl_gc0 : plainFor (⟨"com/example/equilibrate/equilibrate/model/ParityGame", "getSuccessorCount", "(I)I"⟩ : MethodName) = true := plainFor_of_name (by first | (simp [plainName, overriddenIn]; done) | decide +kernel)
theorem ef_gc0 (mm : MethodId) (a1 : Addr) (p2 : Int32) : entryFrame mm #[(.ref a1), (.int p2)] 2 = mkF mm 0 #[.val (.ref a1), .val (.int p2)] [] := by first | (simp [entryFrame, mkF, argsToLocals, Value.category]; done) | rfl
set_option maxRecDepth 65536 in
set_option maxHeartbeats 40000000 in
theorem rmgc0 (l : Launch) (Z : State) (a0 : Array Value) (hw : ∀ d ∈ tables_1, d.before a0 Z = true) (a1 : Addr) (p2 : Int32) (h0 : Heap) (n0 : Nat) (e0 : (0 : Int32) = p2) (ar pr ss sc : Addr) (FA : Fld Z h0 a1 "com/example/equilibrate/equilibrate/model/ParityGame" "arena" "Lcom/example/equilibrate/equilibrate/model/Arena;" (.ref ar)) (FP : Fld Z h0 a1 "com/example/equilibrate/equilibrate/model/ParityGame" "priorities" "[I" (.ref pr)) (AP : Ari Z h0 pr .int 4 (lf [(0 : Int32), (0 : Int32), (0 : Int32), (0 : Int32)])) (XA : Exa Z h0 ar "com/example/equilibrate/equilibrate/model/Arena") (FS : Fld Z h0 ar "com/example/equilibrate/equilibrate/model/Arena" "successorStart" "[I" (.ref ss)) (FC : Fld Z h0 ar "com/example/equilibrate/equilibrate/model/Arena" "successors" "[I" (.ref sc)) (BS : Ari Z h0 ss .int 5 (lf [(0 : Int32), (1 : Int32), (2 : Int32), (3 : Int32), (4 : Int32)])) (BC : Ari Z h0 sc .int 4 (lf [(0 : Int32), (1 : Int32), (2 : Int32), (3 : Int32)])) :
    Con l (⟨"com/example/equilibrate/equilibrate/model/ParityGame", "getSuccessorCount", "(I)I"⟩ : MethodName) prog_53_method_9_code 2 (some .int) ({ frames := 1, cells := 0, slots := 0, locals := 13 } : Room) Z #[(.ref a1), (.int p2)] h0 n0 (fun o h => o = some (.int (1 : Int32)) ∧ h0 = h) := by
  refine Con.enter pl_gc0 (fun mm => ef_gc0 mm a1 p2) ?_
  intro K O C H
  subst e0
  replace H : K 0 #[.val (.ref a1), .val (.int (0 : Int32))] [] h0 0 0 := H
  replace H := k_aloadN C H dgc0_0 rfl rfl (pc' := 1) rfl
  replace H := k_getFld C H (hw _ (List.mem_of_getElem? (i := 59) rfl)) FA dgc0_1 (pc' := 4) rfl
  replace H := k_iloadN C H dgc0_4 rfl (pc' := 5) rfl
  replace H := k_callVir C H (rmgca0 l Z a0 hw ar (0 : Int32) h0 n0 rfl ss sc FS FC BS BC) XA (hw _ (List.mem_of_getElem? (i := 99) rfl)) (hw _ (List.mem_of_getElem? (i := 100) rfl)) (hw _ (List.mem_of_getElem? (i := 102) rfl)) (hw _ (List.mem_of_getElem? (i := 101) rfl)) (hw _ (List.mem_of_getElem? (i := 23) rfl)) (hw _ (List.mem_of_getElem? (i := 103) rfl)) (by decide) dgc0_5 rfl [(.int (0 : Int32))] [] pdgc0_0 rfl rfl rfl 0 rfl (by decide) (by decide) (by decide) (by decide) (pc' := 8) rfl
  obtain ⟨_, _, ⟨rfl, rfl⟩, H⟩ := H
  replace H : K 8 #[.val (.ref a1), .val (.int (0 : Int32))] [(.int (1 : Int32))] h0 0 0 := H
  exact k_retI C H dgc0_8 (by decide) (by decide) ⟨rfl, rfl⟩
theorem dgca1_0 : decode prog_41_method_8_code 0 = .ok (.aload_n 0, 1) := by decide +kernel
theorem dgca1_1 : decode prog_41_method_8_code 1 = .ok (.getfield 22, 3) := by decide +kernel
theorem dgca1_4 : decode prog_41_method_8_code 4 = .ok (.iload_n 1, 1) := by decide +kernel
theorem dgca1_5 : decode prog_41_method_8_code 5 = .ok (.iconst 1, 1) := by decide +kernel
theorem dgca1_6 : decode prog_41_method_8_code 6 = .ok (.iadd, 1) := by decide +kernel
theorem dgca1_7 : decode prog_41_method_8_code 7 = .ok (.iaload, 1) := by decide +kernel
theorem dgca1_8 : decode prog_41_method_8_code 8 = .ok (.aload_n 0, 1) := by decide +kernel
theorem dgca1_9 : decode prog_41_method_8_code 9 = .ok (.getfield 22, 3) := by decide +kernel
theorem dgca1_12 : decode prog_41_method_8_code 12 = .ok (.iload_n 1, 1) := by decide +kernel
theorem dgca1_13 : decode prog_41_method_8_code 13 = .ok (.iaload, 1) := by decide +kernel
theorem dgca1_14 : decode prog_41_method_8_code 14 = .ok (.isub, 1) := by decide +kernel
theorem dgca1_15 : decode prog_41_method_8_code 15 = .ok (.ireturn, 1) := by decide +kernel
theorem pl_gca1 : plainFor (⟨"com/example/equilibrate/equilibrate/model/Arena", "getSuccessorCount", "(I)I"⟩ : MethodName) = true := plainFor_of_name (by first | (simp [plainName, overriddenIn]; done) | decide +kernel)
theorem ef_gca1 (mm : MethodId) (a1 : Addr) (p2 : Int32) : entryFrame mm #[(.ref a1), (.int p2)] 2 = mkF mm 0 #[.val (.ref a1), .val (.int p2)] [] := by first | (simp [entryFrame, mkF, argsToLocals, Value.category]; done) | rfl
set_option maxRecDepth 65536 in
set_option maxHeartbeats 40000000 in
theorem rmgca1 (l : Launch) (Z : State) (a0 : Array Value) (hw : ∀ d ∈ tables_1, d.before a0 Z = true) (a1 : Addr) (p2 : Int32) (h0 : Heap) (n0 : Nat) (e0 : (1 : Int32) = p2) (ss sc : Addr) (FS : Fld Z h0 a1 "com/example/equilibrate/equilibrate/model/Arena" "successorStart" "[I" (.ref ss)) (FC : Fld Z h0 a1 "com/example/equilibrate/equilibrate/model/Arena" "successors" "[I" (.ref sc)) (BS : Ari Z h0 ss .int 5 (lf [(0 : Int32), (1 : Int32), (2 : Int32), (3 : Int32), (4 : Int32)])) (BC : Ari Z h0 sc .int 4 (lf [(0 : Int32), (1 : Int32), (2 : Int32), (3 : Int32)])) :
    Con l (⟨"com/example/equilibrate/equilibrate/model/Arena", "getSuccessorCount", "(I)I"⟩ : MethodName) prog_41_method_8_code 2 (some .int) ({ frames := 0, cells := 0, slots := 0, locals := 0 } : Room) Z #[(.ref a1), (.int p2)] h0 n0 (fun o h => o = some (.int (1 : Int32)) ∧ h0 = h) := by
  refine Con.enter pl_gca1 (fun mm => ef_gca1 mm a1 p2) ?_
  intro K O C H
  subst e0
  replace H : K 0 #[.val (.ref a1), .val (.int (1 : Int32))] [] h0 0 0 := H
  replace H := k_aloadN C H dgca1_0 rfl rfl (pc' := 1) rfl
  replace H := k_getFld C H (hw _ (List.mem_of_getElem? (i := 42) rfl)) FS dgca1_1 (pc' := 4) rfl
  replace H := k_iloadN C H dgca1_4 rfl (pc' := 5) rfl
  replace H := k_iconst C H (v := 1) dgca1_5 rfl (pc' := 6) rfl
  replace H := k_iadd C H dgca1_6 (pc' := 7) rfl
  replace H : K 7 #[.val (.ref a1), .val (.int (1 : Int32))] [(.int (2 : Int32)), (.ref ss)] h0 0 0 := H
  replace H := k_iaload C H BS (i := 2) (by decide) (by decide) dgca1_7 (pc' := 8) rfl
  replace H : K 8 #[.val (.ref a1), .val (.int (1 : Int32))] [(.int (2 : Int32))] h0 0 0 := H
  replace H := k_aloadN C H dgca1_8 rfl rfl (pc' := 9) rfl
  replace H := k_getFld C H (hw _ (List.mem_of_getElem? (i := 42) rfl)) FS dgca1_9 (pc' := 12) rfl
  replace H := k_iloadN C H dgca1_12 rfl (pc' := 13) rfl
  replace H := k_iaload C H BS (i := 1) (by decide) (by decide) dgca1_13 (pc' := 14) rfl
  replace H : K 14 #[.val (.ref a1), .val (.int (1 : Int32))] [(.int (1 : Int32)), (.int (2 : Int32))] h0 0 0 := H
  replace H := k_isub C H dgca1_14 (pc' := 15) rfl
  replace H : K 15 #[.val (.ref a1), .val (.int (1 : Int32))] [(.int (1 : Int32))] h0 0 0 := H
  exact k_retI C H dgca1_15 (by decide) (by decide) ⟨rfl, rfl⟩
theorem dgc1_0 : decode prog_53_method_9_code 0 = .ok (.aload_n 0, 1) := by decide +kernel
theorem dgc1_1 : decode prog_53_method_9_code 1 = .ok (.getfield 27, 3) := by decide +kernel
theorem dgc1_4 : decode prog_53_method_9_code 4 = .ok (.iload_n 1, 1) := by decide +kernel
theorem dgc1_5 : decode prog_53_method_9_code 5 = .ok (.invokevirtual 51, 3) := by decide +kernel
theorem dgc1_8 : decode prog_53_method_9_code 8 = .ok (.ireturn, 1) := by decide +kernel
theorem pdgc1_0 : parseMethodDescriptor "(I)I" = some ⟨[.int], some .int⟩ := by decide +kernel
theorem pl_gc1 : plainFor (⟨"com/example/equilibrate/equilibrate/model/ParityGame", "getSuccessorCount", "(I)I"⟩ : MethodName) = true := plainFor_of_name (by first | (simp [plainName, overriddenIn]; done) | decide +kernel)
theorem ef_gc1 (mm : MethodId) (a1 : Addr) (p2 : Int32) : entryFrame mm #[(.ref a1), (.int p2)] 2 = mkF mm 0 #[.val (.ref a1), .val (.int p2)] [] := by first | (simp [entryFrame, mkF, argsToLocals, Value.category]; done) | rfl
set_option maxRecDepth 65536 in
set_option maxHeartbeats 40000000 in
theorem rmgc1 (l : Launch) (Z : State) (a0 : Array Value) (hw : ∀ d ∈ tables_1, d.before a0 Z = true) (a1 : Addr) (p2 : Int32) (h0 : Heap) (n0 : Nat) (e0 : (1 : Int32) = p2) (ar pr ss sc : Addr) (FA : Fld Z h0 a1 "com/example/equilibrate/equilibrate/model/ParityGame" "arena" "Lcom/example/equilibrate/equilibrate/model/Arena;" (.ref ar)) (FP : Fld Z h0 a1 "com/example/equilibrate/equilibrate/model/ParityGame" "priorities" "[I" (.ref pr)) (AP : Ari Z h0 pr .int 4 (lf [(0 : Int32), (0 : Int32), (0 : Int32), (0 : Int32)])) (XA : Exa Z h0 ar "com/example/equilibrate/equilibrate/model/Arena") (FS : Fld Z h0 ar "com/example/equilibrate/equilibrate/model/Arena" "successorStart" "[I" (.ref ss)) (FC : Fld Z h0 ar "com/example/equilibrate/equilibrate/model/Arena" "successors" "[I" (.ref sc)) (BS : Ari Z h0 ss .int 5 (lf [(0 : Int32), (1 : Int32), (2 : Int32), (3 : Int32), (4 : Int32)])) (BC : Ari Z h0 sc .int 4 (lf [(0 : Int32), (1 : Int32), (2 : Int32), (3 : Int32)])) :
    Con l (⟨"com/example/equilibrate/equilibrate/model/ParityGame", "getSuccessorCount", "(I)I"⟩ : MethodName) prog_53_method_9_code 2 (some .int) ({ frames := 1, cells := 0, slots := 0, locals := 13 } : Room) Z #[(.ref a1), (.int p2)] h0 n0 (fun o h => o = some (.int (1 : Int32)) ∧ h0 = h) := by
  refine Con.enter pl_gc1 (fun mm => ef_gc1 mm a1 p2) ?_
  intro K O C H
  subst e0
  replace H : K 0 #[.val (.ref a1), .val (.int (1 : Int32))] [] h0 0 0 := H
  replace H := k_aloadN C H dgc1_0 rfl rfl (pc' := 1) rfl
  replace H := k_getFld C H (hw _ (List.mem_of_getElem? (i := 59) rfl)) FA dgc1_1 (pc' := 4) rfl
  replace H := k_iloadN C H dgc1_4 rfl (pc' := 5) rfl
  replace H := k_callVir C H (rmgca1 l Z a0 hw ar (1 : Int32) h0 n0 rfl ss sc FS FC BS BC) XA (hw _ (List.mem_of_getElem? (i := 99) rfl)) (hw _ (List.mem_of_getElem? (i := 100) rfl)) (hw _ (List.mem_of_getElem? (i := 102) rfl)) (hw _ (List.mem_of_getElem? (i := 101) rfl)) (hw _ (List.mem_of_getElem? (i := 23) rfl)) (hw _ (List.mem_of_getElem? (i := 103) rfl)) (by decide) dgc1_5 rfl [(.int (1 : Int32))] [] pdgc1_0 rfl rfl rfl 0 rfl (by decide) (by decide) (by decide) (by decide) (pc' := 8) rfl
  obtain ⟨_, _, ⟨rfl, rfl⟩, H⟩ := H
  replace H : K 8 #[.val (.ref a1), .val (.int (1 : Int32))] [(.int (1 : Int32))] h0 0 0 := H
  exact k_retI C H dgc1_8 (by decide) (by decide) ⟨rfl, rfl⟩
theorem dgca2_0 : decode prog_41_method_8_code 0 = .ok (.aload_n 0, 1) := by decide +kernel
theorem dgca2_1 : decode prog_41_method_8_code 1 = .ok (.getfield 22, 3) := by decide +kernel
theorem dgca2_4 : decode prog_41_method_8_code 4 = .ok (.iload_n 1, 1) := by decide +kernel
theorem dgca2_5 : decode prog_41_method_8_code 5 = .ok (.iconst 1, 1) := by decide +kernel
theorem dgca2_6 : decode prog_41_method_8_code 6 = .ok (.iadd, 1) := by decide +kernel
theorem dgca2_7 : decode prog_41_method_8_code 7 = .ok (.iaload, 1) := by decide +kernel
theorem dgca2_8 : decode prog_41_method_8_code 8 = .ok (.aload_n 0, 1) := by decide +kernel
theorem dgca2_9 : decode prog_41_method_8_code 9 = .ok (.getfield 22, 3) := by decide +kernel
theorem dgca2_12 : decode prog_41_method_8_code 12 = .ok (.iload_n 1, 1) := by decide +kernel
theorem dgca2_13 : decode prog_41_method_8_code 13 = .ok (.iaload, 1) := by decide +kernel
theorem dgca2_14 : decode prog_41_method_8_code 14 = .ok (.isub, 1) := by decide +kernel
theorem dgca2_15 : decode prog_41_method_8_code 15 = .ok (.ireturn, 1) := by decide +kernel
theorem pl_gca2 : plainFor (⟨"com/example/equilibrate/equilibrate/model/Arena", "getSuccessorCount", "(I)I"⟩ : MethodName) = true := plainFor_of_name (by first | (simp [plainName, overriddenIn]; done) | decide +kernel)
theorem ef_gca2 (mm : MethodId) (a1 : Addr) (p2 : Int32) : entryFrame mm #[(.ref a1), (.int p2)] 2 = mkF mm 0 #[.val (.ref a1), .val (.int p2)] [] := by first | (simp [entryFrame, mkF, argsToLocals, Value.category]; done) | rfl
set_option maxRecDepth 65536 in
set_option maxHeartbeats 40000000 in
theorem rmgca2 (l : Launch) (Z : State) (a0 : Array Value) (hw : ∀ d ∈ tables_1, d.before a0 Z = true) (a1 : Addr) (p2 : Int32) (h0 : Heap) (n0 : Nat) (e0 : (2 : Int32) = p2) (ss sc : Addr) (FS : Fld Z h0 a1 "com/example/equilibrate/equilibrate/model/Arena" "successorStart" "[I" (.ref ss)) (FC : Fld Z h0 a1 "com/example/equilibrate/equilibrate/model/Arena" "successors" "[I" (.ref sc)) (BS : Ari Z h0 ss .int 5 (lf [(0 : Int32), (1 : Int32), (2 : Int32), (3 : Int32), (4 : Int32)])) (BC : Ari Z h0 sc .int 4 (lf [(0 : Int32), (1 : Int32), (2 : Int32), (3 : Int32)])) :
    Con l (⟨"com/example/equilibrate/equilibrate/model/Arena", "getSuccessorCount", "(I)I"⟩ : MethodName) prog_41_method_8_code 2 (some .int) ({ frames := 0, cells := 0, slots := 0, locals := 0 } : Room) Z #[(.ref a1), (.int p2)] h0 n0 (fun o h => o = some (.int (1 : Int32)) ∧ h0 = h) := by
  refine Con.enter pl_gca2 (fun mm => ef_gca2 mm a1 p2) ?_
  intro K O C H
  subst e0
  replace H : K 0 #[.val (.ref a1), .val (.int (2 : Int32))] [] h0 0 0 := H
  replace H := k_aloadN C H dgca2_0 rfl rfl (pc' := 1) rfl
  replace H := k_getFld C H (hw _ (List.mem_of_getElem? (i := 42) rfl)) FS dgca2_1 (pc' := 4) rfl
  replace H := k_iloadN C H dgca2_4 rfl (pc' := 5) rfl
  replace H := k_iconst C H (v := 1) dgca2_5 rfl (pc' := 6) rfl
  replace H := k_iadd C H dgca2_6 (pc' := 7) rfl
  replace H : K 7 #[.val (.ref a1), .val (.int (2 : Int32))] [(.int (3 : Int32)), (.ref ss)] h0 0 0 := H
  replace H := k_iaload C H BS (i := 3) (by decide) (by decide) dgca2_7 (pc' := 8) rfl
  replace H : K 8 #[.val (.ref a1), .val (.int (2 : Int32))] [(.int (3 : Int32))] h0 0 0 := H
  replace H := k_aloadN C H dgca2_8 rfl rfl (pc' := 9) rfl
  replace H := k_getFld C H (hw _ (List.mem_of_getElem? (i := 42) rfl)) FS dgca2_9 (pc' := 12) rfl
  replace H := k_iloadN C H dgca2_12 rfl (pc' := 13) rfl
  replace H := k_iaload C H BS (i := 2) (by decide) (by decide) dgca2_13 (pc' := 14) rfl
  replace H : K 14 #[.val (.ref a1), .val (.int (2 : Int32))] [(.int (2 : Int32)), (.int (3 : Int32))] h0 0 0 := H
  replace H := k_isub C H dgca2_14 (pc' := 15) rfl
  replace H : K 15 #[.val (.ref a1), .val (.int (2 : Int32))] [(.int (1 : Int32))] h0 0 0 := H
  exact k_retI C H dgca2_15 (by decide) (by decide) ⟨rfl, rfl⟩
theorem dgc2_0 : decode prog_53_method_9_code 0 = .ok (.aload_n 0, 1) := by decide +kernel
theorem dgc2_1 : decode prog_53_method_9_code 1 = .ok (.getfield 27, 3) := by decide +kernel
theorem dgc2_4 : decode prog_53_method_9_code 4 = .ok (.iload_n 1, 1) := by decide +kernel
theorem dgc2_5 : decode prog_53_method_9_code 5 = .ok (.invokevirtual 51, 3) := by decide +kernel
theorem dgc2_8 : decode prog_53_method_9_code 8 = .ok (.ireturn, 1) := by decide +kernel
theorem pdgc2_0 : parseMethodDescriptor "(I)I" = some ⟨[.int], some .int⟩ := by decide +kernel
theorem pl_gc2 : plainFor (⟨"com/example/equilibrate/equilibrate/model/ParityGame", "getSuccessorCount", "(I)I"⟩ : MethodName) = true := plainFor_of_name (by first | (simp [plainName, overriddenIn]; done) | decide +kernel)
theorem ef_gc2 (mm : MethodId) (a1 : Addr) (p2 : Int32) : entryFrame mm #[(.ref a1), (.int p2)] 2 = mkF mm 0 #[.val (.ref a1), .val (.int p2)] [] := by first | (simp [entryFrame, mkF, argsToLocals, Value.category]; done) | rfl
set_option maxRecDepth 65536 in
set_option maxHeartbeats 40000000 in
theorem rmgc2 (l : Launch) (Z : State) (a0 : Array Value) (hw : ∀ d ∈ tables_1, d.before a0 Z = true) (a1 : Addr) (p2 : Int32) (h0 : Heap) (n0 : Nat) (e0 : (2 : Int32) = p2) (ar pr ss sc : Addr) (FA : Fld Z h0 a1 "com/example/equilibrate/equilibrate/model/ParityGame" "arena" "Lcom/example/equilibrate/equilibrate/model/Arena;" (.ref ar)) (FP : Fld Z h0 a1 "com/example/equilibrate/equilibrate/model/ParityGame" "priorities" "[I" (.ref pr)) (AP : Ari Z h0 pr .int 4 (lf [(0 : Int32), (0 : Int32), (0 : Int32), (0 : Int32)])) (XA : Exa Z h0 ar "com/example/equilibrate/equilibrate/model/Arena") (FS : Fld Z h0 ar "com/example/equilibrate/equilibrate/model/Arena" "successorStart" "[I" (.ref ss)) (FC : Fld Z h0 ar "com/example/equilibrate/equilibrate/model/Arena" "successors" "[I" (.ref sc)) (BS : Ari Z h0 ss .int 5 (lf [(0 : Int32), (1 : Int32), (2 : Int32), (3 : Int32), (4 : Int32)])) (BC : Ari Z h0 sc .int 4 (lf [(0 : Int32), (1 : Int32), (2 : Int32), (3 : Int32)])) :
    Con l (⟨"com/example/equilibrate/equilibrate/model/ParityGame", "getSuccessorCount", "(I)I"⟩ : MethodName) prog_53_method_9_code 2 (some .int) ({ frames := 1, cells := 0, slots := 0, locals := 13 } : Room) Z #[(.ref a1), (.int p2)] h0 n0 (fun o h => o = some (.int (1 : Int32)) ∧ h0 = h) := by
  refine Con.enter pl_gc2 (fun mm => ef_gc2 mm a1 p2) ?_
  intro K O C H
  subst e0
  replace H : K 0 #[.val (.ref a1), .val (.int (2 : Int32))] [] h0 0 0 := H
  replace H := k_aloadN C H dgc2_0 rfl rfl (pc' := 1) rfl
  replace H := k_getFld C H (hw _ (List.mem_of_getElem? (i := 59) rfl)) FA dgc2_1 (pc' := 4) rfl
  replace H := k_iloadN C H dgc2_4 rfl (pc' := 5) rfl
  replace H := k_callVir C H (rmgca2 l Z a0 hw ar (2 : Int32) h0 n0 rfl ss sc FS FC BS BC) XA (hw _ (List.mem_of_getElem? (i := 99) rfl)) (hw _ (List.mem_of_getElem? (i := 100) rfl)) (hw _ (List.mem_of_getElem? (i := 102) rfl)) (hw _ (List.mem_of_getElem? (i := 101) rfl)) (hw _ (List.mem_of_getElem? (i := 23) rfl)) (hw _ (List.mem_of_getElem? (i := 103) rfl)) (by decide) dgc2_5 rfl [(.int (2 : Int32))] [] pdgc2_0 rfl rfl rfl 0 rfl (by decide) (by decide) (by decide) (by decide) (pc' := 8) rfl
  obtain ⟨_, _, ⟨rfl, rfl⟩, H⟩ := H
  replace H : K 8 #[.val (.ref a1), .val (.int (2 : Int32))] [(.int (1 : Int32))] h0 0 0 := H
  exact k_retI C H dgc2_8 (by decide) (by decide) ⟨rfl, rfl⟩
theorem dgca3_0 : decode prog_41_method_8_code 0 = .ok (.aload_n 0, 1) := by decide +kernel
theorem dgca3_1 : decode prog_41_method_8_code 1 = .ok (.getfield 22, 3) := by decide +kernel
theorem dgca3_4 : decode prog_41_method_8_code 4 = .ok (.iload_n 1, 1) := by decide +kernel
theorem dgca3_5 : decode prog_41_method_8_code 5 = .ok (.iconst 1, 1) := by decide +kernel
theorem dgca3_6 : decode prog_41_method_8_code 6 = .ok (.iadd, 1) := by decide +kernel
theorem dgca3_7 : decode prog_41_method_8_code 7 = .ok (.iaload, 1) := by decide +kernel
theorem dgca3_8 : decode prog_41_method_8_code 8 = .ok (.aload_n 0, 1) := by decide +kernel
theorem dgca3_9 : decode prog_41_method_8_code 9 = .ok (.getfield 22, 3) := by decide +kernel
theorem dgca3_12 : decode prog_41_method_8_code 12 = .ok (.iload_n 1, 1) := by decide +kernel
theorem dgca3_13 : decode prog_41_method_8_code 13 = .ok (.iaload, 1) := by decide +kernel
theorem dgca3_14 : decode prog_41_method_8_code 14 = .ok (.isub, 1) := by decide +kernel
theorem dgca3_15 : decode prog_41_method_8_code 15 = .ok (.ireturn, 1) := by decide +kernel
theorem pl_gca3 : plainFor (⟨"com/example/equilibrate/equilibrate/model/Arena", "getSuccessorCount", "(I)I"⟩ : MethodName) = true := plainFor_of_name (by first | (simp [plainName, overriddenIn]; done) | decide +kernel)
theorem ef_gca3 (mm : MethodId) (a1 : Addr) (p2 : Int32) : entryFrame mm #[(.ref a1), (.int p2)] 2 = mkF mm 0 #[.val (.ref a1), .val (.int p2)] [] := by first | (simp [entryFrame, mkF, argsToLocals, Value.category]; done) | rfl
set_option maxRecDepth 65536 in
set_option maxHeartbeats 40000000 in
theorem rmgca3 (l : Launch) (Z : State) (a0 : Array Value) (hw : ∀ d ∈ tables_1, d.before a0 Z = true) (a1 : Addr) (p2 : Int32) (h0 : Heap) (n0 : Nat) (e0 : (3 : Int32) = p2) (ss sc : Addr) (FS : Fld Z h0 a1 "com/example/equilibrate/equilibrate/model/Arena" "successorStart" "[I" (.ref ss)) (FC : Fld Z h0 a1 "com/example/equilibrate/equilibrate/model/Arena" "successors" "[I" (.ref sc)) (BS : Ari Z h0 ss .int 5 (lf [(0 : Int32), (1 : Int32), (2 : Int32), (3 : Int32), (4 : Int32)])) (BC : Ari Z h0 sc .int 4 (lf [(0 : Int32), (1 : Int32), (2 : Int32), (3 : Int32)])) :
    Con l (⟨"com/example/equilibrate/equilibrate/model/Arena", "getSuccessorCount", "(I)I"⟩ : MethodName) prog_41_method_8_code 2 (some .int) ({ frames := 0, cells := 0, slots := 0, locals := 0 } : Room) Z #[(.ref a1), (.int p2)] h0 n0 (fun o h => o = some (.int (1 : Int32)) ∧ h0 = h) := by
  refine Con.enter pl_gca3 (fun mm => ef_gca3 mm a1 p2) ?_
  intro K O C H
  subst e0
  replace H : K 0 #[.val (.ref a1), .val (.int (3 : Int32))] [] h0 0 0 := H
  replace H := k_aloadN C H dgca3_0 rfl rfl (pc' := 1) rfl
  replace H := k_getFld C H (hw _ (List.mem_of_getElem? (i := 42) rfl)) FS dgca3_1 (pc' := 4) rfl
  replace H := k_iloadN C H dgca3_4 rfl (pc' := 5) rfl
  replace H := k_iconst C H (v := 1) dgca3_5 rfl (pc' := 6) rfl
  replace H := k_iadd C H dgca3_6 (pc' := 7) rfl
  replace H : K 7 #[.val (.ref a1), .val (.int (3 : Int32))] [(.int (4 : Int32)), (.ref ss)] h0 0 0 := H
  replace H := k_iaload C H BS (i := 4) (by decide) (by decide) dgca3_7 (pc' := 8) rfl
  replace H : K 8 #[.val (.ref a1), .val (.int (3 : Int32))] [(.int (4 : Int32))] h0 0 0 := H
  replace H := k_aloadN C H dgca3_8 rfl rfl (pc' := 9) rfl
  replace H := k_getFld C H (hw _ (List.mem_of_getElem? (i := 42) rfl)) FS dgca3_9 (pc' := 12) rfl
  replace H := k_iloadN C H dgca3_12 rfl (pc' := 13) rfl
  replace H := k_iaload C H BS (i := 3) (by decide) (by decide) dgca3_13 (pc' := 14) rfl
  replace H : K 14 #[.val (.ref a1), .val (.int (3 : Int32))] [(.int (3 : Int32)), (.int (4 : Int32))] h0 0 0 := H
  replace H := k_isub C H dgca3_14 (pc' := 15) rfl
  replace H : K 15 #[.val (.ref a1), .val (.int (3 : Int32))] [(.int (1 : Int32))] h0 0 0 := H
  exact k_retI C H dgca3_15 (by decide) (by decide) ⟨rfl, rfl⟩
theorem dgc3_0 : decode prog_53_method_9_code 0 = .ok (.aload_n 0, 1) := by decide +kernel
theorem dgc3_1 : decode prog_53_method_9_code 1 = .ok (.getfield 27, 3) := by decide +kernel
theorem dgc3_4 : decode prog_53_method_9_code 4 = .ok (.iload_n 1, 1) := by decide +kernel
theorem dgc3_5 : decode prog_53_method_9_code 5 = .ok (.invokevirtual 51, 3) := by decide +kernel
theorem dgc3_8 : decode prog_53_method_9_code 8 = .ok (.ireturn, 1) := by decide +kernel
theorem pdgc3_0 : parseMethodDescriptor "(I)I" = some ⟨[.int], some .int⟩ := by decide +kernel
theorem pl_gc3 : plainFor (⟨"com/example/equilibrate/equilibrate/model/ParityGame", "getSuccessorCount", "(I)I"⟩ : MethodName) = true := plainFor_of_name (by first | (simp [plainName, overriddenIn]; done) | decide +kernel)
theorem ef_gc3 (mm : MethodId) (a1 : Addr) (p2 : Int32) : entryFrame mm #[(.ref a1), (.int p2)] 2 = mkF mm 0 #[.val (.ref a1), .val (.int p2)] [] := by first | (simp [entryFrame, mkF, argsToLocals, Value.category]; done) | rfl
set_option maxRecDepth 65536 in
set_option maxHeartbeats 40000000 in
theorem rmgc3 (l : Launch) (Z : State) (a0 : Array Value) (hw : ∀ d ∈ tables_1, d.before a0 Z = true) (a1 : Addr) (p2 : Int32) (h0 : Heap) (n0 : Nat) (e0 : (3 : Int32) = p2) (ar pr ss sc : Addr) (FA : Fld Z h0 a1 "com/example/equilibrate/equilibrate/model/ParityGame" "arena" "Lcom/example/equilibrate/equilibrate/model/Arena;" (.ref ar)) (FP : Fld Z h0 a1 "com/example/equilibrate/equilibrate/model/ParityGame" "priorities" "[I" (.ref pr)) (AP : Ari Z h0 pr .int 4 (lf [(0 : Int32), (0 : Int32), (0 : Int32), (0 : Int32)])) (XA : Exa Z h0 ar "com/example/equilibrate/equilibrate/model/Arena") (FS : Fld Z h0 ar "com/example/equilibrate/equilibrate/model/Arena" "successorStart" "[I" (.ref ss)) (FC : Fld Z h0 ar "com/example/equilibrate/equilibrate/model/Arena" "successors" "[I" (.ref sc)) (BS : Ari Z h0 ss .int 5 (lf [(0 : Int32), (1 : Int32), (2 : Int32), (3 : Int32), (4 : Int32)])) (BC : Ari Z h0 sc .int 4 (lf [(0 : Int32), (1 : Int32), (2 : Int32), (3 : Int32)])) :
    Con l (⟨"com/example/equilibrate/equilibrate/model/ParityGame", "getSuccessorCount", "(I)I"⟩ : MethodName) prog_53_method_9_code 2 (some .int) ({ frames := 1, cells := 0, slots := 0, locals := 13 } : Room) Z #[(.ref a1), (.int p2)] h0 n0 (fun o h => o = some (.int (1 : Int32)) ∧ h0 = h) := by
  refine Con.enter pl_gc3 (fun mm => ef_gc3 mm a1 p2) ?_
  intro K O C H
  subst e0
  replace H : K 0 #[.val (.ref a1), .val (.int (3 : Int32))] [] h0 0 0 := H
  replace H := k_aloadN C H dgc3_0 rfl rfl (pc' := 1) rfl
  replace H := k_getFld C H (hw _ (List.mem_of_getElem? (i := 59) rfl)) FA dgc3_1 (pc' := 4) rfl
  replace H := k_iloadN C H dgc3_4 rfl (pc' := 5) rfl
  replace H := k_callVir C H (rmgca3 l Z a0 hw ar (3 : Int32) h0 n0 rfl ss sc FS FC BS BC) XA (hw _ (List.mem_of_getElem? (i := 99) rfl)) (hw _ (List.mem_of_getElem? (i := 100) rfl)) (hw _ (List.mem_of_getElem? (i := 102) rfl)) (hw _ (List.mem_of_getElem? (i := 101) rfl)) (hw _ (List.mem_of_getElem? (i := 23) rfl)) (hw _ (List.mem_of_getElem? (i := 103) rfl)) (by decide) dgc3_5 rfl [(.int (3 : Int32))] [] pdgc3_0 rfl rfl rfl 0 rfl (by decide) (by decide) (by decide) (by decide) (pc' := 8) rfl
  obtain ⟨_, _, ⟨rfl, rfl⟩, H⟩ := H
  replace H : K 8 #[.val (.ref a1), .val (.int (3 : Int32))] [(.int (1 : Int32))] h0 0 0 := H
  exact k_retI C H dgc3_8 (by decide) (by decide) ⟨rfl, rfl⟩
theorem dgsa0_0 : decode prog_41_method_9_code 0 = .ok (.aload_n 0, 1) := by decide +kernel
theorem dgsa0_1 : decode prog_41_method_9_code 1 = .ok (.getfield 29, 3) := by decide +kernel
theorem dgsa0_4 : decode prog_41_method_9_code 4 = .ok (.aload_n 0, 1) := by decide +kernel
theorem dgsa0_5 : decode prog_41_method_9_code 5 = .ok (.getfield 22, 3) := by decide +kernel
theorem dgsa0_8 : decode prog_41_method_9_code 8 = .ok (.iload_n 1, 1) := by decide +kernel
theorem dgsa0_9 : decode prog_41_method_9_code 9 = .ok (.iaload, 1) := by decide +kernel
theorem dgsa0_10 : decode prog_41_method_9_code 10 = .ok (.iload_n 2, 1) := by decide +kernel
theorem dgsa0_11 : decode prog_41_method_9_code 11 = .ok (.iadd, 1) := by decide +kernel
theorem dgsa0_12 : decode prog_41_method_9_code 12 = .ok (.iaload, 1) := by decide +kernel
theorem dgsa0_13 : decode prog_41_method_9_code 13 = .ok (.ireturn, 1) := by decide +kernel
theorem pl_gsa0 : plainFor (⟨"com/example/equilibrate/equilibrate/model/Arena", "getSuccessor", "(II)I"⟩ : MethodName) = true := plainFor_of_name (by first | (simp [plainName, overriddenIn]; done) | decide +kernel)
theorem ef_gsa0 (mm : MethodId) (a1 : Addr) (p2 : Int32) (p3 : Int32) : entryFrame mm #[(.ref a1), (.int p2), (.int p3)] 3 = mkF mm 0 #[.val (.ref a1), .val (.int p2), .val (.int p3)] [] := by first | (simp [entryFrame, mkF, argsToLocals, Value.category]; done) | rfl
set_option maxRecDepth 65536 in
set_option maxHeartbeats 40000000 in
theorem rmgsa0 (l : Launch) (Z : State) (a0 : Array Value) (hw : ∀ d ∈ tables_1, d.before a0 Z = true) (a1 : Addr) (p2 : Int32) (p3 : Int32) (h0 : Heap) (n0 : Nat) (e0 : (0 : Int32) = p2) (e1 : (0 : Int32) = p3) (ss sc : Addr) (FS : Fld Z h0 a1 "com/example/equilibrate/equilibrate/model/Arena" "successorStart" "[I" (.ref ss)) (FC : Fld Z h0 a1 "com/example/equilibrate/equilibrate/model/Arena" "successors" "[I" (.ref sc)) (BS : Ari Z h0 ss .int 5 (lf [(0 : Int32), (1 : Int32), (2 : Int32), (3 : Int32), (4 : Int32)])) (BC : Ari Z h0 sc .int 4 (lf [(0 : Int32), (1 : Int32), (2 : Int32), (3 : Int32)])) :
    Con l (⟨"com/example/equilibrate/equilibrate/model/Arena", "getSuccessor", "(II)I"⟩ : MethodName) prog_41_method_9_code 3 (some .int) ({ frames := 0, cells := 0, slots := 0, locals := 0 } : Room) Z #[(.ref a1), (.int p2), (.int p3)] h0 n0 (fun o h => o = some (.int (0 : Int32)) ∧ h0 = h) := by
  refine Con.enter pl_gsa0 (fun mm => ef_gsa0 mm a1 p2 p3) ?_
  intro K O C H
  subst e0
  subst e1
  replace H : K 0 #[.val (.ref a1), .val (.int (0 : Int32)), .val (.int (0 : Int32))] [] h0 0 0 := H
  replace H := k_aloadN C H dgsa0_0 rfl rfl (pc' := 1) rfl
  replace H := k_getFld C H (hw _ (List.mem_of_getElem? (i := 51) rfl)) FC dgsa0_1 (pc' := 4) rfl
  replace H := k_aloadN C H dgsa0_4 rfl rfl (pc' := 5) rfl
  replace H := k_getFld C H (hw _ (List.mem_of_getElem? (i := 42) rfl)) FS dgsa0_5 (pc' := 8) rfl
  replace H := k_iloadN C H dgsa0_8 rfl (pc' := 9) rfl
  replace H := k_iaload C H BS (i := 0) (by decide) (by decide) dgsa0_9 (pc' := 10) rfl
  replace H : K 10 #[.val (.ref a1), .val (.int (0 : Int32)), .val (.int (0 : Int32))] [(.int (0 : Int32)), (.ref sc)] h0 0 0 := H
  replace H := k_iloadN C H dgsa0_10 rfl (pc' := 11) rfl
  replace H := k_iadd C H dgsa0_11 (pc' := 12) rfl
  replace H : K 12 #[.val (.ref a1), .val (.int (0 : Int32)), .val (.int (0 : Int32))] [(.int (0 : Int32)), (.ref sc)] h0 0 0 := H
  replace H := k_iaload C H BC (i := 0) (by decide) (by decide) dgsa0_12 (pc' := 13) rfl
  replace H : K 13 #[.val (.ref a1), .val (.int (0 : Int32)), .val (.int (0 : Int32))] [(.int (0 : Int32))] h0 0 0 := H
  exact k_retI C H dgsa0_13 (by decide) (by decide) ⟨rfl, rfl⟩
theorem dgs0_0 : decode prog_53_method_10_code 0 = .ok (.aload_n 0, 1) := by decide +kernel
theorem dgs0_1 : decode prog_53_method_10_code 1 = .ok (.getfield 27, 3) := by decide +kernel
theorem dgs0_4 : decode prog_53_method_10_code 4 = .ok (.iload_n 1, 1) := by decide +kernel
theorem dgs0_5 : decode prog_53_method_10_code 5 = .ok (.iload_n 2, 1) := by decide +kernel
theorem dgs0_6 : decode prog_53_method_10_code 6 = .ok (.invokevirtual 54, 3) := by decide +kernel
theorem dgs0_9 : decode prog_53_method_10_code 9 = .ok (.ireturn, 1) := by decide +kernel
theorem pdgs0_0 : parseMethodDescriptor "(II)I" = some ⟨[.int, .int], some .int⟩ := by decide +kernel
theorem pl_gs0 : plainFor (⟨"com/example/equilibrate/equilibrate/model/ParityGame", "getSuccessor", "(II)I"⟩ : MethodName) = true := plainFor_of_name (by first | (simp [plainName, overriddenIn]; done) | decide +kernel)
theorem ef_gs0 (mm : MethodId) (a1 : Addr) (p2 : Int32) (p3 : Int32) : entryFrame mm #[(.ref a1), (.int p2), (.int p3)] 3 = mkF mm 0 #[.val (.ref a1), .val (.int p2), .val (.int p3)] [] := by first | (simp [entryFrame, mkF, argsToLocals, Value.category]; done) | rfl
set_option maxRecDepth 65536 in
set_option maxHeartbeats 40000000 in
theorem rmgs0 (l : Launch) (Z : State) (a0 : Array Value) (hw : ∀ d ∈ tables_1, d.before a0 Z = true) (a1 : Addr) (p2 : Int32) (p3 : Int32) (h0 : Heap) (n0 : Nat) (e0 : (0 : Int32) = p2) (e1 : (0 : Int32) = p3) (ar pr ss sc : Addr) (FA : Fld Z h0 a1 "com/example/equilibrate/equilibrate/model/ParityGame" "arena" "Lcom/example/equilibrate/equilibrate/model/Arena;" (.ref ar)) (FP : Fld Z h0 a1 "com/example/equilibrate/equilibrate/model/ParityGame" "priorities" "[I" (.ref pr)) (AP : Ari Z h0 pr .int 4 (lf [(0 : Int32), (0 : Int32), (0 : Int32), (0 : Int32)])) (XA : Exa Z h0 ar "com/example/equilibrate/equilibrate/model/Arena") (FS : Fld Z h0 ar "com/example/equilibrate/equilibrate/model/Arena" "successorStart" "[I" (.ref ss)) (FC : Fld Z h0 ar "com/example/equilibrate/equilibrate/model/Arena" "successors" "[I" (.ref sc)) (BS : Ari Z h0 ss .int 5 (lf [(0 : Int32), (1 : Int32), (2 : Int32), (3 : Int32), (4 : Int32)])) (BC : Ari Z h0 sc .int 4 (lf [(0 : Int32), (1 : Int32), (2 : Int32), (3 : Int32)])) :
    Con l (⟨"com/example/equilibrate/equilibrate/model/ParityGame", "getSuccessor", "(II)I"⟩ : MethodName) prog_53_method_10_code 3 (some .int) ({ frames := 1, cells := 0, slots := 0, locals := 14 } : Room) Z #[(.ref a1), (.int p2), (.int p3)] h0 n0 (fun o h => o = some (.int (0 : Int32)) ∧ h0 = h) := by
  refine Con.enter pl_gs0 (fun mm => ef_gs0 mm a1 p2 p3) ?_
  intro K O C H
  subst e0
  subst e1
  replace H : K 0 #[.val (.ref a1), .val (.int (0 : Int32)), .val (.int (0 : Int32))] [] h0 0 0 := H
  replace H := k_aloadN C H dgs0_0 rfl rfl (pc' := 1) rfl
  replace H := k_getFld C H (hw _ (List.mem_of_getElem? (i := 59) rfl)) FA dgs0_1 (pc' := 4) rfl
  replace H := k_iloadN C H dgs0_4 rfl (pc' := 5) rfl
  replace H := k_iloadN C H dgs0_5 rfl (pc' := 6) rfl
  replace H := k_callVir C H (rmgsa0 l Z a0 hw ar (0 : Int32) (0 : Int32) h0 n0 rfl rfl ss sc FS FC BS BC) XA (hw _ (List.mem_of_getElem? (i := 109) rfl)) (hw _ (List.mem_of_getElem? (i := 110) rfl)) (hw _ (List.mem_of_getElem? (i := 112) rfl)) (hw _ (List.mem_of_getElem? (i := 111) rfl)) (hw _ (List.mem_of_getElem? (i := 23) rfl)) (hw _ (List.mem_of_getElem? (i := 113) rfl)) (by decide) dgs0_6 rfl [(.int (0 : Int32)), (.int (0 : Int32))] [] pdgs0_0 rfl rfl rfl 0 rfl (by decide) (by decide) (by decide) (by decide) (pc' := 9) rfl
  obtain ⟨_, _, ⟨rfl, rfl⟩, H⟩ := H
  replace H : K 9 #[.val (.ref a1), .val (.int (0 : Int32)), .val (.int (0 : Int32))] [(.int (0 : Int32))] h0 0 0 := H
  exact k_retI C H dgs0_9 (by decide) (by decide) ⟨rfl, rfl⟩
theorem dgsa1_0 : decode prog_41_method_9_code 0 = .ok (.aload_n 0, 1) := by decide +kernel
theorem dgsa1_1 : decode prog_41_method_9_code 1 = .ok (.getfield 29, 3) := by decide +kernel
theorem dgsa1_4 : decode prog_41_method_9_code 4 = .ok (.aload_n 0, 1) := by decide +kernel
theorem dgsa1_5 : decode prog_41_method_9_code 5 = .ok (.getfield 22, 3) := by decide +kernel
theorem dgsa1_8 : decode prog_41_method_9_code 8 = .ok (.iload_n 1, 1) := by decide +kernel
theorem dgsa1_9 : decode prog_41_method_9_code 9 = .ok (.iaload, 1) := by decide +kernel
theorem dgsa1_10 : decode prog_41_method_9_code 10 = .ok (.iload_n 2, 1) := by decide +kernel
theorem dgsa1_11 : decode prog_41_method_9_code 11 = .ok (.iadd, 1) := by decide +kernel
theorem dgsa1_12 : decode prog_41_method_9_code 12 = .ok (.iaload, 1) := by decide +kernel
theorem dgsa1_13 : decode prog_41_method_9_code 13 = .ok (.ireturn, 1) := by decide +kernel
theorem pl_gsa1 : plainFor (⟨"com/example/equilibrate/equilibrate/model/Arena", "getSuccessor", "(II)I"⟩ : MethodName) = true := plainFor_of_name (by first | (simp [plainName, overriddenIn]; done) | decide +kernel)
theorem ef_gsa1 (mm : MethodId) (a1 : Addr) (p2 : Int32) (p3 : Int32) : entryFrame mm #[(.ref a1), (.int p2), (.int p3)] 3 = mkF mm 0 #[.val (.ref a1), .val (.int p2), .val (.int p3)] [] := by first | (simp [entryFrame, mkF, argsToLocals, Value.category]; done) | rfl
set_option maxRecDepth 65536 in
set_option maxHeartbeats 40000000 in
theorem rmgsa1 (l : Launch) (Z : State) (a0 : Array Value) (hw : ∀ d ∈ tables_1, d.before a0 Z = true) (a1 : Addr) (p2 : Int32) (p3 : Int32) (h0 : Heap) (n0 : Nat) (e0 : (1 : Int32) = p2) (e1 : (0 : Int32) = p3) (ss sc : Addr) (FS : Fld Z h0 a1 "com/example/equilibrate/equilibrate/model/Arena" "successorStart" "[I" (.ref ss)) (FC : Fld Z h0 a1 "com/example/equilibrate/equilibrate/model/Arena" "successors" "[I" (.ref sc)) (BS : Ari Z h0 ss .int 5 (lf [(0 : Int32), (1 : Int32), (2 : Int32), (3 : Int32), (4 : Int32)])) (BC : Ari Z h0 sc .int 4 (lf [(0 : Int32), (1 : Int32), (2 : Int32), (3 : Int32)])) :
    Con l (⟨"com/example/equilibrate/equilibrate/model/Arena", "getSuccessor", "(II)I"⟩ : MethodName) prog_41_method_9_code 3 (some .int) ({ frames := 0, cells := 0, slots := 0, locals := 0 } : Room) Z #[(.ref a1), (.int p2), (.int p3)] h0 n0 (fun o h => o = some (.int (1 : Int32)) ∧ h0 = h) := by
  refine Con.enter pl_gsa1 (fun mm => ef_gsa1 mm a1 p2 p3) ?_
  intro K O C H
  subst e0
  subst e1
  replace H : K 0 #[.val (.ref a1), .val (.int (1 : Int32)), .val (.int (0 : Int32))] [] h0 0 0 := H
  replace H := k_aloadN C H dgsa1_0 rfl rfl (pc' := 1) rfl
  replace H := k_getFld C H (hw _ (List.mem_of_getElem? (i := 51) rfl)) FC dgsa1_1 (pc' := 4) rfl
  replace H := k_aloadN C H dgsa1_4 rfl rfl (pc' := 5) rfl
  replace H := k_getFld C H (hw _ (List.mem_of_getElem? (i := 42) rfl)) FS dgsa1_5 (pc' := 8) rfl
  replace H := k_iloadN C H dgsa1_8 rfl (pc' := 9) rfl
  replace H := k_iaload C H BS (i := 1) (by decide) (by decide) dgsa1_9 (pc' := 10) rfl
  replace H : K 10 #[.val (.ref a1), .val (.int (1 : Int32)), .val (.int (0 : Int32))] [(.int (1 : Int32)), (.ref sc)] h0 0 0 := H
  replace H := k_iloadN C H dgsa1_10 rfl (pc' := 11) rfl
  replace H := k_iadd C H dgsa1_11 (pc' := 12) rfl
  replace H : K 12 #[.val (.ref a1), .val (.int (1 : Int32)), .val (.int (0 : Int32))] [(.int (1 : Int32)), (.ref sc)] h0 0 0 := H
  replace H := k_iaload C H BC (i := 1) (by decide) (by decide) dgsa1_12 (pc' := 13) rfl
  replace H : K 13 #[.val (.ref a1), .val (.int (1 : Int32)), .val (.int (0 : Int32))] [(.int (1 : Int32))] h0 0 0 := H
  exact k_retI C H dgsa1_13 (by decide) (by decide) ⟨rfl, rfl⟩
theorem dgs1_0 : decode prog_53_method_10_code 0 = .ok (.aload_n 0, 1) := by decide +kernel
theorem dgs1_1 : decode prog_53_method_10_code 1 = .ok (.getfield 27, 3) := by decide +kernel
theorem dgs1_4 : decode prog_53_method_10_code 4 = .ok (.iload_n 1, 1) := by decide +kernel
theorem dgs1_5 : decode prog_53_method_10_code 5 = .ok (.iload_n 2, 1) := by decide +kernel
theorem dgs1_6 : decode prog_53_method_10_code 6 = .ok (.invokevirtual 54, 3) := by decide +kernel
theorem dgs1_9 : decode prog_53_method_10_code 9 = .ok (.ireturn, 1) := by decide +kernel
theorem pdgs1_0 : parseMethodDescriptor "(II)I" = some ⟨[.int, .int], some .int⟩ := by decide +kernel
theorem pl_gs1 : plainFor (⟨"com/example/equilibrate/equilibrate/model/ParityGame", "getSuccessor", "(II)I"⟩ : MethodName) = true := plainFor_of_name (by first | (simp [plainName, overriddenIn]; done) | decide +kernel)
theorem ef_gs1 (mm : MethodId) (a1 : Addr) (p2 : Int32) (p3 : Int32) : entryFrame mm #[(.ref a1), (.int p2), (.int p3)] 3 = mkF mm 0 #[.val (.ref a1), .val (.int p2), .val (.int p3)] [] := by first | (simp [entryFrame, mkF, argsToLocals, Value.category]; done) | rfl
set_option maxRecDepth 65536 in
set_option maxHeartbeats 40000000 in
theorem rmgs1 (l : Launch) (Z : State) (a0 : Array Value) (hw : ∀ d ∈ tables_1, d.before a0 Z = true) (a1 : Addr) (p2 : Int32) (p3 : Int32) (h0 : Heap) (n0 : Nat) (e0 : (1 : Int32) = p2) (e1 : (0 : Int32) = p3) (ar pr ss sc : Addr) (FA : Fld Z h0 a1 "com/example/equilibrate/equilibrate/model/ParityGame" "arena" "Lcom/example/equilibrate/equilibrate/model/Arena;" (.ref ar)) (FP : Fld Z h0 a1 "com/example/equilibrate/equilibrate/model/ParityGame" "priorities" "[I" (.ref pr)) (AP : Ari Z h0 pr .int 4 (lf [(0 : Int32), (0 : Int32), (0 : Int32), (0 : Int32)])) (XA : Exa Z h0 ar "com/example/equilibrate/equilibrate/model/Arena") (FS : Fld Z h0 ar "com/example/equilibrate/equilibrate/model/Arena" "successorStart" "[I" (.ref ss)) (FC : Fld Z h0 ar "com/example/equilibrate/equilibrate/model/Arena" "successors" "[I" (.ref sc)) (BS : Ari Z h0 ss .int 5 (lf [(0 : Int32), (1 : Int32), (2 : Int32), (3 : Int32), (4 : Int32)])) (BC : Ari Z h0 sc .int 4 (lf [(0 : Int32), (1 : Int32), (2 : Int32), (3 : Int32)])) :
    Con l (⟨"com/example/equilibrate/equilibrate/model/ParityGame", "getSuccessor", "(II)I"⟩ : MethodName) prog_53_method_10_code 3 (some .int) ({ frames := 1, cells := 0, slots := 0, locals := 14 } : Room) Z #[(.ref a1), (.int p2), (.int p3)] h0 n0 (fun o h => o = some (.int (1 : Int32)) ∧ h0 = h) := by
  refine Con.enter pl_gs1 (fun mm => ef_gs1 mm a1 p2 p3) ?_
  intro K O C H
  subst e0
  subst e1
  replace H : K 0 #[.val (.ref a1), .val (.int (1 : Int32)), .val (.int (0 : Int32))] [] h0 0 0 := H
  replace H := k_aloadN C H dgs1_0 rfl rfl (pc' := 1) rfl
  replace H := k_getFld C H (hw _ (List.mem_of_getElem? (i := 59) rfl)) FA dgs1_1 (pc' := 4) rfl
  replace H := k_iloadN C H dgs1_4 rfl (pc' := 5) rfl
  replace H := k_iloadN C H dgs1_5 rfl (pc' := 6) rfl
  replace H := k_callVir C H (rmgsa1 l Z a0 hw ar (1 : Int32) (0 : Int32) h0 n0 rfl rfl ss sc FS FC BS BC) XA (hw _ (List.mem_of_getElem? (i := 109) rfl)) (hw _ (List.mem_of_getElem? (i := 110) rfl)) (hw _ (List.mem_of_getElem? (i := 112) rfl)) (hw _ (List.mem_of_getElem? (i := 111) rfl)) (hw _ (List.mem_of_getElem? (i := 23) rfl)) (hw _ (List.mem_of_getElem? (i := 113) rfl)) (by decide) dgs1_6 rfl [(.int (1 : Int32)), (.int (0 : Int32))] [] pdgs1_0 rfl rfl rfl 0 rfl (by decide) (by decide) (by decide) (by decide) (pc' := 9) rfl
  obtain ⟨_, _, ⟨rfl, rfl⟩, H⟩ := H
  replace H : K 9 #[.val (.ref a1), .val (.int (1 : Int32)), .val (.int (0 : Int32))] [(.int (1 : Int32))] h0 0 0 := H
  exact k_retI C H dgs1_9 (by decide) (by decide) ⟨rfl, rfl⟩
theorem dgsa2_0 : decode prog_41_method_9_code 0 = .ok (.aload_n 0, 1) := by decide +kernel
theorem dgsa2_1 : decode prog_41_method_9_code 1 = .ok (.getfield 29, 3) := by decide +kernel
theorem dgsa2_4 : decode prog_41_method_9_code 4 = .ok (.aload_n 0, 1) := by decide +kernel
theorem dgsa2_5 : decode prog_41_method_9_code 5 = .ok (.getfield 22, 3) := by decide +kernel
theorem dgsa2_8 : decode prog_41_method_9_code 8 = .ok (.iload_n 1, 1) := by decide +kernel
theorem dgsa2_9 : decode prog_41_method_9_code 9 = .ok (.iaload, 1) := by decide +kernel
theorem dgsa2_10 : decode prog_41_method_9_code 10 = .ok (.iload_n 2, 1) := by decide +kernel
theorem dgsa2_11 : decode prog_41_method_9_code 11 = .ok (.iadd, 1) := by decide +kernel
theorem dgsa2_12 : decode prog_41_method_9_code 12 = .ok (.iaload, 1) := by decide +kernel
theorem dgsa2_13 : decode prog_41_method_9_code 13 = .ok (.ireturn, 1) := by decide +kernel
theorem pl_gsa2 : plainFor (⟨"com/example/equilibrate/equilibrate/model/Arena", "getSuccessor", "(II)I"⟩ : MethodName) = true := plainFor_of_name (by first | (simp [plainName, overriddenIn]; done) | decide +kernel)
theorem ef_gsa2 (mm : MethodId) (a1 : Addr) (p2 : Int32) (p3 : Int32) : entryFrame mm #[(.ref a1), (.int p2), (.int p3)] 3 = mkF mm 0 #[.val (.ref a1), .val (.int p2), .val (.int p3)] [] := by first | (simp [entryFrame, mkF, argsToLocals, Value.category]; done) | rfl
set_option maxRecDepth 65536 in
set_option maxHeartbeats 40000000 in
theorem rmgsa2 (l : Launch) (Z : State) (a0 : Array Value) (hw : ∀ d ∈ tables_1, d.before a0 Z = true) (a1 : Addr) (p2 : Int32) (p3 : Int32) (h0 : Heap) (n0 : Nat) (e0 : (2 : Int32) = p2) (e1 : (0 : Int32) = p3) (ss sc : Addr) (FS : Fld Z h0 a1 "com/example/equilibrate/equilibrate/model/Arena" "successorStart" "[I" (.ref ss)) (FC : Fld Z h0 a1 "com/example/equilibrate/equilibrate/model/Arena" "successors" "[I" (.ref sc)) (BS : Ari Z h0 ss .int 5 (lf [(0 : Int32), (1 : Int32), (2 : Int32), (3 : Int32), (4 : Int32)])) (BC : Ari Z h0 sc .int 4 (lf [(0 : Int32), (1 : Int32), (2 : Int32), (3 : Int32)])) :
    Con l (⟨"com/example/equilibrate/equilibrate/model/Arena", "getSuccessor", "(II)I"⟩ : MethodName) prog_41_method_9_code 3 (some .int) ({ frames := 0, cells := 0, slots := 0, locals := 0 } : Room) Z #[(.ref a1), (.int p2), (.int p3)] h0 n0 (fun o h => o = some (.int (2 : Int32)) ∧ h0 = h) := by
  refine Con.enter pl_gsa2 (fun mm => ef_gsa2 mm a1 p2 p3) ?_
  intro K O C H
  subst e0
  subst e1
  replace H : K 0 #[.val (.ref a1), .val (.int (2 : Int32)), .val (.int (0 : Int32))] [] h0 0 0 := H
  replace H := k_aloadN C H dgsa2_0 rfl rfl (pc' := 1) rfl
  replace H := k_getFld C H (hw _ (List.mem_of_getElem? (i := 51) rfl)) FC dgsa2_1 (pc' := 4) rfl
  replace H := k_aloadN C H dgsa2_4 rfl rfl (pc' := 5) rfl
  replace H := k_getFld C H (hw _ (List.mem_of_getElem? (i := 42) rfl)) FS dgsa2_5 (pc' := 8) rfl
  replace H := k_iloadN C H dgsa2_8 rfl (pc' := 9) rfl
  replace H := k_iaload C H BS (i := 2) (by decide) (by decide) dgsa2_9 (pc' := 10) rfl
  replace H : K 10 #[.val (.ref a1), .val (.int (2 : Int32)), .val (.int (0 : Int32))] [(.int (2 : Int32)), (.ref sc)] h0 0 0 := H
  replace H := k_iloadN C H dgsa2_10 rfl (pc' := 11) rfl
  replace H := k_iadd C H dgsa2_11 (pc' := 12) rfl
  replace H : K 12 #[.val (.ref a1), .val (.int (2 : Int32)), .val (.int (0 : Int32))] [(.int (2 : Int32)), (.ref sc)] h0 0 0 := H
  replace H := k_iaload C H BC (i := 2) (by decide) (by decide) dgsa2_12 (pc' := 13) rfl
  replace H : K 13 #[.val (.ref a1), .val (.int (2 : Int32)), .val (.int (0 : Int32))] [(.int (2 : Int32))] h0 0 0 := H
  exact k_retI C H dgsa2_13 (by decide) (by decide) ⟨rfl, rfl⟩
theorem dgs2_0 : decode prog_53_method_10_code 0 = .ok (.aload_n 0, 1) := by decide +kernel
theorem dgs2_1 : decode prog_53_method_10_code 1 = .ok (.getfield 27, 3) := by decide +kernel
theorem dgs2_4 : decode prog_53_method_10_code 4 = .ok (.iload_n 1, 1) := by decide +kernel
theorem dgs2_5 : decode prog_53_method_10_code 5 = .ok (.iload_n 2, 1) := by decide +kernel
theorem dgs2_6 : decode prog_53_method_10_code 6 = .ok (.invokevirtual 54, 3) := by decide +kernel
theorem dgs2_9 : decode prog_53_method_10_code 9 = .ok (.ireturn, 1) := by decide +kernel
theorem pdgs2_0 : parseMethodDescriptor "(II)I" = some ⟨[.int, .int], some .int⟩ := by decide +kernel
theorem pl_gs2 : plainFor (⟨"com/example/equilibrate/equilibrate/model/ParityGame", "getSuccessor", "(II)I"⟩ : MethodName) = true := plainFor_of_name (by first | (simp [plainName, overriddenIn]; done) | decide +kernel)
theorem ef_gs2 (mm : MethodId) (a1 : Addr) (p2 : Int32) (p3 : Int32) : entryFrame mm #[(.ref a1), (.int p2), (.int p3)] 3 = mkF mm 0 #[.val (.ref a1), .val (.int p2), .val (.int p3)] [] := by first | (simp [entryFrame, mkF, argsToLocals, Value.category]; done) | rfl
set_option maxRecDepth 65536 in
set_option maxHeartbeats 40000000 in
theorem rmgs2 (l : Launch) (Z : State) (a0 : Array Value) (hw : ∀ d ∈ tables_1, d.before a0 Z = true) (a1 : Addr) (p2 : Int32) (p3 : Int32) (h0 : Heap) (n0 : Nat) (e0 : (2 : Int32) = p2) (e1 : (0 : Int32) = p3) (ar pr ss sc : Addr) (FA : Fld Z h0 a1 "com/example/equilibrate/equilibrate/model/ParityGame" "arena" "Lcom/example/equilibrate/equilibrate/model/Arena;" (.ref ar)) (FP : Fld Z h0 a1 "com/example/equilibrate/equilibrate/model/ParityGame" "priorities" "[I" (.ref pr)) (AP : Ari Z h0 pr .int 4 (lf [(0 : Int32), (0 : Int32), (0 : Int32), (0 : Int32)])) (XA : Exa Z h0 ar "com/example/equilibrate/equilibrate/model/Arena") (FS : Fld Z h0 ar "com/example/equilibrate/equilibrate/model/Arena" "successorStart" "[I" (.ref ss)) (FC : Fld Z h0 ar "com/example/equilibrate/equilibrate/model/Arena" "successors" "[I" (.ref sc)) (BS : Ari Z h0 ss .int 5 (lf [(0 : Int32), (1 : Int32), (2 : Int32), (3 : Int32), (4 : Int32)])) (BC : Ari Z h0 sc .int 4 (lf [(0 : Int32), (1 : Int32), (2 : Int32), (3 : Int32)])) :
    Con l (⟨"com/example/equilibrate/equilibrate/model/ParityGame", "getSuccessor", "(II)I"⟩ : MethodName) prog_53_method_10_code 3 (some .int) ({ frames := 1, cells := 0, slots := 0, locals := 14 } : Room) Z #[(.ref a1), (.int p2), (.int p3)] h0 n0 (fun o h => o = some (.int (2 : Int32)) ∧ h0 = h) := by
  refine Con.enter pl_gs2 (fun mm => ef_gs2 mm a1 p2 p3) ?_
  intro K O C H
  subst e0
  subst e1
  replace H : K 0 #[.val (.ref a1), .val (.int (2 : Int32)), .val (.int (0 : Int32))] [] h0 0 0 := H
  replace H := k_aloadN C H dgs2_0 rfl rfl (pc' := 1) rfl
  replace H := k_getFld C H (hw _ (List.mem_of_getElem? (i := 59) rfl)) FA dgs2_1 (pc' := 4) rfl
  replace H := k_iloadN C H dgs2_4 rfl (pc' := 5) rfl
  replace H := k_iloadN C H dgs2_5 rfl (pc' := 6) rfl
  replace H := k_callVir C H (rmgsa2 l Z a0 hw ar (2 : Int32) (0 : Int32) h0 n0 rfl rfl ss sc FS FC BS BC) XA (hw _ (List.mem_of_getElem? (i := 109) rfl)) (hw _ (List.mem_of_getElem? (i := 110) rfl)) (hw _ (List.mem_of_getElem? (i := 112) rfl)) (hw _ (List.mem_of_getElem? (i := 111) rfl)) (hw _ (List.mem_of_getElem? (i := 23) rfl)) (hw _ (List.mem_of_getElem? (i := 113) rfl)) (by decide) dgs2_6 rfl [(.int (2 : Int32)), (.int (0 : Int32))] [] pdgs2_0 rfl rfl rfl 0 rfl (by decide) (by decide) (by decide) (by decide) (pc' := 9) rfl
  obtain ⟨_, _, ⟨rfl, rfl⟩, H⟩ := H
  replace H : K 9 #[.val (.ref a1), .val (.int (2 : Int32)), .val (.int (0 : Int32))] [(.int (2 : Int32))] h0 0 0 := H
  exact k_retI C H dgs2_9 (by decide) (by decide) ⟨rfl, rfl⟩
theorem dgsa3_0 : decode prog_41_method_9_code 0 = .ok (.aload_n 0, 1) := by decide +kernel
theorem dgsa3_1 : decode prog_41_method_9_code 1 = .ok (.getfield 29, 3) := by decide +kernel
theorem dgsa3_4 : decode prog_41_method_9_code 4 = .ok (.aload_n 0, 1) := by decide +kernel
theorem dgsa3_5 : decode prog_41_method_9_code 5 = .ok (.getfield 22, 3) := by decide +kernel
theorem dgsa3_8 : decode prog_41_method_9_code 8 = .ok (.iload_n 1, 1) := by decide +kernel
theorem dgsa3_9 : decode prog_41_method_9_code 9 = .ok (.iaload, 1) := by decide +kernel
theorem dgsa3_10 : decode prog_41_method_9_code 10 = .ok (.iload_n 2, 1) := by decide +kernel
theorem dgsa3_11 : decode prog_41_method_9_code 11 = .ok (.iadd, 1) := by decide +kernel
theorem dgsa3_12 : decode prog_41_method_9_code 12 = .ok (.iaload, 1) := by decide +kernel
theorem dgsa3_13 : decode prog_41_method_9_code 13 = .ok (.ireturn, 1) := by decide +kernel
theorem pl_gsa3 : plainFor (⟨"com/example/equilibrate/equilibrate/model/Arena", "getSuccessor", "(II)I"⟩ : MethodName) = true := plainFor_of_name (by first | (simp [plainName, overriddenIn]; done) | decide +kernel)
theorem ef_gsa3 (mm : MethodId) (a1 : Addr) (p2 : Int32) (p3 : Int32) : entryFrame mm #[(.ref a1), (.int p2), (.int p3)] 3 = mkF mm 0 #[.val (.ref a1), .val (.int p2), .val (.int p3)] [] := by first | (simp [entryFrame, mkF, argsToLocals, Value.category]; done) | rfl
set_option maxRecDepth 65536 in
set_option maxHeartbeats 40000000 in
theorem rmgsa3 (l : Launch) (Z : State) (a0 : Array Value) (hw : ∀ d ∈ tables_1, d.before a0 Z = true) (a1 : Addr) (p2 : Int32) (p3 : Int32) (h0 : Heap) (n0 : Nat) (e0 : (3 : Int32) = p2) (e1 : (0 : Int32) = p3) (ss sc : Addr) (FS : Fld Z h0 a1 "com/example/equilibrate/equilibrate/model/Arena" "successorStart" "[I" (.ref ss)) (FC : Fld Z h0 a1 "com/example/equilibrate/equilibrate/model/Arena" "successors" "[I" (.ref sc)) (BS : Ari Z h0 ss .int 5 (lf [(0 : Int32), (1 : Int32), (2 : Int32), (3 : Int32), (4 : Int32)])) (BC : Ari Z h0 sc .int 4 (lf [(0 : Int32), (1 : Int32), (2 : Int32), (3 : Int32)])) :
    Con l (⟨"com/example/equilibrate/equilibrate/model/Arena", "getSuccessor", "(II)I"⟩ : MethodName) prog_41_method_9_code 3 (some .int) ({ frames := 0, cells := 0, slots := 0, locals := 0 } : Room) Z #[(.ref a1), (.int p2), (.int p3)] h0 n0 (fun o h => o = some (.int (3 : Int32)) ∧ h0 = h) := by
  refine Con.enter pl_gsa3 (fun mm => ef_gsa3 mm a1 p2 p3) ?_
  intro K O C H
  subst e0
  subst e1
  replace H : K 0 #[.val (.ref a1), .val (.int (3 : Int32)), .val (.int (0 : Int32))] [] h0 0 0 := H
  replace H := k_aloadN C H dgsa3_0 rfl rfl (pc' := 1) rfl
  replace H := k_getFld C H (hw _ (List.mem_of_getElem? (i := 51) rfl)) FC dgsa3_1 (pc' := 4) rfl
  replace H := k_aloadN C H dgsa3_4 rfl rfl (pc' := 5) rfl
  replace H := k_getFld C H (hw _ (List.mem_of_getElem? (i := 42) rfl)) FS dgsa3_5 (pc' := 8) rfl
  replace H := k_iloadN C H dgsa3_8 rfl (pc' := 9) rfl
  replace H := k_iaload C H BS (i := 3) (by decide) (by decide) dgsa3_9 (pc' := 10) rfl
  replace H : K 10 #[.val (.ref a1), .val (.int (3 : Int32)), .val (.int (0 : Int32))] [(.int (3 : Int32)), (.ref sc)] h0 0 0 := H
  replace H := k_iloadN C H dgsa3_10 rfl (pc' := 11) rfl
  replace H := k_iadd C H dgsa3_11 (pc' := 12) rfl
  replace H : K 12 #[.val (.ref a1), .val (.int (3 : Int32)), .val (.int (0 : Int32))] [(.int (3 : Int32)), (.ref sc)] h0 0 0 := H
  replace H := k_iaload C H BC (i := 3) (by decide) (by decide) dgsa3_12 (pc' := 13) rfl
  replace H : K 13 #[.val (.ref a1), .val (.int (3 : Int32)), .val (.int (0 : Int32))] [(.int (3 : Int32))] h0 0 0 := H
  exact k_retI C H dgsa3_13 (by decide) (by decide) ⟨rfl, rfl⟩
theorem dgs3_0 : decode prog_53_method_10_code 0 = .ok (.aload_n 0, 1) := by decide +kernel
theorem dgs3_1 : decode prog_53_method_10_code 1 = .ok (.getfield 27, 3) := by decide +kernel
theorem dgs3_4 : decode prog_53_method_10_code 4 = .ok (.iload_n 1, 1) := by decide +kernel
theorem dgs3_5 : decode prog_53_method_10_code 5 = .ok (.iload_n 2, 1) := by decide +kernel
theorem dgs3_6 : decode prog_53_method_10_code 6 = .ok (.invokevirtual 54, 3) := by decide +kernel
theorem dgs3_9 : decode prog_53_method_10_code 9 = .ok (.ireturn, 1) := by decide +kernel
theorem pdgs3_0 : parseMethodDescriptor "(II)I" = some ⟨[.int, .int], some .int⟩ := by decide +kernel
theorem pl_gs3 : plainFor (⟨"com/example/equilibrate/equilibrate/model/ParityGame", "getSuccessor", "(II)I"⟩ : MethodName) = true := plainFor_of_name (by first | (simp [plainName, overriddenIn]; done) | decide +kernel)
theorem ef_gs3 (mm : MethodId) (a1 : Addr) (p2 : Int32) (p3 : Int32) : entryFrame mm #[(.ref a1), (.int p2), (.int p3)] 3 = mkF mm 0 #[.val (.ref a1), .val (.int p2), .val (.int p3)] [] := by first | (simp [entryFrame, mkF, argsToLocals, Value.category]; done) | rfl
set_option maxRecDepth 65536 in
set_option maxHeartbeats 40000000 in
theorem rmgs3 (l : Launch) (Z : State) (a0 : Array Value) (hw : ∀ d ∈ tables_1, d.before a0 Z = true) (a1 : Addr) (p2 : Int32) (p3 : Int32) (h0 : Heap) (n0 : Nat) (e0 : (3 : Int32) = p2) (e1 : (0 : Int32) = p3) (ar pr ss sc : Addr) (FA : Fld Z h0 a1 "com/example/equilibrate/equilibrate/model/ParityGame" "arena" "Lcom/example/equilibrate/equilibrate/model/Arena;" (.ref ar)) (FP : Fld Z h0 a1 "com/example/equilibrate/equilibrate/model/ParityGame" "priorities" "[I" (.ref pr)) (AP : Ari Z h0 pr .int 4 (lf [(0 : Int32), (0 : Int32), (0 : Int32), (0 : Int32)])) (XA : Exa Z h0 ar "com/example/equilibrate/equilibrate/model/Arena") (FS : Fld Z h0 ar "com/example/equilibrate/equilibrate/model/Arena" "successorStart" "[I" (.ref ss)) (FC : Fld Z h0 ar "com/example/equilibrate/equilibrate/model/Arena" "successors" "[I" (.ref sc)) (BS : Ari Z h0 ss .int 5 (lf [(0 : Int32), (1 : Int32), (2 : Int32), (3 : Int32), (4 : Int32)])) (BC : Ari Z h0 sc .int 4 (lf [(0 : Int32), (1 : Int32), (2 : Int32), (3 : Int32)])) :
    Con l (⟨"com/example/equilibrate/equilibrate/model/ParityGame", "getSuccessor", "(II)I"⟩ : MethodName) prog_53_method_10_code 3 (some .int) ({ frames := 1, cells := 0, slots := 0, locals := 14 } : Room) Z #[(.ref a1), (.int p2), (.int p3)] h0 n0 (fun o h => o = some (.int (3 : Int32)) ∧ h0 = h) := by
  refine Con.enter pl_gs3 (fun mm => ef_gs3 mm a1 p2 p3) ?_
  intro K O C H
  subst e0
  subst e1
  replace H : K 0 #[.val (.ref a1), .val (.int (3 : Int32)), .val (.int (0 : Int32))] [] h0 0 0 := H
  replace H := k_aloadN C H dgs3_0 rfl rfl (pc' := 1) rfl
  replace H := k_getFld C H (hw _ (List.mem_of_getElem? (i := 59) rfl)) FA dgs3_1 (pc' := 4) rfl
  replace H := k_iloadN C H dgs3_4 rfl (pc' := 5) rfl
  replace H := k_iloadN C H dgs3_5 rfl (pc' := 6) rfl
  replace H := k_callVir C H (rmgsa3 l Z a0 hw ar (3 : Int32) (0 : Int32) h0 n0 rfl rfl ss sc FS FC BS BC) XA (hw _ (List.mem_of_getElem? (i := 109) rfl)) (hw _ (List.mem_of_getElem? (i := 110) rfl)) (hw _ (List.mem_of_getElem? (i := 112) rfl)) (hw _ (List.mem_of_getElem? (i := 111) rfl)) (hw _ (List.mem_of_getElem? (i := 23) rfl)) (hw _ (List.mem_of_getElem? (i := 113) rfl)) (by decide) dgs3_6 rfl [(.int (3 : Int32)), (.int (0 : Int32))] [] pdgs3_0 rfl rfl rfl 0 rfl (by decide) (by decide) (by decide) (by decide) (pc' := 9) rfl
  obtain ⟨_, _, ⟨rfl, rfl⟩, H⟩ := H
  replace H : K 9 #[.val (.ref a1), .val (.int (3 : Int32)), .val (.int (0 : Int32))] [(.int (3 : Int32))] h0 0 0 := H
  exact k_retI C H dgs3_9 (by decide) (by decide) ⟨rfl, rfl⟩
theorem dO_0 : decode jdk_65_method_123_code 0 = .ok (.iload_n 1, 1) := by decide +kernel
theorem dO_1 : decode jdk_65_method_123_code 1 = .ok (.aload_n 0, 1) := by decide +kernel
theorem dO_2 : decode jdk_65_method_123_code 2 = .ok (.arraylength, 1) := by decide +kernel
theorem dO_3 : decode jdk_65_method_123_code 3 = .ok (.if_icmp .ne 11, 3) := by decide +kernel
theorem dO_14 : decode jdk_65_method_123_code 14 = .ok (.iload_n 1, 1) := by decide +kernel
theorem dO_15 : decode jdk_65_method_123_code 15 = .ok (.newarray .int, 2) := by decide +kernel
theorem dO_17 : decode jdk_65_method_123_code 17 = .ok (.astore_n 2, 1) := by decide +kernel
theorem dO_18 : decode jdk_65_method_123_code 18 = .ok (.aload_n 0, 1) := by decide +kernel
theorem dO_19 : decode jdk_65_method_123_code 19 = .ok (.iconst 0, 1) := by decide +kernel
theorem dO_20 : decode jdk_65_method_123_code 20 = .ok (.aload_n 2, 1) := by decide +kernel
theorem dO_21 : decode jdk_65_method_123_code 21 = .ok (.iconst 0, 1) := by decide +kernel
theorem dO_22 : decode jdk_65_method_123_code 22 = .ok (.aload_n 0, 1) := by decide +kernel
theorem dO_23 : decode jdk_65_method_123_code 23 = .ok (.arraylength, 1) := by decide +kernel
theorem dO_24 : decode jdk_65_method_123_code 24 = .ok (.iload_n 1, 1) := by decide +kernel
theorem dO_25 : decode jdk_65_method_123_code 25 = .ok (.invokestatic 304, 3) := by decide +kernel
theorem dO_28 : decode jdk_65_method_123_code 28 = .ok (.invokestatic 150, 3) := by decide +kernel
theorem dO_31 : decode jdk_65_method_123_code 31 = .ok (.aload_n 2, 1) := by decide +kernel
theorem dO_32 : decode jdk_65_method_123_code 32 = .ok (.areturn, 1) := by decide +kernel
theorem pdO_0 : parseMethodDescriptor "(II)I" = some ⟨[.int, .int], some .int⟩ := by decide +kernel
theorem pl_O : plainFor (⟨"java/util/Arrays", "copyOf", "([II)[I"⟩ : MethodName) = true := plainFor_of_name (by first | (simp [plainName, overriddenIn]; done) | decide +kernel)
theorem ef_O (mm : MethodId) (a1 : Addr) (p2 : Int32) : entryFrame mm #[(.ref a1), (.int p2)] 3 = mkF mm 0 #[.val (.ref a1), .val (.int p2), .unset] [] := by first | (simp [entryFrame, mkF, argsToLocals, Value.category]; done) | rfl
set_option maxRecDepth 65536 in
set_option maxHeartbeats 40000000 in
theorem rmO (l : Launch) (Z : State) (a0 : Array Value) (hw : ∀ d ∈ tables_1, d.before a0 Z = true) (a1 : Addr) (p2 : Int32) (h0 : Heap) (n0 : Nat) (e4 : (4 : Int32) = p2) (Z0 : n0 ≤ h0.size) (A : Ari Z h0 a1 .int 5 (lf [(0 : Int32), (1 : Int32), (2 : Int32), (3 : Int32), (4 : Int32)])) :
    Con l (⟨"java/util/Arrays", "copyOf", "([II)[I"⟩ : MethodName) jdk_65_method_123_code 3 (some (.array .int)) ({ frames := 1, cells := 1, slots := 4, locals := 40 } : Room) Z #[(.ref a1), (.int p2)] h0 n0 (fun o h => ∃ b, o = some (.ref b) ∧ h0.size ≤ b ∧ Keep h0 h [] ∧ Ari Z h b .int 4 (lf [(0 : Int32), (1 : Int32), (2 : Int32), (3 : Int32)])) := by
  refine Con.enter pl_O (fun mm => ef_O mm a1 p2) ?_
  intro K O C H
  subst e4
  replace H : K 0 #[.val (.ref a1), .val (.int (4 : Int32)), .unset] [] h0 0 0 := H
  have KK : Keep h0 h0 [] := Keep.refl h0 _
  replace H := k_iloadN C H dO_0 rfl (pc' := 1) rfl
  replace H := k_aloadN C H dO_1 rfl rfl (pc' := 2) rfl
  replace H := k_arrlen C H A dO_2 (pc' := 3) rfl
  replace H : K 3 #[.val (.ref a1), .val (.int (4 : Int32)), .unset] [(.int (5 : Int32)), (.int (4 : Int32))] h0 0 0 := H
  replace H := k_icmpY C H dO_3 (feq (by decide : ¬ ((4 : Int32) = (5 : Int32)))).2 (by decide) (pc' := 14) rfl
  replace H := k_iloadN C H dO_14 rfl (pc' := 15) rfl
  replace H := k_newArr C H (hw _ (List.mem_of_getElem? (i := 8) rfl)) dO_15 (by decide) (cap := 4) (by decide) (by decide) (by decide) (by decide) (pc' := 17) rfl
  obtain ⟨h_b, b, c_b, g_b, E_b, A_b, H⟩ := H
  replace H : K 17 #[.val (.ref a1), .val (.int (4 : Int32)), .unset] [(.ref b)] h_b 1 4 := H
  have ne_a1_b : a1 ≠ b := Nat.ne_of_lt (Nat.lt_of_lt_of_le A.lt (Nat.le_of_eq g_b.symm))
  have n_b : n0 ≤ b := Nat.le_trans Z0 (Nat.le_of_eq g_b.symm)
  have s_b : h0.size ≤ b := Nat.le_trans KK.1 (Nat.le_of_eq g_b.symm)
  replace A := A.ext E_b
  replace KK := KK.ext E_b
  have Z_h_b : n0 ≤ h_b.size := Nat.le_trans Z0 E_b.1
  have V_b : Ari Z h_b b .int 4 (lf [(0 : Int32), (0 : Int32), (0 : Int32), (0 : Int32)]) := (Ari.ofNew A_b (by decide) rfl).congr (fun k hk => by match k, hk with | 0, _ => rfl | 1, _ => rfl | 2, _ => rfl | 3, _ => rfl)
  replace H := k_astoreN C H dO_17 (L' := #[.val (.ref a1), .val (.int (4 : Int32)), .val (.ref b)]) rfl rfl (pc' := 18) rfl
  replace H := k_aloadN C H dO_18 rfl rfl (pc' := 19) rfl
  replace H := k_iconst C H (v := 0) dO_19 rfl (pc' := 20) rfl
  replace H := k_aloadN C H dO_20 rfl rfl (pc' := 21) rfl
  replace H := k_iconst C H (v := 0) dO_21 rfl (pc' := 22) rfl
  replace H := k_aloadN C H dO_22 rfl rfl (pc' := 23) rfl
  replace H := k_arrlen C H A dO_23 (pc' := 24) rfl
  replace H : K 24 #[.val (.ref a1), .val (.int (4 : Int32)), .val (.ref b)] [(.int (5 : Int32)), (.int (0 : Int32)), (.ref b), (.int (0 : Int32)), (.ref a1)] h_b 1 4 := H
  replace H := k_iloadN C H dO_24 rfl (pc' := 25) rfl
  replace H := k_callSta C H (rm1 l Z a0 hw (5 : Int32) (4 : Int32) h_b n0) (hw _ (List.mem_of_getElem? (i := 118) rfl)) (hw _ (List.mem_of_getElem? (i := 2) rfl)) (hw _ (List.mem_of_getElem? (i := 3) rfl)) (hw _ (List.mem_of_getElem? (i := 4) rfl)) (by decide) dO_25 rfl [(.int (5 : Int32)), (.int (4 : Int32))] [(.int (0 : Int32)), (.ref b), (.int (0 : Int32)), (.ref a1)] pdO_0 rfl rfl rfl 4 rfl (by decide) (by decide) (by decide) (by decide) (pc' := 28) rfl
  obtain ⟨_, _, ⟨rfl, rfl⟩, H⟩ := H
  replace H : K 28 #[.val (.ref a1), .val (.int (4 : Int32)), .val (.ref b)] [(.int (4 : Int32)), (.int (0 : Int32)), (.ref b), (.int (0 : Int32)), (.ref a1)] h_b 1 4 := H
  replace H := k_copyI C H A V_b (sp := 0) (dp := 0) (nn := 4) (by decide) (by decide) (by decide) (by decide) (by decide) n_b (hw _ (List.mem_of_getElem? (i := 119) rfl)) (hw _ (List.mem_of_getElem? (i := 50) rfl)) (hw _ (List.mem_of_getElem? (i := 48) rfl)) (hw _ (List.mem_of_getElem? (i := 49) rfl)) dO_28 rfl (by decide) 0 rfl (by decide) (pc' := 31) rfl
  obtain ⟨hc, K_hc, V_b, H⟩ := H
  replace V_b : Ari Z hc b .int 4 (lf [(0 : Int32), (1 : Int32), (2 : Int32), (3 : Int32)]) := V_b.congr (fun k hk => by match k, hk with | 0, _ => rfl | 1, _ => rfl | 2, _ => rfl | 3, _ => rfl)
  replace A := A.keep K_hc (ninS ne_a1_b nin0)
  have Z_hc : n0 ≤ hc.size := Nat.le_trans Z_h_b K_hc.1
  replace KK := KK.trans K_hc (allS (Or.inr s_b) all0)
  replace H := k_aloadN C H dO_31 rfl rfl (pc' := 32) rfl
  exact k_retA C H dO_32 rfl rfl (by decide) (by decide) ⟨b, rfl, s_b, KK, V_b⟩
theorem dP_0 : decode prog_56_method_1_code 0 = .ok (.aload_n 0, 1) := by decide +kernel
theorem dP_1 : decode prog_56_method_1_code 1 = .ok (.invokespecial 1, 3) := by decide +kernel
theorem dP_4 : decode prog_56_method_1_code 4 = .ok (.aload_n 1, 1) := by decide +kernel
theorem dP_5 : decode prog_56_method_1_code 5 = .ok (.invokevirtual 7, 3) := by decide +kernel
theorem dP_8 : decode prog_56_method_1_code 8 = .ok (.istore_n 2, 1) := by decide +kernel
theorem dP_9 : decode prog_56_method_1_code 9 = .ok (.aload_n 0, 1) := by decide +kernel
theorem dP_10 : decode prog_56_method_1_code 10 = .ok (.iload_n 2, 1) := by decide +kernel
theorem dP_11 : decode prog_56_method_1_code 11 = .ok (.iconst 1, 1) := by decide +kernel
theorem dP_12 : decode prog_56_method_1_code 12 = .ok (.iadd, 1) := by decide +kernel
theorem dP_13 : decode prog_56_method_1_code 13 = .ok (.newarray .int, 2) := by decide +kernel
theorem dP_15 : decode prog_56_method_1_code 15 = .ok (.putfield 13, 3) := by decide +kernel
theorem dP_18 : decode prog_56_method_1_code 18 = .ok (.aload_n 0, 1) := by decide +kernel
theorem dP_19 : decode prog_56_method_1_code 19 = .ok (.aload_n 1, 1) := by decide +kernel
theorem dP_20 : decode prog_56_method_1_code 20 = .ok (.invokevirtual 19, 3) := by decide +kernel
theorem dP_23 : decode prog_56_method_1_code 23 = .ok (.newarray .int, 2) := by decide +kernel
theorem dP_25 : decode prog_56_method_1_code 25 = .ok (.putfield 22, 3) := by decide +kernel
theorem dP_28 : decode prog_56_method_1_code 28 = .ok (.iconst 0, 1) := by decide +kernel
theorem dP_29 : decode prog_56_method_1_code 29 = .ok (.istore_n 3, 1) := by decide +kernel
theorem dP_30 : decode prog_56_method_1_code 30 = .ok (.iload_n 3, 1) := by decide +kernel
theorem dP_31 : decode prog_56_method_1_code 31 = .ok (.iload_n 2, 1) := by decide +kernel
theorem dP_32 : decode prog_56_method_1_code 32 = .ok (.if_icmp .ge 46, 3) := by decide +kernel
theorem dP_35 : decode prog_56_method_1_code 35 = .ok (.iconst 0, 1) := by decide +kernel
theorem dP_36 : decode prog_56_method_1_code 36 = .ok (.istore 4, 2) := by decide +kernel
theorem dP_38 : decode prog_56_method_1_code 38 = .ok (.iload 4, 2) := by decide +kernel
theorem dP_40 : decode prog_56_method_1_code 40 = .ok (.aload_n 1, 1) := by decide +kernel
theorem dP_41 : decode prog_56_method_1_code 41 = .ok (.iload_n 3, 1) := by decide +kernel
theorem dP_42 : decode prog_56_method_1_code 42 = .ok (.invokevirtual 25, 3) := by decide +kernel
theorem dP_45 : decode prog_56_method_1_code 45 = .ok (.if_icmp .ge 27, 3) := by decide +kernel
theorem dP_48 : decode prog_56_method_1_code 48 = .ok (.aload_n 0, 1) := by decide +kernel
theorem dP_49 : decode prog_56_method_1_code 49 = .ok (.getfield 13, 3) := by decide +kernel
theorem dP_52 : decode prog_56_method_1_code 52 = .ok (.aload_n 1, 1) := by decide +kernel
theorem dP_53 : decode prog_56_method_1_code 53 = .ok (.iload_n 3, 1) := by decide +kernel
theorem dP_54 : decode prog_56_method_1_code 54 = .ok (.iload 4, 2) := by decide +kernel
theorem dP_56 : decode prog_56_method_1_code 56 = .ok (.invokevirtual 29, 3) := by decide +kernel
theorem dP_59 : decode prog_56_method_1_code 59 = .ok (.iconst 1, 1) := by decide +kernel
theorem dP_60 : decode prog_56_method_1_code 60 = .ok (.iadd, 1) := by decide +kernel
theorem dP_61 : decode prog_56_method_1_code 61 = .ok (.dup2, 1) := by decide +kernel
theorem dP_62 : decode prog_56_method_1_code 62 = .ok (.iaload, 1) := by decide +kernel
theorem dP_63 : decode prog_56_method_1_code 63 = .ok (.iconst 1, 1) := by decide +kernel
theorem dP_64 : decode prog_56_method_1_code 64 = .ok (.iadd, 1) := by decide +kernel
theorem dP_65 : decode prog_56_method_1_code 65 = .ok (.iastore, 1) := by decide +kernel
theorem dP_66 : decode prog_56_method_1_code 66 = .ok (.iinc 4 1, 3) := by decide +kernel
theorem dP_69 : decode prog_56_method_1_code 69 = .ok (.goto (-31), 3) := by decide +kernel
theorem dP_72 : decode prog_56_method_1_code 72 = .ok (.iinc 3 1, 3) := by decide +kernel
theorem dP_75 : decode prog_56_method_1_code 75 = .ok (.goto (-45), 3) := by decide +kernel
theorem dP_78 : decode prog_56_method_1_code 78 = .ok (.iconst 0, 1) := by decide +kernel
theorem dP_79 : decode prog_56_method_1_code 79 = .ok (.istore_n 3, 1) := by decide +kernel
theorem dP_80 : decode prog_56_method_1_code 80 = .ok (.iload_n 3, 1) := by decide +kernel
theorem dP_81 : decode prog_56_method_1_code 81 = .ok (.iload_n 2, 1) := by decide +kernel
theorem dP_82 : decode prog_56_method_1_code 82 = .ok (.if_icmp .ge 26, 3) := by decide +kernel
theorem dP_85 : decode prog_56_method_1_code 85 = .ok (.aload_n 0, 1) := by decide +kernel
theorem dP_86 : decode prog_56_method_1_code 86 = .ok (.getfield 13, 3) := by decide +kernel
theorem dP_89 : decode prog_56_method_1_code 89 = .ok (.iload_n 3, 1) := by decide +kernel
theorem dP_90 : decode prog_56_method_1_code 90 = .ok (.iconst 1, 1) := by decide +kernel
theorem dP_91 : decode prog_56_method_1_code 91 = .ok (.iadd, 1) := by decide +kernel
theorem dP_92 : decode prog_56_method_1_code 92 = .ok (.dup2, 1) := by decide +kernel
theorem dP_93 : decode prog_56_method_1_code 93 = .ok (.iaload, 1) := by decide +kernel
theorem dP_94 : decode prog_56_method_1_code 94 = .ok (.aload_n 0, 1) := by decide +kernel
theorem dP_95 : decode prog_56_method_1_code 95 = .ok (.getfield 13, 3) := by decide +kernel
theorem dP_98 : decode prog_56_method_1_code 98 = .ok (.iload_n 3, 1) := by decide +kernel
theorem dP_99 : decode prog_56_method_1_code 99 = .ok (.iaload, 1) := by decide +kernel
theorem dP_100 : decode prog_56_method_1_code 100 = .ok (.iadd, 1) := by decide +kernel
theorem dP_101 : decode prog_56_method_1_code 101 = .ok (.iastore, 1) := by decide +kernel
theorem dP_102 : decode prog_56_method_1_code 102 = .ok (.iinc 3 1, 3) := by decide +kernel
theorem dP_105 : decode prog_56_method_1_code 105 = .ok (.goto (-25), 3) := by decide +kernel
theorem dP_108 : decode prog_56_method_1_code 108 = .ok (.aload_n 0, 1) := by decide +kernel
theorem dP_109 : decode prog_56_method_1_code 109 = .ok (.getfield 13, 3) := by decide +kernel
theorem dP_112 : decode prog_56_method_1_code 112 = .ok (.iload_n 2, 1) := by decide +kernel
theorem dP_113 : decode prog_56_method_1_code 113 = .ok (.invokestatic 33, 3) := by decide +kernel
theorem dP_116 : decode prog_56_method_1_code 116 = .ok (.astore_n 3, 1) := by decide +kernel
theorem dP_117 : decode prog_56_method_1_code 117 = .ok (.iconst 0, 1) := by decide +kernel
theorem dP_118 : decode prog_56_method_1_code 118 = .ok (.istore 4, 2) := by decide +kernel
theorem dP_120 : decode prog_56_method_1_code 120 = .ok (.iload 4, 2) := by decide +kernel
theorem dP_122 : decode prog_56_method_1_code 122 = .ok (.iload_n 2, 1) := by decide +kernel
theorem dP_123 : decode prog_56_method_1_code 123 = .ok (.if_icmp .ge 51, 3) := by decide +kernel
theorem dP_126 : decode prog_56_method_1_code 126 = .ok (.iconst 0, 1) := by decide +kernel
theorem dP_127 : decode prog_56_method_1_code 127 = .ok (.istore 5, 2) := by decide +kernel
theorem dP_129 : decode prog_56_method_1_code 129 = .ok (.iload 5, 2) := by decide +kernel
theorem dP_131 : decode prog_56_method_1_code 131 = .ok (.aload_n 1, 1) := by decide +kernel
theorem dP_132 : decode prog_56_method_1_code 132 = .ok (.iload 4, 2) := by decide +kernel
theorem dP_134 : decode prog_56_method_1_code 134 = .ok (.invokevirtual 25, 3) := by decide +kernel
theorem dP_137 : decode prog_56_method_1_code 137 = .ok (.if_icmp .ge 31, 3) := by decide +kernel
theorem dP_140 : decode prog_56_method_1_code 140 = .ok (.aload_n 0, 1) := by decide +kernel
theorem dP_141 : decode prog_56_method_1_code 141 = .ok (.getfield 22, 3) := by decide +kernel
theorem dP_144 : decode prog_56_method_1_code 144 = .ok (.aload_n 3, 1) := by decide +kernel
theorem dP_145 : decode prog_56_method_1_code 145 = .ok (.aload_n 1, 1) := by decide +kernel
theorem dP_146 : decode prog_56_method_1_code 146 = .ok (.iload 4, 2) := by decide +kernel
theorem dP_148 : decode prog_56_method_1_code 148 = .ok (.iload 5, 2) := by decide +kernel
theorem dP_150 : decode prog_56_method_1_code 150 = .ok (.invokevirtual 29, 3) := by decide +kernel
theorem dP_153 : decode prog_56_method_1_code 153 = .ok (.dup2, 1) := by decide +kernel
theorem dP_154 : decode prog_56_method_1_code 154 = .ok (.iaload, 1) := by decide +kernel
theorem dP_155 : decode prog_56_method_1_code 155 = .ok (.dup_x2, 1) := by decide +kernel
theorem dP_156 : decode prog_56_method_1_code 156 = .ok (.iconst 1, 1) := by decide +kernel
theorem dP_157 : decode prog_56_method_1_code 157 = .ok (.iadd, 1) := by decide +kernel
theorem dP_158 : decode prog_56_method_1_code 158 = .ok (.iastore, 1) := by decide +kernel
theorem dP_159 : decode prog_56_method_1_code 159 = .ok (.iload 4, 2) := by decide +kernel
theorem dP_161 : decode prog_56_method_1_code 161 = .ok (.iastore, 1) := by decide +kernel
theorem dP_162 : decode prog_56_method_1_code 162 = .ok (.iinc 5 1, 3) := by decide +kernel
theorem dP_165 : decode prog_56_method_1_code 165 = .ok (.goto (-36), 3) := by decide +kernel
theorem dP_168 : decode prog_56_method_1_code 168 = .ok (.iinc 4 1, 3) := by decide +kernel
theorem dP_171 : decode prog_56_method_1_code 171 = .ok (.goto (-51), 3) := by decide +kernel
theorem dP_174 : decode prog_56_method_1_code 174 = .ok (.return_, 1) := by decide +kernel
theorem pdP_0 : parseMethodDescriptor "()I" = some ⟨[], some .int⟩ := by decide +kernel
theorem pdP_1 : parseMethodDescriptor "(I)I" = some ⟨[.int], some .int⟩ := by decide +kernel
theorem pdP_2 : parseMethodDescriptor "(II)I" = some ⟨[.int, .int], some .int⟩ := by decide +kernel
theorem pdP_3 : parseMethodDescriptor "([II)[I" = some ⟨[(.array .int), .int], some (.array .int)⟩ := by decide +kernel
theorem pl_P : plainFor (⟨"com/example/equilibrate/equilibrate/solver/Predecessors", "<init>", "(Lcom/example/equilibrate/equilibrate/model/ParityGame;)V"⟩ : MethodName) = true := plainFor_of_name (by first | (simp [plainName, overriddenIn]; done) | decide +kernel)
theorem ef_P (mm : MethodId) (a1 : Addr) (a2 : Addr) : entryFrame mm #[(.ref a1), (.ref a2)] 6 = mkF mm 0 #[.val (.ref a1), .val (.ref a2), .unset, .unset, .unset, .unset] [] := by first | (simp [entryFrame, mkF, argsToLocals, Value.category]; done) | rfl
set_option maxRecDepth 65536 in
set_option maxHeartbeats 40000000 in
theorem rmP (l : Launch) (Z : State) (a0 : Array Value) (hw : ∀ d ∈ tables_1, d.before a0 Z = true) (a1 : Addr) (a2 : Addr) (h0 : Heap) (n0 : Nat) (Z0 : n0 ≤ h0.size) (u1 u2 : Value) (E : Exa Z h0 a1 "com/example/equilibrate/equilibrate/solver/Predecessors") (F_start : Fld Z h0 a1 "com/example/equilibrate/equilibrate/solver/Predecessors" "start" "[I" u1) (F_vertices : Fld Z h0 a1 "com/example/equilibrate/equilibrate/solver/Predecessors" "vertices" "[I" u2) (XG : Exa Z h0 a2 "com/example/equilibrate/equilibrate/model/ParityGame") (ar pr ss sc : Addr) (FA : Fld Z h0 a2 "com/example/equilibrate/equilibrate/model/ParityGame" "arena" "Lcom/example/equilibrate/equilibrate/model/Arena;" (.ref ar)) (FP : Fld Z h0 a2 "com/example/equilibrate/equilibrate/model/ParityGame" "priorities" "[I" (.ref pr)) (AP : Ari Z h0 pr .int 4 (lf [(0 : Int32), (0 : Int32), (0 : Int32), (0 : Int32)])) (XA : Exa Z h0 ar "com/example/equilibrate/equilibrate/model/Arena") (FS : Fld Z h0 ar "com/example/equilibrate/equilibrate/model/Arena" "successorStart" "[I" (.ref ss)) (FC : Fld Z h0 ar "com/example/equilibrate/equilibrate/model/Arena" "successors" "[I" (.ref sc)) (BS : Ari Z h0 ss .int 5 (lf [(0 : Int32), (1 : Int32), (2 : Int32), (3 : Int32), (4 : Int32)])) (BC : Ari Z h0 sc .int 4 (lf [(0 : Int32), (1 : Int32), (2 : Int32), (3 : Int32)])) (g : n0 ≤ a1) :
    Con l (⟨"com/example/equilibrate/equilibrate/solver/Predecessors", "<init>", "(Lcom/example/equilibrate/equilibrate/model/ParityGame;)V"⟩ : MethodName) prog_56_method_1_code 6 none ({ frames := 2, cells := 3, slots := 13, locals := 54 } : Room) Z #[(.ref a1), (.ref a2)] h0 n0 (fun o h => o = none ∧ Keep h0 h [a1]) := by
  refine Con.enter pl_P (fun mm => ef_P mm a1 a2) ?_
  intro K O C H
  have KK : Keep h0 h0 [a1] := Keep.refl h0 _
  have n_a1 := g
  have ne_pr_a1 : pr ≠ a1 := AP.neX E (hw _ (List.mem_of_getElem? (i := 69) rfl))
  have ne_ss_a1 : ss ≠ a1 := BS.neX E (hw _ (List.mem_of_getElem? (i := 69) rfl))
  have ne_sc_a1 : sc ≠ a1 := BC.neX E (hw _ (List.mem_of_getElem? (i := 69) rfl))
  have ne_a2_a1 : a2 ≠ a1 := ne_exa XG E (by decide)
  have ne_ar_a1 : ar ≠ a1 := ne_exa XA E (by decide)
  replace H := k_aloadN C H dP_0 rfl rfl (pc' := 1) rfl
  replace H := k_initObj C H (hw _ (List.mem_of_getElem? (i := 74) rfl)) (hw _ (List.mem_of_getElem? (i := 16) rfl)) (hw _ (List.mem_of_getElem? (i := 17) rfl)) dP_1 rfl (by decide) 0 rfl (by decide) (pc' := 4) rfl
  replace H := k_aloadN C H dP_4 rfl rfl (pc' := 5) rfl
  replace H := k_callVir C H (rmgv l Z a0 hw a2  h0 n0  ar pr ss sc FA FP AP XA FS FC BS BC) XG (hw _ (List.mem_of_getElem? (i := 75) rfl)) (hw _ (List.mem_of_getElem? (i := 76) rfl)) (hw _ (List.mem_of_getElem? (i := 78) rfl)) (hw _ (List.mem_of_getElem? (i := 77) rfl)) (hw _ (List.mem_of_getElem? (i := 7) rfl)) (hw _ (List.mem_of_getElem? (i := 79) rfl)) (by decide) dP_5 rfl [] [] pdP_0 rfl rfl rfl 0 rfl (by decide) (by decide) (by decide) (by decide) (pc' := 8) rfl
  obtain ⟨_, _, ⟨rfl, rfl⟩, H⟩ := H
  replace H : K 8 #[.val (.ref a1), .val (.ref a2), .unset, .unset, .unset, .unset] [(.int (4 : Int32))] h0 0 0 := H
  replace H := k_istoreN C H dP_8 (L' := #[.val (.ref a1), .val (.ref a2), .val (.int (4 : Int32)), .unset, .unset, .unset]) rfl (pc' := 9) rfl
  replace H := k_aloadN C H dP_9 rfl rfl (pc' := 10) rfl
  replace H := k_iloadN C H dP_10 rfl (pc' := 11) rfl
  replace H := k_iconst C H (v := 1) dP_11 rfl (pc' := 12) rfl
  replace H := k_iadd C H dP_12 (pc' := 13) rfl
  replace H : K 13 #[.val (.ref a1), .val (.ref a2), .val (.int (4 : Int32)), .unset, .unset, .unset] [(.int (5 : Int32)), (.ref a1)] h0 0 0 := H
  replace H := k_newArr C H (hw _ (List.mem_of_getElem? (i := 8) rfl)) dP_13 (by decide) (cap := 5) (by decide) (by decide) (by decide) (by decide) (pc' := 15) rfl
  obtain ⟨h_st, st, c_st, g_st, E_st, A_st, H⟩ := H
  replace H : K 15 #[.val (.ref a1), .val (.ref a2), .val (.int (4 : Int32)), .unset, .unset, .unset] [(.ref st), (.ref a1)] h_st 1 5 := H
  have ne_a1_st : a1 ≠ st := Nat.ne_of_lt (Nat.lt_of_lt_of_le E.lt (Nat.le_of_eq g_st.symm))
  have ne_a2_st : a2 ≠ st := Nat.ne_of_lt (Nat.lt_of_lt_of_le XG.lt (Nat.le_of_eq g_st.symm))
  have ne_pr_st : pr ≠ st := Nat.ne_of_lt (Nat.lt_of_lt_of_le AP.lt (Nat.le_of_eq g_st.symm))
  have ne_ar_st : ar ≠ st := Nat.ne_of_lt (Nat.lt_of_lt_of_le XA.lt (Nat.le_of_eq g_st.symm))
  have ne_ss_st : ss ≠ st := Nat.ne_of_lt (Nat.lt_of_lt_of_le BS.lt (Nat.le_of_eq g_st.symm))
  have ne_sc_st : sc ≠ st := Nat.ne_of_lt (Nat.lt_of_lt_of_le BC.lt (Nat.le_of_eq g_st.symm))
  have n_st : n0 ≤ st := Nat.le_trans Z0 (Nat.le_of_eq g_st.symm)
  have s_st : h0.size ≤ st := Nat.le_trans KK.1 (Nat.le_of_eq g_st.symm)
  replace E := E.ext E_st
  replace F_start := F_start.ext E_st
  replace F_vertices := F_vertices.ext E_st
  replace XG := XG.ext E_st
  replace FA := FA.ext E_st
  replace FP := FP.ext E_st
  replace AP := AP.ext E_st
  replace XA := XA.ext E_st
  replace FS := FS.ext E_st
  replace FC := FC.ext E_st
  replace BS := BS.ext E_st
  replace BC := BC.ext E_st
  replace KK := KK.ext E_st
  have Z_h_st : n0 ≤ h_st.size := Nat.le_trans Z0 E_st.1
  have V_st : Ari Z h_st st .int 5 (lf [(0 : Int32), (0 : Int32), (0 : Int32), (0 : Int32), (0 : Int32)]) := (Ari.ofNew A_st (by decide) rfl).congr (fun k hk => by match k, hk with | 0, _ => rfl | 1, _ => rfl | 2, _ => rfl | 3, _ => rfl | 4, _ => rfl)
  replace H := k_putFld C H (hw _ (List.mem_of_getElem? (i := 80) rfl)) F_start E (Or.inr ⟨(hw _ (List.mem_of_getElem? (i := 81) rfl)), rfl, rfl⟩) (hw _ (List.mem_of_getElem? (i := 69) rfl)) (ty := (.array .int)) (by decide) (v' := (.ref st)) rfl rfl n_a1 dP_15 (pc' := 18) rfl
  obtain ⟨p15, W_p15, H⟩ := H
  replace E := E.wr W_p15
  replace F_start := F_start.same W_p15
  replace F_vertices := F_vertices.other W_p15 (Or.inr (slot_ne (Or.inr (hw _ (List.mem_of_getElem? (i := 93) rfl))) (Or.inr (hw _ (List.mem_of_getElem? (i := 81) rfl))) (by decide) (t := (.array .int)) (t' := (.array .int)) (by decide) (by decide)))
  replace XG := XG.wr W_p15
  replace FA := FA.other W_p15 (Or.inl ne_a2_a1)
  replace FP := FP.other W_p15 (Or.inl ne_a2_a1)
  replace AP := AP.other W_p15 ne_pr_a1
  replace XA := XA.wr W_p15
  replace FS := FS.other W_p15 (Or.inl ne_ar_a1)
  replace FC := FC.other W_p15 (Or.inl ne_ar_a1)
  replace BS := BS.other W_p15 ne_ss_a1
  replace BC := BC.other W_p15 ne_sc_a1
  replace V_st := V_st.other W_p15 (Ne.symm ne_a1_st)
  replace KK := KK.wr W_p15 (Or.inl (List.mem_of_getElem? (i := 0) rfl))
  have Z_p15 : n0 ≤ p15.size := by rw [W_p15.size]; exact Z_h_st
  replace H := k_aloadN C H dP_18 rfl rfl (pc' := 19) rfl
  replace H := k_aloadN C H dP_19 rfl rfl (pc' := 20) rfl
  replace H := k_callVir C H (rmge l Z a0 hw a2  p15 n0  ar pr ss sc FA FP AP XA FS FC BS BC) XG (hw _ (List.mem_of_getElem? (i := 82) rfl)) (hw _ (List.mem_of_getElem? (i := 83) rfl)) (hw _ (List.mem_of_getElem? (i := 85) rfl)) (hw _ (List.mem_of_getElem? (i := 84) rfl)) (hw _ (List.mem_of_getElem? (i := 7) rfl)) (hw _ (List.mem_of_getElem? (i := 86) rfl)) (by decide) dP_20 rfl [] [(.ref a1)] pdP_0 rfl rfl rfl 1 rfl (by decide) (by decide) (by decide) (by decide) (pc' := 23) rfl
  obtain ⟨_, _, ⟨rfl, rfl⟩, H⟩ := H
  replace H : K 23 #[.val (.ref a1), .val (.ref a2), .val (.int (4 : Int32)), .unset, .unset, .unset] [(.int (4 : Int32)), (.ref a1)] p15 1 5 := H
  replace H := k_newArr C H (hw _ (List.mem_of_getElem? (i := 8) rfl)) dP_23 (by decide) (cap := 4) (by decide) (by decide) (by decide) (by decide) (pc' := 25) rfl
  obtain ⟨h_vt, vt, c_vt, g_vt, E_vt, A_vt, H⟩ := H
  replace H : K 25 #[.val (.ref a1), .val (.ref a2), .val (.int (4 : Int32)), .unset, .unset, .unset] [(.ref vt), (.ref a1)] h_vt 2 9 := H
  have ne_a1_vt : a1 ≠ vt := Nat.ne_of_lt (Nat.lt_of_lt_of_le E.lt (Nat.le_of_eq g_vt.symm))
  have ne_a2_vt : a2 ≠ vt := Nat.ne_of_lt (Nat.lt_of_lt_of_le XG.lt (Nat.le_of_eq g_vt.symm))
  have ne_pr_vt : pr ≠ vt := Nat.ne_of_lt (Nat.lt_of_lt_of_le AP.lt (Nat.le_of_eq g_vt.symm))
  have ne_ar_vt : ar ≠ vt := Nat.ne_of_lt (Nat.lt_of_lt_of_le XA.lt (Nat.le_of_eq g_vt.symm))
  have ne_ss_vt : ss ≠ vt := Nat.ne_of_lt (Nat.lt_of_lt_of_le BS.lt (Nat.le_of_eq g_vt.symm))
  have ne_sc_vt : sc ≠ vt := Nat.ne_of_lt (Nat.lt_of_lt_of_le BC.lt (Nat.le_of_eq g_vt.symm))
  have ne_st_vt : st ≠ vt := Nat.ne_of_lt (Nat.lt_of_lt_of_le V_st.lt (Nat.le_of_eq g_vt.symm))
  have n_vt : n0 ≤ vt := Nat.le_trans Z_p15 (Nat.le_of_eq g_vt.symm)
  have s_vt : h0.size ≤ vt := Nat.le_trans KK.1 (Nat.le_of_eq g_vt.symm)
  replace E := E.ext E_vt
  replace F_start := F_start.ext E_vt
  replace F_vertices := F_vertices.ext E_vt
  replace XG := XG.ext E_vt
  replace FA := FA.ext E_vt
  replace FP := FP.ext E_vt
  replace AP := AP.ext E_vt
  replace XA := XA.ext E_vt
  replace FS := FS.ext E_vt
  replace FC := FC.ext E_vt
  replace BS := BS.ext E_vt
  replace BC := BC.ext E_vt
  replace V_st := V_st.ext E_vt
  replace KK := KK.ext E_vt
  have Z_h_vt : n0 ≤ h_vt.size := Nat.le_trans Z_p15 E_vt.1
  have V_vt : Ari Z h_vt vt .int 4 (lf [(0 : Int32), (0 : Int32), (0 : Int32), (0 : Int32)]) := (Ari.ofNew A_vt (by decide) rfl).congr (fun k hk => by match k, hk with | 0, _ => rfl | 1, _ => rfl | 2, _ => rfl | 3, _ => rfl)
  replace H := k_putFld C H (hw _ (List.mem_of_getElem? (i := 92) rfl)) F_vertices E (Or.inr ⟨(hw _ (List.mem_of_getElem? (i := 93) rfl)), rfl, rfl⟩) (hw _ (List.mem_of_getElem? (i := 69) rfl)) (ty := (.array .int)) (by decide) (v' := (.ref vt)) rfl rfl n_a1 dP_25 (pc' := 28) rfl
  obtain ⟨p25, W_p25, H⟩ := H
  replace E := E.wr W_p25
  replace F_start := F_start.other W_p25 (Or.inr (slot_ne (Or.inr (hw _ (List.mem_of_getElem? (i := 81) rfl))) (Or.inr (hw _ (List.mem_of_getElem? (i := 93) rfl))) (by decide) (t := (.array .int)) (t' := (.array .int)) (by decide) (by decide)))
  replace F_vertices := F_vertices.same W_p25
  replace XG := XG.wr W_p25
  replace FA := FA.other W_p25 (Or.inl ne_a2_a1)
  replace FP := FP.other W_p25 (Or.inl ne_a2_a1)
  replace AP := AP.other W_p25 ne_pr_a1
  replace XA := XA.wr W_p25
  replace FS := FS.other W_p25 (Or.inl ne_ar_a1)
  replace FC := FC.other W_p25 (Or.inl ne_ar_a1)
  replace BS := BS.other W_p25 ne_ss_a1
  replace BC := BC.other W_p25 ne_sc_a1
  replace V_st := V_st.other W_p25 (Ne.symm ne_a1_st)
  replace V_vt := V_vt.other W_p25 (Ne.symm ne_a1_vt)
  replace KK := KK.wr W_p25 (Or.inl (List.mem_of_getElem? (i := 0) rfl))
  have Z_p25 : n0 ≤ p25.size := by rw [W_p25.size]; exact Z_h_vt
  replace H := k_iconst C H (v := 0) dP_28 rfl (pc' := 29) rfl
  replace H := k_istoreN C H dP_29 (L' := #[.val (.ref a1), .val (.ref a2), .val (.int (4 : Int32)), .val (.int (0 : Int32)), .unset, .unset]) rfl (pc' := 30) rfl
  replace H := k_iloadN C H dP_30 rfl (pc' := 31) rfl
  replace H := k_iloadN C H dP_31 rfl (pc' := 32) rfl
  replace H := k_icmpN C H dP_32 (tlt (by decide : (0 : Int32) < (4 : Int32))).2.1 (pc' := 35) rfl
  replace H := k_iconst C H (v := 0) dP_35 rfl (pc' := 36) rfl
  replace H := k_istore C H dP_36 (L' := #[.val (.ref a1), .val (.ref a2), .val (.int (4 : Int32)), .val (.int (0 : Int32)), .val (.int (0 : Int32)), .unset]) rfl (pc' := 38) rfl
  replace H := k_iload C H dP_38 rfl (pc' := 40) rfl
  replace H := k_aloadN C H dP_40 rfl rfl (pc' := 41) rfl
  replace H := k_iloadN C H dP_41 rfl (pc' := 42) rfl
  replace H := k_callVir C H (rmgc0 l Z a0 hw a2 (0 : Int32) p25 n0 rfl ar pr ss sc FA FP AP XA FS FC BS BC) XG (hw _ (List.mem_of_getElem? (i := 94) rfl)) (hw _ (List.mem_of_getElem? (i := 95) rfl)) (hw _ (List.mem_of_getElem? (i := 97) rfl)) (hw _ (List.mem_of_getElem? (i := 96) rfl)) (hw _ (List.mem_of_getElem? (i := 7) rfl)) (hw _ (List.mem_of_getElem? (i := 98) rfl)) (by decide) dP_42 rfl [(.int (0 : Int32))] [(.int (0 : Int32))] pdP_1 rfl rfl rfl 1 rfl (by decide) (by decide) (by decide) (by decide) (pc' := 45) rfl
  obtain ⟨_, _, ⟨rfl, rfl⟩, H⟩ := H
  replace H : K 45 #[.val (.ref a1), .val (.ref a2), .val (.int (4 : Int32)), .val (.int (0 : Int32)), .val (.int (0 : Int32)), .unset] [(.int (1 : Int32)), (.int (0 : Int32))] p25 2 9 := H
  replace H := k_icmpN C H dP_45 (tlt (by decide : (0 : Int32) < (1 : Int32))).2.1 (pc' := 48) rfl
  replace H := k_aloadN C H dP_48 rfl rfl (pc' := 49) rfl
  replace H := k_getFld C H (hw _ (List.mem_of_getElem? (i := 80) rfl)) F_start dP_49 (pc' := 52) rfl
  replace H := k_aloadN C H dP_52 rfl rfl (pc' := 53) rfl
  replace H := k_iloadN C H dP_53 rfl (pc' := 54) rfl
  replace H := k_iload C H dP_54 rfl (pc' := 56) rfl
  replace H := k_callVir C H (rmgs0 l Z a0 hw a2 (0 : Int32) (0 : Int32) p25 n0 rfl rfl ar pr ss sc FA FP AP XA FS FC BS BC) XG (hw _ (List.mem_of_getElem? (i := 104) rfl)) (hw _ (List.mem_of_getElem? (i := 105) rfl)) (hw _ (List.mem_of_getElem? (i := 107) rfl)) (hw _ (List.mem_of_getElem? (i := 106) rfl)) (hw _ (List.mem_of_getElem? (i := 7) rfl)) (hw _ (List.mem_of_getElem? (i := 108) rfl)) (by decide) dP_56 rfl [(.int (0 : Int32)), (.int (0 : Int32))] [(.ref st)] pdP_2 rfl rfl rfl 1 rfl (by decide) (by decide) (by decide) (by decide) (pc' := 59) rfl
  obtain ⟨_, _, ⟨rfl, rfl⟩, H⟩ := H
  replace H : K 59 #[.val (.ref a1), .val (.ref a2), .val (.int (4 : Int32)), .val (.int (0 : Int32)), .val (.int (0 : Int32)), .unset] [(.int (0 : Int32)), (.ref st)] p25 2 9 := H
  replace H := k_iconst C H (v := 1) dP_59 rfl (pc' := 60) rfl
  replace H := k_iadd C H dP_60 (pc' := 61) rfl
  replace H : K 61 #[.val (.ref a1), .val (.ref a2), .val (.int (4 : Int32)), .val (.int (0 : Int32)), .val (.int (0 : Int32)), .unset] [(.int (1 : Int32)), (.ref st)] p25 2 9 := H
  replace H := k_dup2 C H dP_61 rfl rfl (pc' := 62) rfl
  replace H := k_iaload C H V_st (i := 1) (by decide) (by decide) dP_62 (pc' := 63) rfl
  replace H : K 63 #[.val (.ref a1), .val (.ref a2), .val (.int (4 : Int32)), .val (.int (0 : Int32)), .val (.int (0 : Int32)), .unset] [(.int (0 : Int32)), (.int (1 : Int32)), (.ref st)] p25 2 9 := H
  replace H := k_iconst C H (v := 1) dP_63 rfl (pc' := 64) rfl
  replace H := k_iadd C H dP_64 (pc' := 65) rfl
  replace H : K 65 #[.val (.ref a1), .val (.ref a2), .val (.int (4 : Int32)), .val (.int (0 : Int32)), .val (.int (0 : Int32)), .unset] [(.int (1 : Int32)), (.int (1 : Int32)), (.ref st)] p25 2 9 := H
  replace H := k_iastore C H V_st (i := 1) (by decide) (by decide) n_st dP_65 (pc' := 66) rfl
  obtain ⟨q12, W_q12, V_st, H⟩ := H
  replace V_st : Ari Z q12 st .int 5 (lf [(0 : Int32), (1 : Int32), (0 : Int32), (0 : Int32), (0 : Int32)]) := V_st.congr (fun k _ => lf_set _ _ _ (Nat.le_of_ble_eq_true rfl) k)
  replace E := E.wr W_q12
  replace F_start := F_start.other W_q12 (Or.inl ne_a1_st)
  replace F_vertices := F_vertices.other W_q12 (Or.inl ne_a1_st)
  replace XG := XG.wr W_q12
  replace FA := FA.other W_q12 (Or.inl ne_a2_st)
  replace FP := FP.other W_q12 (Or.inl ne_a2_st)
  replace AP := AP.other W_q12 ne_pr_st
  replace XA := XA.wr W_q12
  replace FS := FS.other W_q12 (Or.inl ne_ar_st)
  replace FC := FC.other W_q12 (Or.inl ne_ar_st)
  replace BS := BS.other W_q12 ne_ss_st
  replace BC := BC.other W_q12 ne_sc_st
  replace V_vt := V_vt.other W_q12 (Ne.symm ne_st_vt)
  have Z_q12 : n0 ≤ q12.size := by rw [W_q12.size]; exact Z_p25
  replace KK := KK.wr W_q12 (Or.inr s_st)
  replace H := k_iinc C H (y := ((0 : Int32) + (1 : Int32))) dP_66 rfl rfl (L' := #[.val (.ref a1), .val (.ref a2), .val (.int (4 : Int32)), .val (.int (0 : Int32)), .val (.int ((0 : Int32) + (1 : Int32))), .unset]) rfl (pc' := 69) rfl
  replace H : K 69 #[.val (.ref a1), .val (.ref a2), .val (.int (4 : Int32)), .val (.int (0 : Int32)), .val (.int (1 : Int32)), .unset] [] q12 2 9 := H
  replace H := k_goto C H dP_69 (by decide) (pc' := 38) rfl
  replace H := k_iload C H dP_38 rfl (pc' := 40) rfl
  replace H := k_aloadN C H dP_40 rfl rfl (pc' := 41) rfl
  replace H := k_iloadN C H dP_41 rfl (pc' := 42) rfl
  replace H := k_callVir C H (rmgc0 l Z a0 hw a2 (0 : Int32) q12 n0 rfl ar pr ss sc FA FP AP XA FS FC BS BC) XG (hw _ (List.mem_of_getElem? (i := 94) rfl)) (hw _ (List.mem_of_getElem? (i := 95) rfl)) (hw _ (List.mem_of_getElem? (i := 97) rfl)) (hw _ (List.mem_of_getElem? (i := 96) rfl)) (hw _ (List.mem_of_getElem? (i := 7) rfl)) (hw _ (List.mem_of_getElem? (i := 98) rfl)) (by decide) dP_42 rfl [(.int (0 : Int32))] [(.int (1 : Int32))] pdP_1 rfl rfl rfl 1 rfl (by decide) (by decide) (by decide) (by decide) (pc' := 45) rfl
  obtain ⟨_, _, ⟨rfl, rfl⟩, H⟩ := H
  replace H : K 45 #[.val (.ref a1), .val (.ref a2), .val (.int (4 : Int32)), .val (.int (0 : Int32)), .val (.int (1 : Int32)), .unset] [(.int (1 : Int32)), (.int (1 : Int32))] q12 2 9 := H
  replace H := k_icmpY C H dP_45 (flt (by decide : ¬ ((1 : Int32) < (1 : Int32)))).2.1 (by decide) (pc' := 72) rfl
  replace H := k_iinc C H (y := ((0 : Int32) + (1 : Int32))) dP_72 rfl rfl (L' := #[.val (.ref a1), .val (.ref a2), .val (.int (4 : Int32)), .val (.int ((0 : Int32) + (1 : Int32))), .val (.int (1 : Int32)), .unset]) rfl (pc' := 75) rfl
  replace H : K 75 #[.val (.ref a1), .val (.ref a2), .val (.int (4 : Int32)), .val (.int (1 : Int32)), .val (.int (1 : Int32)), .unset] [] q12 2 9 := H
  replace H := k_goto C H dP_75 (by decide) (pc' := 30) rfl
  replace H := k_iloadN C H dP_30 rfl (pc' := 31) rfl
  replace H := k_iloadN C H dP_31 rfl (pc' := 32) rfl
  replace H := k_icmpN C H dP_32 (tlt (by decide : (1 : Int32) < (4 : Int32))).2.1 (pc' := 35) rfl
  replace H := k_iconst C H (v := 0) dP_35 rfl (pc' := 36) rfl
  replace H := k_istore C H dP_36 (L' := #[.val (.ref a1), .val (.ref a2), .val (.int (4 : Int32)), .val (.int (1 : Int32)), .val (.int (0 : Int32)), .unset]) rfl (pc' := 38) rfl
  replace H := k_iload C H dP_38 rfl (pc' := 40) rfl
  replace H := k_aloadN C H dP_40 rfl rfl (pc' := 41) rfl
  replace H := k_iloadN C H dP_41 rfl (pc' := 42) rfl
  replace H := k_callVir C H (rmgc1 l Z a0 hw a2 (1 : Int32) q12 n0 rfl ar pr ss sc FA FP AP XA FS FC BS BC) XG (hw _ (List.mem_of_getElem? (i := 94) rfl)) (hw _ (List.mem_of_getElem? (i := 95) rfl)) (hw _ (List.mem_of_getElem? (i := 97) rfl)) (hw _ (List.mem_of_getElem? (i := 96) rfl)) (hw _ (List.mem_of_getElem? (i := 7) rfl)) (hw _ (List.mem_of_getElem? (i := 98) rfl)) (by decide) dP_42 rfl [(.int (1 : Int32))] [(.int (0 : Int32))] pdP_1 rfl rfl rfl 1 rfl (by decide) (by decide) (by decide) (by decide) (pc' := 45) rfl
  obtain ⟨_, _, ⟨rfl, rfl⟩, H⟩ := H
  replace H : K 45 #[.val (.ref a1), .val (.ref a2), .val (.int (4 : Int32)), .val (.int (1 : Int32)), .val (.int (0 : Int32)), .unset] [(.int (1 : Int32)), (.int (0 : Int32))] q12 2 9 := H
  replace H := k_icmpN C H dP_45 (tlt (by decide : (0 : Int32) < (1 : Int32))).2.1 (pc' := 48) rfl
  replace H := k_aloadN C H dP_48 rfl rfl (pc' := 49) rfl
  replace H := k_getFld C H (hw _ (List.mem_of_getElem? (i := 80) rfl)) F_start dP_49 (pc' := 52) rfl
  replace H := k_aloadN C H dP_52 rfl rfl (pc' := 53) rfl
  replace H := k_iloadN C H dP_53 rfl (pc' := 54) rfl
  replace H := k_iload C H dP_54 rfl (pc' := 56) rfl
  replace H := k_callVir C H (rmgs1 l Z a0 hw a2 (1 : Int32) (0 : Int32) q12 n0 rfl rfl ar pr ss sc FA FP AP XA FS FC BS BC) XG (hw _ (List.mem_of_getElem? (i := 104) rfl)) (hw _ (List.mem_of_getElem? (i := 105) rfl)) (hw _ (List.mem_of_getElem? (i := 107) rfl)) (hw _ (List.mem_of_getElem? (i := 106) rfl)) (hw _ (List.mem_of_getElem? (i := 7) rfl)) (hw _ (List.mem_of_getElem? (i := 108) rfl)) (by decide) dP_56 rfl [(.int (1 : Int32)), (.int (0 : Int32))] [(.ref st)] pdP_2 rfl rfl rfl 1 rfl (by decide) (by decide) (by decide) (by decide) (pc' := 59) rfl
  obtain ⟨_, _, ⟨rfl, rfl⟩, H⟩ := H
  replace H : K 59 #[.val (.ref a1), .val (.ref a2), .val (.int (4 : Int32)), .val (.int (1 : Int32)), .val (.int (0 : Int32)), .unset] [(.int (1 : Int32)), (.ref st)] q12 2 9 := H
  replace H := k_iconst C H (v := 1) dP_59 rfl (pc' := 60) rfl
  replace H := k_iadd C H dP_60 (pc' := 61) rfl
  replace H : K 61 #[.val (.ref a1), .val (.ref a2), .val (.int (4 : Int32)), .val (.int (1 : Int32)), .val (.int (0 : Int32)), .unset] [(.int (2 : Int32)), (.ref st)] q12 2 9 := H
  replace H := k_dup2 C H dP_61 rfl rfl (pc' := 62) rfl
  replace H := k_iaload C H V_st (i := 2) (by decide) (by decide) dP_62 (pc' := 63) rfl
  replace H : K 63 #[.val (.ref a1), .val (.ref a2), .val (.int (4 : Int32)), .val (.int (1 : Int32)), .val (.int (0 : Int32)), .unset] [(.int (0 : Int32)), (.int (2 : Int32)), (.ref st)] q12 2 9 := H
  replace H := k_iconst C H (v := 1) dP_63 rfl (pc' := 64) rfl
  replace H := k_iadd C H dP_64 (pc' := 65) rfl
  replace H : K 65 #[.val (.ref a1), .val (.ref a2), .val (.int (4 : Int32)), .val (.int (1 : Int32)), .val (.int (0 : Int32)), .unset] [(.int (1 : Int32)), (.int (2 : Int32)), (.ref st)] q12 2 9 := H
  replace H := k_iastore C H V_st (i := 2) (by decide) (by decide) n_st dP_65 (pc' := 66) rfl
  obtain ⟨q18, W_q18, V_st, H⟩ := H
  replace V_st : Ari Z q18 st .int 5 (lf [(0 : Int32), (1 : Int32), (1 : Int32), (0 : Int32), (0 : Int32)]) := V_st.congr (fun k _ => lf_set _ _ _ (Nat.le_of_ble_eq_true rfl) k)
  replace E := E.wr W_q18
  replace F_start := F_start.other W_q18 (Or.inl ne_a1_st)
  replace F_vertices := F_vertices.other W_q18 (Or.inl ne_a1_st)
  replace XG := XG.wr W_q18
  replace FA := FA.other W_q18 (Or.inl ne_a2_st)
  replace FP := FP.other W_q18 (Or.inl ne_a2_st)
  replace AP := AP.other W_q18 ne_pr_st
  replace XA := XA.wr W_q18
  replace FS := FS.other W_q18 (Or.inl ne_ar_st)
  replace FC := FC.other W_q18 (Or.inl ne_ar_st)
  replace BS := BS.other W_q18 ne_ss_st
  replace BC := BC.other W_q18 ne_sc_st
  replace V_vt := V_vt.other W_q18 (Ne.symm ne_st_vt)
  have Z_q18 : n0 ≤ q18.size := by rw [W_q18.size]; exact Z_q12
  replace KK := KK.wr W_q18 (Or.inr s_st)
  replace H := k_iinc C H (y := ((0 : Int32) + (1 : Int32))) dP_66 rfl rfl (L' := #[.val (.ref a1), .val (.ref a2), .val (.int (4 : Int32)), .val (.int (1 : Int32)), .val (.int ((0 : Int32) + (1 : Int32))), .unset]) rfl (pc' := 69) rfl
  replace H : K 69 #[.val (.ref a1), .val (.ref a2), .val (.int (4 : Int32)), .val (.int (1 : Int32)), .val (.int (1 : Int32)), .unset] [] q18 2 9 := H
  replace H := k_goto C H dP_69 (by decide) (pc' := 38) rfl
  replace H := k_iload C H dP_38 rfl (pc' := 40) rfl
  replace H := k_aloadN C H dP_40 rfl rfl (pc' := 41) rfl
  replace H := k_iloadN C H dP_41 rfl (pc' := 42) rfl
  replace H := k_callVir C H (rmgc1 l Z a0 hw a2 (1 : Int32) q18 n0 rfl ar pr ss sc FA FP AP XA FS FC BS BC) XG (hw _ (List.mem_of_getElem? (i := 94) rfl)) (hw _ (List.mem_of_getElem? (i := 95) rfl)) (hw _ (List.mem_of_getElem? (i := 97) rfl)) (hw _ (List.mem_of_getElem? (i := 96) rfl)) (hw _ (List.mem_of_getElem? (i := 7) rfl)) (hw _ (List.mem_of_getElem? (i := 98) rfl)) (by decide) dP_42 rfl [(.int (1 : Int32))] [(.int (1 : Int32))] pdP_1 rfl rfl rfl 1 rfl (by decide) (by decide) (by decide) (by decide) (pc' := 45) rfl
  obtain ⟨_, _, ⟨rfl, rfl⟩, H⟩ := H
  replace H : K 45 #[.val (.ref a1), .val (.ref a2), .val (.int (4 : Int32)), .val (.int (1 : Int32)), .val (.int (1 : Int32)), .unset] [(.int (1 : Int32)), (.int (1 : Int32))] q18 2 9 := H
  replace H := k_icmpY C H dP_45 (flt (by decide : ¬ ((1 : Int32) < (1 : Int32)))).2.1 (by decide) (pc' := 72) rfl
  replace H := k_iinc C H (y := ((1 : Int32) + (1 : Int32))) dP_72 rfl rfl (L' := #[.val (.ref a1), .val (.ref a2), .val (.int (4 : Int32)), .val (.int ((1 : Int32) + (1 : Int32))), .val (.int (1 : Int32)), .unset]) rfl (pc' := 75) rfl
  replace H : K 75 #[.val (.ref a1), .val (.ref a2), .val (.int (4 : Int32)), .val (.int (2 : Int32)), .val (.int (1 : Int32)), .unset] [] q18 2 9 := H
  replace H := k_goto C H dP_75 (by decide) (pc' := 30) rfl
  replace H := k_iloadN C H dP_30 rfl (pc' := 31) rfl
  replace H := k_iloadN C H dP_31 rfl (pc' := 32) rfl
  replace H := k_icmpN C H dP_32 (tlt (by decide : (2 : Int32) < (4 : Int32))).2.1 (pc' := 35) rfl
  replace H := k_iconst C H (v := 0) dP_35 rfl (pc' := 36) rfl
  replace H := k_istore C H dP_36 (L' := #[.val (.ref a1), .val (.ref a2), .val (.int (4 : Int32)), .val (.int (2 : Int32)), .val (.int (0 : Int32)), .unset]) rfl (pc' := 38) rfl
  replace H := k_iload C H dP_38 rfl (pc' := 40) rfl
  replace H := k_aloadN C H dP_40 rfl rfl (pc' := 41) rfl
  replace H := k_iloadN C H dP_41 rfl (pc' := 42) rfl
  replace H := k_callVir C H (rmgc2 l Z a0 hw a2 (2 : Int32) q18 n0 rfl ar pr ss sc FA FP AP XA FS FC BS BC) XG (hw _ (List.mem_of_getElem? (i := 94) rfl)) (hw _ (List.mem_of_getElem? (i := 95) rfl)) (hw _ (List.mem_of_getElem? (i := 97) rfl)) (hw _ (List.mem_of_getElem? (i := 96) rfl)) (hw _ (List.mem_of_getElem? (i := 7) rfl)) (hw _ (List.mem_of_getElem? (i := 98) rfl)) (by decide) dP_42 rfl [(.int (2 : Int32))] [(.int (0 : Int32))] pdP_1 rfl rfl rfl 1 rfl (by decide) (by decide) (by decide) (by decide) (pc' := 45) rfl
  obtain ⟨_, _, ⟨rfl, rfl⟩, H⟩ := H
  replace H : K 45 #[.val (.ref a1), .val (.ref a2), .val (.int (4 : Int32)), .val (.int (2 : Int32)), .val (.int (0 : Int32)), .unset] [(.int (1 : Int32)), (.int (0 : Int32))] q18 2 9 := H
  replace H := k_icmpN C H dP_45 (tlt (by decide : (0 : Int32) < (1 : Int32))).2.1 (pc' := 48) rfl
  replace H := k_aloadN C H dP_48 rfl rfl (pc' := 49) rfl
  replace H := k_getFld C H (hw _ (List.mem_of_getElem? (i := 80) rfl)) F_start dP_49 (pc' := 52) rfl
  replace H := k_aloadN C H dP_52 rfl rfl (pc' := 53) rfl
  replace H := k_iloadN C H dP_53 rfl (pc' := 54) rfl
  replace H := k_iload C H dP_54 rfl (pc' := 56) rfl
  replace H := k_callVir C H (rmgs2 l Z a0 hw a2 (2 : Int32) (0 : Int32) q18 n0 rfl rfl ar pr ss sc FA FP AP XA FS FC BS BC) XG (hw _ (List.mem_of_getElem? (i := 104) rfl)) (hw _ (List.mem_of_getElem? (i := 105) rfl)) (hw _ (List.mem_of_getElem? (i := 107) rfl)) (hw _ (List.mem_of_getElem? (i := 106) rfl)) (hw _ (List.mem_of_getElem? (i := 7) rfl)) (hw _ (List.mem_of_getElem? (i := 108) rfl)) (by decide) dP_56 rfl [(.int (2 : Int32)), (.int (0 : Int32))] [(.ref st)] pdP_2 rfl rfl rfl 1 rfl (by decide) (by decide) (by decide) (by decide) (pc' := 59) rfl
  obtain ⟨_, _, ⟨rfl, rfl⟩, H⟩ := H
  replace H : K 59 #[.val (.ref a1), .val (.ref a2), .val (.int (4 : Int32)), .val (.int (2 : Int32)), .val (.int (0 : Int32)), .unset] [(.int (2 : Int32)), (.ref st)] q18 2 9 := H
  replace H := k_iconst C H (v := 1) dP_59 rfl (pc' := 60) rfl
  replace H := k_iadd C H dP_60 (pc' := 61) rfl
  replace H : K 61 #[.val (.ref a1), .val (.ref a2), .val (.int (4 : Int32)), .val (.int (2 : Int32)), .val (.int (0 : Int32)), .unset] [(.int (3 : Int32)), (.ref st)] q18 2 9 := H
  replace H := k_dup2 C H dP_61 rfl rfl (pc' := 62) rfl
  replace H := k_iaload C H V_st (i := 3) (by decide) (by decide) dP_62 (pc' := 63) rfl
  replace H : K 63 #[.val (.ref a1), .val (.ref a2), .val (.int (4 : Int32)), .val (.int (2 : Int32)), .val (.int (0 : Int32)), .unset] [(.int (0 : Int32)), (.int (3 : Int32)), (.ref st)] q18 2 9 := H
  replace H := k_iconst C H (v := 1) dP_63 rfl (pc' := 64) rfl
  replace H := k_iadd C H dP_64 (pc' := 65) rfl
  replace H : K 65 #[.val (.ref a1), .val (.ref a2), .val (.int (4 : Int32)), .val (.int (2 : Int32)), .val (.int (0 : Int32)), .unset] [(.int (1 : Int32)), (.int (3 : Int32)), (.ref st)] q18 2 9 := H
  replace H := k_iastore C H V_st (i := 3) (by decide) (by decide) n_st dP_65 (pc' := 66) rfl
  obtain ⟨q24, W_q24, V_st, H⟩ := H
  replace V_st : Ari Z q24 st .int 5 (lf [(0 : Int32), (1 : Int32), (1 : Int32), (1 : Int32), (0 : Int32)]) := V_st.congr (fun k _ => lf_set _ _ _ (Nat.le_of_ble_eq_true rfl) k)
  replace E := E.wr W_q24
  replace F_start := F_start.other W_q24 (Or.inl ne_a1_st)
  replace F_vertices := F_vertices.other W_q24 (Or.inl ne_a1_st)
  replace XG := XG.wr W_q24
  replace FA := FA.other W_q24 (Or.inl ne_a2_st)
  replace FP := FP.other W_q24 (Or.inl ne_a2_st)
  replace AP := AP.other W_q24 ne_pr_st
  replace XA := XA.wr W_q24
  replace FS := FS.other W_q24 (Or.inl ne_ar_st)
  replace FC := FC.other W_q24 (Or.inl ne_ar_st)
  replace BS := BS.other W_q24 ne_ss_st
  replace BC := BC.other W_q24 ne_sc_st
  replace V_vt := V_vt.other W_q24 (Ne.symm ne_st_vt)
  have Z_q24 : n0 ≤ q24.size := by rw [W_q24.size]; exact Z_q18
  replace KK := KK.wr W_q24 (Or.inr s_st)
  replace H := k_iinc C H (y := ((0 : Int32) + (1 : Int32))) dP_66 rfl rfl (L' := #[.val (.ref a1), .val (.ref a2), .val (.int (4 : Int32)), .val (.int (2 : Int32)), .val (.int ((0 : Int32) + (1 : Int32))), .unset]) rfl (pc' := 69) rfl
  replace H : K 69 #[.val (.ref a1), .val (.ref a2), .val (.int (4 : Int32)), .val (.int (2 : Int32)), .val (.int (1 : Int32)), .unset] [] q24 2 9 := H
  replace H := k_goto C H dP_69 (by decide) (pc' := 38) rfl
  replace H := k_iload C H dP_38 rfl (pc' := 40) rfl
  replace H := k_aloadN C H dP_40 rfl rfl (pc' := 41) rfl
  replace H := k_iloadN C H dP_41 rfl (pc' := 42) rfl
  replace H := k_callVir C H (rmgc2 l Z a0 hw a2 (2 : Int32) q24 n0 rfl ar pr ss sc FA FP AP XA FS FC BS BC) XG (hw _ (List.mem_of_getElem? (i := 94) rfl)) (hw _ (List.mem_of_getElem? (i := 95) rfl)) (hw _ (List.mem_of_getElem? (i := 97) rfl)) (hw _ (List.mem_of_getElem? (i := 96) rfl)) (hw _ (List.mem_of_getElem? (i := 7) rfl)) (hw _ (List.mem_of_getElem? (i := 98) rfl)) (by decide) dP_42 rfl [(.int (2 : Int32))] [(.int (1 : Int32))] pdP_1 rfl rfl rfl 1 rfl (by decide) (by decide) (by decide) (by decide) (pc' := 45) rfl
  obtain ⟨_, _, ⟨rfl, rfl⟩, H⟩ := H
  replace H : K 45 #[.val (.ref a1), .val (.ref a2), .val (.int (4 : Int32)), .val (.int (2 : Int32)), .val (.int (1 : Int32)), .unset] [(.int (1 : Int32)), (.int (1 : Int32))] q24 2 9 := H
  replace H := k_icmpY C H dP_45 (flt (by decide : ¬ ((1 : Int32) < (1 : Int32)))).2.1 (by decide) (pc' := 72) rfl
  replace H := k_iinc C H (y := ((2 : Int32) + (1 : Int32))) dP_72 rfl rfl (L' := #[.val (.ref a1), .val (.ref a2), .val (.int (4 : Int32)), .val (.int ((2 : Int32) + (1 : Int32))), .val (.int (1 : Int32)), .unset]) rfl (pc' := 75) rfl
  replace H : K 75 #[.val (.ref a1), .val (.ref a2), .val (.int (4 : Int32)), .val (.int (3 : Int32)), .val (.int (1 : Int32)), .unset] [] q24 2 9 := H
  replace H := k_goto C H dP_75 (by decide) (pc' := 30) rfl
  replace H := k_iloadN C H dP_30 rfl (pc' := 31) rfl
  replace H := k_iloadN C H dP_31 rfl (pc' := 32) rfl
  replace H := k_icmpN C H dP_32 (tlt (by decide : (3 : Int32) < (4 : Int32))).2.1 (pc' := 35) rfl
  replace H := k_iconst C H (v := 0) dP_35 rfl (pc' := 36) rfl
  replace H := k_istore C H dP_36 (L' := #[.val (.ref a1), .val (.ref a2), .val (.int (4 : Int32)), .val (.int (3 : Int32)), .val (.int (0 : Int32)), .unset]) rfl (pc' := 38) rfl
  replace H := k_iload C H dP_38 rfl (pc' := 40) rfl
  replace H := k_aloadN C H dP_40 rfl rfl (pc' := 41) rfl
  replace H := k_iloadN C H dP_41 rfl (pc' := 42) rfl
  replace H := k_callVir C H (rmgc3 l Z a0 hw a2 (3 : Int32) q24 n0 rfl ar pr ss sc FA FP AP XA FS FC BS BC) XG (hw _ (List.mem_of_getElem? (i := 94) rfl)) (hw _ (List.mem_of_getElem? (i := 95) rfl)) (hw _ (List.mem_of_getElem? (i := 97) rfl)) (hw _ (List.mem_of_getElem? (i := 96) rfl)) (hw _ (List.mem_of_getElem? (i := 7) rfl)) (hw _ (List.mem_of_getElem? (i := 98) rfl)) (by decide) dP_42 rfl [(.int (3 : Int32))] [(.int (0 : Int32))] pdP_1 rfl rfl rfl 1 rfl (by decide) (by decide) (by decide) (by decide) (pc' := 45) rfl
  obtain ⟨_, _, ⟨rfl, rfl⟩, H⟩ := H
  replace H : K 45 #[.val (.ref a1), .val (.ref a2), .val (.int (4 : Int32)), .val (.int (3 : Int32)), .val (.int (0 : Int32)), .unset] [(.int (1 : Int32)), (.int (0 : Int32))] q24 2 9 := H
  replace H := k_icmpN C H dP_45 (tlt (by decide : (0 : Int32) < (1 : Int32))).2.1 (pc' := 48) rfl
  replace H := k_aloadN C H dP_48 rfl rfl (pc' := 49) rfl
  replace H := k_getFld C H (hw _ (List.mem_of_getElem? (i := 80) rfl)) F_start dP_49 (pc' := 52) rfl
  replace H := k_aloadN C H dP_52 rfl rfl (pc' := 53) rfl
  replace H := k_iloadN C H dP_53 rfl (pc' := 54) rfl
  replace H := k_iload C H dP_54 rfl (pc' := 56) rfl
  replace H := k_callVir C H (rmgs3 l Z a0 hw a2 (3 : Int32) (0 : Int32) q24 n0 rfl rfl ar pr ss sc FA FP AP XA FS FC BS BC) XG (hw _ (List.mem_of_getElem? (i := 104) rfl)) (hw _ (List.mem_of_getElem? (i := 105) rfl)) (hw _ (List.mem_of_getElem? (i := 107) rfl)) (hw _ (List.mem_of_getElem? (i := 106) rfl)) (hw _ (List.mem_of_getElem? (i := 7) rfl)) (hw _ (List.mem_of_getElem? (i := 108) rfl)) (by decide) dP_56 rfl [(.int (3 : Int32)), (.int (0 : Int32))] [(.ref st)] pdP_2 rfl rfl rfl 1 rfl (by decide) (by decide) (by decide) (by decide) (pc' := 59) rfl
  obtain ⟨_, _, ⟨rfl, rfl⟩, H⟩ := H
  replace H : K 59 #[.val (.ref a1), .val (.ref a2), .val (.int (4 : Int32)), .val (.int (3 : Int32)), .val (.int (0 : Int32)), .unset] [(.int (3 : Int32)), (.ref st)] q24 2 9 := H
  replace H := k_iconst C H (v := 1) dP_59 rfl (pc' := 60) rfl
  replace H := k_iadd C H dP_60 (pc' := 61) rfl
  replace H : K 61 #[.val (.ref a1), .val (.ref a2), .val (.int (4 : Int32)), .val (.int (3 : Int32)), .val (.int (0 : Int32)), .unset] [(.int (4 : Int32)), (.ref st)] q24 2 9 := H
  replace H := k_dup2 C H dP_61 rfl rfl (pc' := 62) rfl
  replace H := k_iaload C H V_st (i := 4) (by decide) (by decide) dP_62 (pc' := 63) rfl
  replace H : K 63 #[.val (.ref a1), .val (.ref a2), .val (.int (4 : Int32)), .val (.int (3 : Int32)), .val (.int (0 : Int32)), .unset] [(.int (0 : Int32)), (.int (4 : Int32)), (.ref st)] q24 2 9 := H
  replace H := k_iconst C H (v := 1) dP_63 rfl (pc' := 64) rfl
  replace H := k_iadd C H dP_64 (pc' := 65) rfl
  replace H : K 65 #[.val (.ref a1), .val (.ref a2), .val (.int (4 : Int32)), .val (.int (3 : Int32)), .val (.int (0 : Int32)), .unset] [(.int (1 : Int32)), (.int (4 : Int32)), (.ref st)] q24 2 9 := H
  replace H := k_iastore C H V_st (i := 4) (by decide) (by decide) n_st dP_65 (pc' := 66) rfl
  obtain ⟨q30, W_q30, V_st, H⟩ := H
  replace V_st : Ari Z q30 st .int 5 (lf [(0 : Int32), (1 : Int32), (1 : Int32), (1 : Int32), (1 : Int32)]) := V_st.congr (fun k _ => lf_set _ _ _ (Nat.le_of_ble_eq_true rfl) k)
  replace E := E.wr W_q30
  replace F_start := F_start.other W_q30 (Or.inl ne_a1_st)
  replace F_vertices := F_vertices.other W_q30 (Or.inl ne_a1_st)
  replace XG := XG.wr W_q30
  replace FA := FA.other W_q30 (Or.inl ne_a2_st)
  replace FP := FP.other W_q30 (Or.inl ne_a2_st)
  replace AP := AP.other W_q30 ne_pr_st
  replace XA := XA.wr W_q30
  replace FS := FS.other W_q30 (Or.inl ne_ar_st)
  replace FC := FC.other W_q30 (Or.inl ne_ar_st)
  replace BS := BS.other W_q30 ne_ss_st
  replace BC := BC.other W_q30 ne_sc_st
  replace V_vt := V_vt.other W_q30 (Ne.symm ne_st_vt)
  have Z_q30 : n0 ≤ q30.size := by rw [W_q30.size]; exact Z_q24
  replace KK := KK.wr W_q30 (Or.inr s_st)
  replace H := k_iinc C H (y := ((0 : Int32) + (1 : Int32))) dP_66 rfl rfl (L' := #[.val (.ref a1), .val (.ref a2), .val (.int (4 : Int32)), .val (.int (3 : Int32)), .val (.int ((0 : Int32) + (1 : Int32))), .unset]) rfl (pc' := 69) rfl
  replace H : K 69 #[.val (.ref a1), .val (.ref a2), .val (.int (4 : Int32)), .val (.int (3 : Int32)), .val (.int (1 : Int32)), .unset] [] q30 2 9 := H
  replace H := k_goto C H dP_69 (by decide) (pc' := 38) rfl
  replace H := k_iload C H dP_38 rfl (pc' := 40) rfl
  replace H := k_aloadN C H dP_40 rfl rfl (pc' := 41) rfl
  replace H := k_iloadN C H dP_41 rfl (pc' := 42) rfl
  replace H := k_callVir C H (rmgc3 l Z a0 hw a2 (3 : Int32) q30 n0 rfl ar pr ss sc FA FP AP XA FS FC BS BC) XG (hw _ (List.mem_of_getElem? (i := 94) rfl)) (hw _ (List.mem_of_getElem? (i := 95) rfl)) (hw _ (List.mem_of_getElem? (i := 97) rfl)) (hw _ (List.mem_of_getElem? (i := 96) rfl)) (hw _ (List.mem_of_getElem? (i := 7) rfl)) (hw _ (List.mem_of_getElem? (i := 98) rfl)) (by decide) dP_42 rfl [(.int (3 : Int32))] [(.int (1 : Int32))] pdP_1 rfl rfl rfl 1 rfl (by decide) (by decide) (by decide) (by decide) (pc' := 45) rfl
  obtain ⟨_, _, ⟨rfl, rfl⟩, H⟩ := H
  replace H : K 45 #[.val (.ref a1), .val (.ref a2), .val (.int (4 : Int32)), .val (.int (3 : Int32)), .val (.int (1 : Int32)), .unset] [(.int (1 : Int32)), (.int (1 : Int32))] q30 2 9 := H
  replace H := k_icmpY C H dP_45 (flt (by decide : ¬ ((1 : Int32) < (1 : Int32)))).2.1 (by decide) (pc' := 72) rfl
  replace H := k_iinc C H (y := ((3 : Int32) + (1 : Int32))) dP_72 rfl rfl (L' := #[.val (.ref a1), .val (.ref a2), .val (.int (4 : Int32)), .val (.int ((3 : Int32) + (1 : Int32))), .val (.int (1 : Int32)), .unset]) rfl (pc' := 75) rfl
  replace H : K 75 #[.val (.ref a1), .val (.ref a2), .val (.int (4 : Int32)), .val (.int (4 : Int32)), .val (.int (1 : Int32)), .unset] [] q30 2 9 := H
  replace H := k_goto C H dP_75 (by decide) (pc' := 30) rfl
  replace H := k_iloadN C H dP_30 rfl (pc' := 31) rfl
  replace H := k_iloadN C H dP_31 rfl (pc' := 32) rfl
  replace H := k_icmpY C H dP_32 (flt (by decide : ¬ ((4 : Int32) < (4 : Int32)))).2.1 (by decide) (pc' := 78) rfl
  replace H := k_iconst C H (v := 0) dP_78 rfl (pc' := 79) rfl
  replace H := k_istoreN C H dP_79 (L' := #[.val (.ref a1), .val (.ref a2), .val (.int (4 : Int32)), .val (.int (0 : Int32)), .val (.int (1 : Int32)), .unset]) rfl (pc' := 80) rfl
  replace H := k_iloadN C H dP_80 rfl (pc' := 81) rfl
  replace H := k_iloadN C H dP_81 rfl (pc' := 82) rfl
  replace H := k_icmpN C H dP_82 (tlt (by decide : (0 : Int32) < (4 : Int32))).2.1 (pc' := 85) rfl
  replace H := k_aloadN C H dP_85 rfl rfl (pc' := 86) rfl
  replace H := k_getFld C H (hw _ (List.mem_of_getElem? (i := 80) rfl)) F_start dP_86 (pc' := 89) rfl
  replace H := k_iloadN C H dP_89 rfl (pc' := 90) rfl
  replace H := k_iconst C H (v := 1) dP_90 rfl (pc' := 91) rfl
  replace H := k_iadd C H dP_91 (pc' := 92) rfl
  replace H : K 92 #[.val (.ref a1), .val (.ref a2), .val (.int (4 : Int32)), .val (.int (0 : Int32)), .val (.int (1 : Int32)), .unset] [(.int (1 : Int32)), (.ref st)] q30 2 9 := H
  replace H := k_dup2 C H dP_92 rfl rfl (pc' := 93) rfl
  replace H := k_iaload C H V_st (i := 1) (by decide) (by decide) dP_93 (pc' := 94) rfl
  replace H : K 94 #[.val (.ref a1), .val (.ref a2), .val (.int (4 : Int32)), .val (.int (0 : Int32)), .val (.int (1 : Int32)), .unset] [(.int (1 : Int32)), (.int (1 : Int32)), (.ref st)] q30 2 9 := H
  replace H := k_aloadN C H dP_94 rfl rfl (pc' := 95) rfl
  replace H := k_getFld C H (hw _ (List.mem_of_getElem? (i := 80) rfl)) F_start dP_95 (pc' := 98) rfl
  replace H := k_iloadN C H dP_98 rfl (pc' := 99) rfl
  replace H := k_iaload C H V_st (i := 0) (by decide) (by decide) dP_99 (pc' := 100) rfl
  replace H : K 100 #[.val (.ref a1), .val (.ref a2), .val (.int (4 : Int32)), .val (.int (0 : Int32)), .val (.int (1 : Int32)), .unset] [(.int (0 : Int32)), (.int (1 : Int32)), (.int (1 : Int32)), (.ref st)] q30 2 9 := H
  replace H := k_iadd C H dP_100 (pc' := 101) rfl
  replace H : K 101 #[.val (.ref a1), .val (.ref a2), .val (.int (4 : Int32)), .val (.int (0 : Int32)), .val (.int (1 : Int32)), .unset] [(.int (1 : Int32)), (.int (1 : Int32)), (.ref st)] q30 2 9 := H
  replace H := k_iastore C H V_st (i := 1) (by decide) (by decide) n_st dP_101 (pc' := 102) rfl
  obtain ⟨q36, W_q36, V_st, H⟩ := H
  replace V_st : Ari Z q36 st .int 5 (lf [(0 : Int32), (1 : Int32), (1 : Int32), (1 : Int32), (1 : Int32)]) := V_st.congr (fun k _ => lf_set _ _ _ (Nat.le_of_ble_eq_true rfl) k)
  replace E := E.wr W_q36
  replace F_start := F_start.other W_q36 (Or.inl ne_a1_st)
  replace F_vertices := F_vertices.other W_q36 (Or.inl ne_a1_st)
  replace XG := XG.wr W_q36
  replace FA := FA.other W_q36 (Or.inl ne_a2_st)
  replace FP := FP.other W_q36 (Or.inl ne_a2_st)
  replace AP := AP.other W_q36 ne_pr_st
  replace XA := XA.wr W_q36
  replace FS := FS.other W_q36 (Or.inl ne_ar_st)
  replace FC := FC.other W_q36 (Or.inl ne_ar_st)
  replace BS := BS.other W_q36 ne_ss_st
  replace BC := BC.other W_q36 ne_sc_st
  replace V_vt := V_vt.other W_q36 (Ne.symm ne_st_vt)
  have Z_q36 : n0 ≤ q36.size := by rw [W_q36.size]; exact Z_q30
  replace KK := KK.wr W_q36 (Or.inr s_st)
  replace H := k_iinc C H (y := ((0 : Int32) + (1 : Int32))) dP_102 rfl rfl (L' := #[.val (.ref a1), .val (.ref a2), .val (.int (4 : Int32)), .val (.int ((0 : Int32) + (1 : Int32))), .val (.int (1 : Int32)), .unset]) rfl (pc' := 105) rfl
  replace H : K 105 #[.val (.ref a1), .val (.ref a2), .val (.int (4 : Int32)), .val (.int (1 : Int32)), .val (.int (1 : Int32)), .unset] [] q36 2 9 := H
  replace H := k_goto C H dP_105 (by decide) (pc' := 80) rfl
  replace H := k_iloadN C H dP_80 rfl (pc' := 81) rfl
  replace H := k_iloadN C H dP_81 rfl (pc' := 82) rfl
  replace H := k_icmpN C H dP_82 (tlt (by decide : (1 : Int32) < (4 : Int32))).2.1 (pc' := 85) rfl
  replace H := k_aloadN C H dP_85 rfl rfl (pc' := 86) rfl
  replace H := k_getFld C H (hw _ (List.mem_of_getElem? (i := 80) rfl)) F_start dP_86 (pc' := 89) rfl
  replace H := k_iloadN C H dP_89 rfl (pc' := 90) rfl
  replace H := k_iconst C H (v := 1) dP_90 rfl (pc' := 91) rfl
  replace H := k_iadd C H dP_91 (pc' := 92) rfl
  replace H : K 92 #[.val (.ref a1), .val (.ref a2), .val (.int (4 : Int32)), .val (.int (1 : Int32)), .val (.int (1 : Int32)), .unset] [(.int (2 : Int32)), (.ref st)] q36 2 9 := H
  replace H := k_dup2 C H dP_92 rfl rfl (pc' := 93) rfl
  replace H := k_iaload C H V_st (i := 2) (by decide) (by decide) dP_93 (pc' := 94) rfl
  replace H : K 94 #[.val (.ref a1), .val (.ref a2), .val (.int (4 : Int32)), .val (.int (1 : Int32)), .val (.int (1 : Int32)), .unset] [(.int (1 : Int32)), (.int (2 : Int32)), (.ref st)] q36 2 9 := H
  replace H := k_aloadN C H dP_94 rfl rfl (pc' := 95) rfl
  replace H := k_getFld C H (hw _ (List.mem_of_getElem? (i := 80) rfl)) F_start dP_95 (pc' := 98) rfl
  replace H := k_iloadN C H dP_98 rfl (pc' := 99) rfl
  replace H := k_iaload C H V_st (i := 1) (by decide) (by decide) dP_99 (pc' := 100) rfl
  replace H : K 100 #[.val (.ref a1), .val (.ref a2), .val (.int (4 : Int32)), .val (.int (1 : Int32)), .val (.int (1 : Int32)), .unset] [(.int (1 : Int32)), (.int (1 : Int32)), (.int (2 : Int32)), (.ref st)] q36 2 9 := H
  replace H := k_iadd C H dP_100 (pc' := 101) rfl
  replace H : K 101 #[.val (.ref a1), .val (.ref a2), .val (.int (4 : Int32)), .val (.int (1 : Int32)), .val (.int (1 : Int32)), .unset] [(.int (2 : Int32)), (.int (2 : Int32)), (.ref st)] q36 2 9 := H
  replace H := k_iastore C H V_st (i := 2) (by decide) (by decide) n_st dP_101 (pc' := 102) rfl
  obtain ⟨q41, W_q41, V_st, H⟩ := H
  replace V_st : Ari Z q41 st .int 5 (lf [(0 : Int32), (1 : Int32), (2 : Int32), (1 : Int32), (1 : Int32)]) := V_st.congr (fun k _ => lf_set _ _ _ (Nat.le_of_ble_eq_true rfl) k)
  replace E := E.wr W_q41
  replace F_start := F_start.other W_q41 (Or.inl ne_a1_st)
  replace F_vertices := F_vertices.other W_q41 (Or.inl ne_a1_st)
  replace XG := XG.wr W_q41
  replace FA := FA.other W_q41 (Or.inl ne_a2_st)
  replace FP := FP.other W_q41 (Or.inl ne_a2_st)
  replace AP := AP.other W_q41 ne_pr_st
  replace XA := XA.wr W_q41
  replace FS := FS.other W_q41 (Or.inl ne_ar_st)
  replace FC := FC.other W_q41 (Or.inl ne_ar_st)
  replace BS := BS.other W_q41 ne_ss_st
  replace BC := BC.other W_q41 ne_sc_st
  replace V_vt := V_vt.other W_q41 (Ne.symm ne_st_vt)
  have Z_q41 : n0 ≤ q41.size := by rw [W_q41.size]; exact Z_q36
  replace KK := KK.wr W_q41 (Or.inr s_st)
  replace H := k_iinc C H (y := ((1 : Int32) + (1 : Int32))) dP_102 rfl rfl (L' := #[.val (.ref a1), .val (.ref a2), .val (.int (4 : Int32)), .val (.int ((1 : Int32) + (1 : Int32))), .val (.int (1 : Int32)), .unset]) rfl (pc' := 105) rfl
  replace H : K 105 #[.val (.ref a1), .val (.ref a2), .val (.int (4 : Int32)), .val (.int (2 : Int32)), .val (.int (1 : Int32)), .unset] [] q41 2 9 := H
  replace H := k_goto C H dP_105 (by decide) (pc' := 80) rfl
  replace H := k_iloadN C H dP_80 rfl (pc' := 81) rfl
  replace H := k_iloadN C H dP_81 rfl (pc' := 82) rfl
  replace H := k_icmpN C H dP_82 (tlt (by decide : (2 : Int32) < (4 : Int32))).2.1 (pc' := 85) rfl
  replace H := k_aloadN C H dP_85 rfl rfl (pc' := 86) rfl
  replace H := k_getFld C H (hw _ (List.mem_of_getElem? (i := 80) rfl)) F_start dP_86 (pc' := 89) rfl
  replace H := k_iloadN C H dP_89 rfl (pc' := 90) rfl
  replace H := k_iconst C H (v := 1) dP_90 rfl (pc' := 91) rfl
  replace H := k_iadd C H dP_91 (pc' := 92) rfl
  replace H : K 92 #[.val (.ref a1), .val (.ref a2), .val (.int (4 : Int32)), .val (.int (2 : Int32)), .val (.int (1 : Int32)), .unset] [(.int (3 : Int32)), (.ref st)] q41 2 9 := H
  replace H := k_dup2 C H dP_92 rfl rfl (pc' := 93) rfl
  replace H := k_iaload C H V_st (i := 3) (by decide) (by decide) dP_93 (pc' := 94) rfl
  replace H : K 94 #[.val (.ref a1), .val (.ref a2), .val (.int (4 : Int32)), .val (.int (2 : Int32)), .val (.int (1 : Int32)), .unset] [(.int (1 : Int32)), (.int (3 : Int32)), (.ref st)] q41 2 9 := H
  replace H := k_aloadN C H dP_94 rfl rfl (pc' := 95) rfl
  replace H := k_getFld C H (hw _ (List.mem_of_getElem? (i := 80) rfl)) F_start dP_95 (pc' := 98) rfl
  replace H := k_iloadN C H dP_98 rfl (pc' := 99) rfl
  replace H := k_iaload C H V_st (i := 2) (by decide) (by decide) dP_99 (pc' := 100) rfl
  replace H : K 100 #[.val (.ref a1), .val (.ref a2), .val (.int (4 : Int32)), .val (.int (2 : Int32)), .val (.int (1 : Int32)), .unset] [(.int (2 : Int32)), (.int (1 : Int32)), (.int (3 : Int32)), (.ref st)] q41 2 9 := H
  replace H := k_iadd C H dP_100 (pc' := 101) rfl
  replace H : K 101 #[.val (.ref a1), .val (.ref a2), .val (.int (4 : Int32)), .val (.int (2 : Int32)), .val (.int (1 : Int32)), .unset] [(.int (3 : Int32)), (.int (3 : Int32)), (.ref st)] q41 2 9 := H
  replace H := k_iastore C H V_st (i := 3) (by decide) (by decide) n_st dP_101 (pc' := 102) rfl
  obtain ⟨q46, W_q46, V_st, H⟩ := H
  replace V_st : Ari Z q46 st .int 5 (lf [(0 : Int32), (1 : Int32), (2 : Int32), (3 : Int32), (1 : Int32)]) := V_st.congr (fun k _ => lf_set _ _ _ (Nat.le_of_ble_eq_true rfl) k)
  replace E := E.wr W_q46
  replace F_start := F_start.other W_q46 (Or.inl ne_a1_st)
  replace F_vertices := F_vertices.other W_q46 (Or.inl ne_a1_st)
  replace XG := XG.wr W_q46
  replace FA := FA.other W_q46 (Or.inl ne_a2_st)
  replace FP := FP.other W_q46 (Or.inl ne_a2_st)
  replace AP := AP.other W_q46 ne_pr_st
  replace XA := XA.wr W_q46
  replace FS := FS.other W_q46 (Or.inl ne_ar_st)
  replace FC := FC.other W_q46 (Or.inl ne_ar_st)
  replace BS := BS.other W_q46 ne_ss_st
  replace BC := BC.other W_q46 ne_sc_st
  replace V_vt := V_vt.other W_q46 (Ne.symm ne_st_vt)
  have Z_q46 : n0 ≤ q46.size := by rw [W_q46.size]; exact Z_q41
  replace KK := KK.wr W_q46 (Or.inr s_st)
  replace H := k_iinc C H (y := ((2 : Int32) + (1 : Int32))) dP_102 rfl rfl (L' := #[.val (.ref a1), .val (.ref a2), .val (.int (4 : Int32)), .val (.int ((2 : Int32) + (1 : Int32))), .val (.int (1 : Int32)), .unset]) rfl (pc' := 105) rfl
  replace H : K 105 #[.val (.ref a1), .val (.ref a2), .val (.int (4 : Int32)), .val (.int (3 : Int32)), .val (.int (1 : Int32)), .unset] [] q46 2 9 := H
  replace H := k_goto C H dP_105 (by decide) (pc' := 80) rfl
  replace H := k_iloadN C H dP_80 rfl (pc' := 81) rfl
  replace H := k_iloadN C H dP_81 rfl (pc' := 82) rfl
  replace H := k_icmpN C H dP_82 (tlt (by decide : (3 : Int32) < (4 : Int32))).2.1 (pc' := 85) rfl
  replace H := k_aloadN C H dP_85 rfl rfl (pc' := 86) rfl
  replace H := k_getFld C H (hw _ (List.mem_of_getElem? (i := 80) rfl)) F_start dP_86 (pc' := 89) rfl
  replace H := k_iloadN C H dP_89 rfl (pc' := 90) rfl
  replace H := k_iconst C H (v := 1) dP_90 rfl (pc' := 91) rfl
  replace H := k_iadd C H dP_91 (pc' := 92) rfl
  replace H : K 92 #[.val (.ref a1), .val (.ref a2), .val (.int (4 : Int32)), .val (.int (3 : Int32)), .val (.int (1 : Int32)), .unset] [(.int (4 : Int32)), (.ref st)] q46 2 9 := H
  replace H := k_dup2 C H dP_92 rfl rfl (pc' := 93) rfl
  replace H := k_iaload C H V_st (i := 4) (by decide) (by decide) dP_93 (pc' := 94) rfl
  replace H : K 94 #[.val (.ref a1), .val (.ref a2), .val (.int (4 : Int32)), .val (.int (3 : Int32)), .val (.int (1 : Int32)), .unset] [(.int (1 : Int32)), (.int (4 : Int32)), (.ref st)] q46 2 9 := H
  replace H := k_aloadN C H dP_94 rfl rfl (pc' := 95) rfl
  replace H := k_getFld C H (hw _ (List.mem_of_getElem? (i := 80) rfl)) F_start dP_95 (pc' := 98) rfl
  replace H := k_iloadN C H dP_98 rfl (pc' := 99) rfl
  replace H := k_iaload C H V_st (i := 3) (by decide) (by decide) dP_99 (pc' := 100) rfl
  replace H : K 100 #[.val (.ref a1), .val (.ref a2), .val (.int (4 : Int32)), .val (.int (3 : Int32)), .val (.int (1 : Int32)), .unset] [(.int (3 : Int32)), (.int (1 : Int32)), (.int (4 : Int32)), (.ref st)] q46 2 9 := H
  replace H := k_iadd C H dP_100 (pc' := 101) rfl
  replace H : K 101 #[.val (.ref a1), .val (.ref a2), .val (.int (4 : Int32)), .val (.int (3 : Int32)), .val (.int (1 : Int32)), .unset] [(.int (4 : Int32)), (.int (4 : Int32)), (.ref st)] q46 2 9 := H
  replace H := k_iastore C H V_st (i := 4) (by decide) (by decide) n_st dP_101 (pc' := 102) rfl
  obtain ⟨q51, W_q51, V_st, H⟩ := H
  replace V_st : Ari Z q51 st .int 5 (lf [(0 : Int32), (1 : Int32), (2 : Int32), (3 : Int32), (4 : Int32)]) := V_st.congr (fun k _ => lf_set _ _ _ (Nat.le_of_ble_eq_true rfl) k)
  replace E := E.wr W_q51
  replace F_start := F_start.other W_q51 (Or.inl ne_a1_st)
  replace F_vertices := F_vertices.other W_q51 (Or.inl ne_a1_st)
  replace XG := XG.wr W_q51
  replace FA := FA.other W_q51 (Or.inl ne_a2_st)
  replace FP := FP.other W_q51 (Or.inl ne_a2_st)
  replace AP := AP.other W_q51 ne_pr_st
  replace XA := XA.wr W_q51
  replace FS := FS.other W_q51 (Or.inl ne_ar_st)
  replace FC := FC.other W_q51 (Or.inl ne_ar_st)
  replace BS := BS.other W_q51 ne_ss_st
  replace BC := BC.other W_q51 ne_sc_st
  replace V_vt := V_vt.other W_q51 (Ne.symm ne_st_vt)
  have Z_q51 : n0 ≤ q51.size := by rw [W_q51.size]; exact Z_q46
  replace KK := KK.wr W_q51 (Or.inr s_st)
  replace H := k_iinc C H (y := ((3 : Int32) + (1 : Int32))) dP_102 rfl rfl (L' := #[.val (.ref a1), .val (.ref a2), .val (.int (4 : Int32)), .val (.int ((3 : Int32) + (1 : Int32))), .val (.int (1 : Int32)), .unset]) rfl (pc' := 105) rfl
  replace H : K 105 #[.val (.ref a1), .val (.ref a2), .val (.int (4 : Int32)), .val (.int (4 : Int32)), .val (.int (1 : Int32)), .unset] [] q51 2 9 := H
  replace H := k_goto C H dP_105 (by decide) (pc' := 80) rfl
  replace H := k_iloadN C H dP_80 rfl (pc' := 81) rfl
  replace H := k_iloadN C H dP_81 rfl (pc' := 82) rfl
  replace H := k_icmpY C H dP_82 (flt (by decide : ¬ ((4 : Int32) < (4 : Int32)))).2.1 (by decide) (pc' := 108) rfl
  replace H := k_aloadN C H dP_108 rfl rfl (pc' := 109) rfl
  replace H := k_getFld C H (hw _ (List.mem_of_getElem? (i := 80) rfl)) F_start dP_109 (pc' := 112) rfl
  replace H := k_iloadN C H dP_112 rfl (pc' := 113) rfl
  have szn : h0.size ≤ q51.size := KK.1
  have nzn := Z_q51
  have lt_a1 : a1 < q51.size := E.lt
  have lt_a2 : a2 < q51.size := XG.lt
  have lt_pr : pr < q51.size := AP.lt
  have lt_ar : ar < q51.size := XA.lt
  have lt_ss : ss < q51.size := BS.lt
  have lt_sc : sc < q51.size := BC.lt
  have lt_st : st < q51.size := V_st.lt
  have lt_vt : vt < q51.size := V_vt.lt
  replace H := k_callSta C H (rmO l Z a0 hw st (4 : Int32) q51 n0 rfl Z_q51 V_st) (hw _ (List.mem_of_getElem? (i := 114) rfl)) (hw _ (List.mem_of_getElem? (i := 115) rfl)) (hw _ (List.mem_of_getElem? (i := 116) rfl)) (hw _ (List.mem_of_getElem? (i := 117) rfl)) (by decide) dP_113 rfl [(.ref st), (.int (4 : Int32))] [] pdP_3 rfl rfl rfl 0 rfl (by decide) (by decide) (by decide) (by decide) (pc' := 116) rfl
  obtain ⟨_, h_nx, ⟨nx, rfl, g_nx, K_nx, V_nx⟩, H⟩ := H
  replace H : K 116 #[.val (.ref a1), .val (.ref a2), .val (.int (4 : Int32)), .val (.int (4 : Int32)), .val (.int (1 : Int32)), .unset] [(.ref nx)] h_nx 3 13 := H
  replace E := E.keep K_nx
  replace F_start := F_start.keep K_nx nin0
  replace F_vertices := F_vertices.keep K_nx nin0
  replace XG := XG.keep K_nx
  replace FA := FA.keep K_nx nin0
  replace FP := FP.keep K_nx nin0
  replace AP := AP.keep K_nx nin0
  replace XA := XA.keep K_nx
  replace FS := FS.keep K_nx nin0
  replace FC := FC.keep K_nx nin0
  replace BS := BS.keep K_nx nin0
  replace BC := BC.keep K_nx nin0
  replace V_st := V_st.keep K_nx nin0
  replace V_vt := V_vt.keep K_nx nin0
  replace KK := KK.trans K_nx all0
  have Z_h_nx : n0 ≤ h_nx.size := Nat.le_trans Z_q51 K_nx.1
  have ne_a1_nx : a1 ≠ nx := Nat.ne_of_lt (Nat.lt_of_lt_of_le lt_a1 g_nx)
  have ne_a2_nx : a2 ≠ nx := Nat.ne_of_lt (Nat.lt_of_lt_of_le lt_a2 g_nx)
  have ne_pr_nx : pr ≠ nx := Nat.ne_of_lt (Nat.lt_of_lt_of_le lt_pr g_nx)
  have ne_ar_nx : ar ≠ nx := Nat.ne_of_lt (Nat.lt_of_lt_of_le lt_ar g_nx)
  have ne_ss_nx : ss ≠ nx := Nat.ne_of_lt (Nat.lt_of_lt_of_le lt_ss g_nx)
  have ne_sc_nx : sc ≠ nx := Nat.ne_of_lt (Nat.lt_of_lt_of_le lt_sc g_nx)
  have ne_st_nx : st ≠ nx := Nat.ne_of_lt (Nat.lt_of_lt_of_le lt_st g_nx)
  have ne_vt_nx : vt ≠ nx := Nat.ne_of_lt (Nat.lt_of_lt_of_le lt_vt g_nx)
  have s_nx : h0.size ≤ nx := Nat.le_trans szn g_nx
  have n_nx : n0 ≤ nx := Nat.le_trans nzn g_nx
  replace H := k_astoreN C H dP_116 (L' := #[.val (.ref a1), .val (.ref a2), .val (.int (4 : Int32)), .val (.ref nx), .val (.int (1 : Int32)), .unset]) rfl rfl (pc' := 117) rfl
  replace H := k_iconst C H (v := 0) dP_117 rfl (pc' := 118) rfl
  replace H := k_istore C H dP_118 (L' := #[.val (.ref a1), .val (.ref a2), .val (.int (4 : Int32)), .val (.ref nx), .val (.int (0 : Int32)), .unset]) rfl (pc' := 120) rfl
  replace H := k_iload C H dP_120 rfl (pc' := 122) rfl
  replace H := k_iloadN C H dP_122 rfl (pc' := 123) rfl
  replace H := k_icmpN C H dP_123 (tlt (by decide : (0 : Int32) < (4 : Int32))).2.1 (pc' := 126) rfl
  replace H := k_iconst C H (v := 0) dP_126 rfl (pc' := 127) rfl
  replace H := k_istore C H dP_127 (L' := #[.val (.ref a1), .val (.ref a2), .val (.int (4 : Int32)), .val (.ref nx), .val (.int (0 : Int32)), .val (.int (0 : Int32))]) rfl (pc' := 129) rfl
  replace H := k_iload C H dP_129 rfl (pc' := 131) rfl
  replace H := k_aloadN C H dP_131 rfl rfl (pc' := 132) rfl
  replace H := k_iload C H dP_132 rfl (pc' := 134) rfl
  replace H := k_callVir C H (rmgc0 l Z a0 hw a2 (0 : Int32) h_nx n0 rfl ar pr ss sc FA FP AP XA FS FC BS BC) XG (hw _ (List.mem_of_getElem? (i := 94) rfl)) (hw _ (List.mem_of_getElem? (i := 95) rfl)) (hw _ (List.mem_of_getElem? (i := 97) rfl)) (hw _ (List.mem_of_getElem? (i := 96) rfl)) (hw _ (List.mem_of_getElem? (i := 7) rfl)) (hw _ (List.mem_of_getElem? (i := 98) rfl)) (by decide) dP_134 rfl [(.int (0 : Int32))] [(.int (0 : Int32))] pdP_1 rfl rfl rfl 1 rfl (by decide) (by decide) (by decide) (by decide) (pc' := 137) rfl
  obtain ⟨_, _, ⟨rfl, rfl⟩, H⟩ := H
  replace H : K 137 #[.val (.ref a1), .val (.ref a2), .val (.int (4 : Int32)), .val (.ref nx), .val (.int (0 : Int32)), .val (.int (0 : Int32))] [(.int (1 : Int32)), (.int (0 : Int32))] h_nx 3 13 := H
  replace H := k_icmpN C H dP_137 (tlt (by decide : (0 : Int32) < (1 : Int32))).2.1 (pc' := 140) rfl
  replace H := k_aloadN C H dP_140 rfl rfl (pc' := 141) rfl
  replace H := k_getFld C H (hw _ (List.mem_of_getElem? (i := 92) rfl)) F_vertices dP_141 (pc' := 144) rfl
  replace H := k_aloadN C H dP_144 rfl rfl (pc' := 145) rfl
  replace H := k_aloadN C H dP_145 rfl rfl (pc' := 146) rfl
  replace H := k_iload C H dP_146 rfl (pc' := 148) rfl
  replace H := k_iload C H dP_148 rfl (pc' := 150) rfl
  replace H := k_callVir C H (rmgs0 l Z a0 hw a2 (0 : Int32) (0 : Int32) h_nx n0 rfl rfl ar pr ss sc FA FP AP XA FS FC BS BC) XG (hw _ (List.mem_of_getElem? (i := 104) rfl)) (hw _ (List.mem_of_getElem? (i := 105) rfl)) (hw _ (List.mem_of_getElem? (i := 107) rfl)) (hw _ (List.mem_of_getElem? (i := 106) rfl)) (hw _ (List.mem_of_getElem? (i := 7) rfl)) (hw _ (List.mem_of_getElem? (i := 108) rfl)) (by decide) dP_150 rfl [(.int (0 : Int32)), (.int (0 : Int32))] [(.ref nx), (.ref vt)] pdP_2 rfl rfl rfl 2 rfl (by decide) (by decide) (by decide) (by decide) (pc' := 153) rfl
  obtain ⟨_, _, ⟨rfl, rfl⟩, H⟩ := H
  replace H : K 153 #[.val (.ref a1), .val (.ref a2), .val (.int (4 : Int32)), .val (.ref nx), .val (.int (0 : Int32)), .val (.int (0 : Int32))] [(.int (0 : Int32)), (.ref nx), (.ref vt)] h_nx 3 13 := H
  replace H := k_dup2 C H dP_153 rfl rfl (pc' := 154) rfl
  replace H := k_iaload C H V_nx (i := 0) (by decide) (by decide) dP_154 (pc' := 155) rfl
  replace H : K 155 #[.val (.ref a1), .val (.ref a2), .val (.int (4 : Int32)), .val (.ref nx), .val (.int (0 : Int32)), .val (.int (0 : Int32))] [(.int (0 : Int32)), (.int (0 : Int32)), (.ref nx), (.ref vt)] h_nx 3 13 := H
  replace H := k_dupX2 C H dP_155 rfl rfl rfl (pc' := 156) rfl
  replace H := k_iconst C H (v := 1) dP_156 rfl (pc' := 157) rfl
  replace H := k_iadd C H dP_157 (pc' := 158) rfl
  replace H : K 158 #[.val (.ref a1), .val (.ref a2), .val (.int (4 : Int32)), .val (.ref nx), .val (.int (0 : Int32)), .val (.int (0 : Int32))] [(.int (1 : Int32)), (.int (0 : Int32)), (.ref nx), (.int (0 : Int32)), (.ref vt)] h_nx 3 13 := H
  replace H := k_iastore C H V_nx (i := 0) (by decide) (by decide) n_nx dP_158 (pc' := 159) rfl
  obtain ⟨q58, W_q58, V_nx, H⟩ := H
  replace V_nx : Ari Z q58 nx .int 4 (lf [(1 : Int32), (1 : Int32), (2 : Int32), (3 : Int32)]) := V_nx.congr (fun k _ => lf_set _ _ _ (Nat.le_of_ble_eq_true rfl) k)
  replace E := E.wr W_q58
  replace F_start := F_start.other W_q58 (Or.inl ne_a1_nx)
  replace F_vertices := F_vertices.other W_q58 (Or.inl ne_a1_nx)
  replace XG := XG.wr W_q58
  replace FA := FA.other W_q58 (Or.inl ne_a2_nx)
  replace FP := FP.other W_q58 (Or.inl ne_a2_nx)
  replace AP := AP.other W_q58 ne_pr_nx
  replace XA := XA.wr W_q58
  replace FS := FS.other W_q58 (Or.inl ne_ar_nx)
  replace FC := FC.other W_q58 (Or.inl ne_ar_nx)
  replace BS := BS.other W_q58 ne_ss_nx
  replace BC := BC.other W_q58 ne_sc_nx
  replace V_st := V_st.other W_q58 ne_st_nx
  replace V_vt := V_vt.other W_q58 ne_vt_nx
  have Z_q58 : n0 ≤ q58.size := by rw [W_q58.size]; exact Z_h_nx
  replace KK := KK.wr W_q58 (Or.inr s_nx)
  replace H := k_iload C H dP_159 rfl (pc' := 161) rfl
  replace H := k_iastore C H V_vt (i := 0) (by decide) (by decide) n_vt dP_161 (pc' := 162) rfl
  obtain ⟨q59, W_q59, V_vt, H⟩ := H
  replace V_vt : Ari Z q59 vt .int 4 (lf [(0 : Int32), (0 : Int32), (0 : Int32), (0 : Int32)]) := V_vt.congr (fun k _ => lf_set _ _ _ (Nat.le_of_ble_eq_true rfl) k)
  replace E := E.wr W_q59
  replace F_start := F_start.other W_q59 (Or.inl ne_a1_vt)
  replace F_vertices := F_vertices.other W_q59 (Or.inl ne_a1_vt)
  replace XG := XG.wr W_q59
  replace FA := FA.other W_q59 (Or.inl ne_a2_vt)
  replace FP := FP.other W_q59 (Or.inl ne_a2_vt)
  replace AP := AP.other W_q59 ne_pr_vt
  replace XA := XA.wr W_q59
  replace FS := FS.other W_q59 (Or.inl ne_ar_vt)
  replace FC := FC.other W_q59 (Or.inl ne_ar_vt)
  replace BS := BS.other W_q59 ne_ss_vt
  replace BC := BC.other W_q59 ne_sc_vt
  replace V_st := V_st.other W_q59 ne_st_vt
  replace V_nx := V_nx.other W_q59 (Ne.symm ne_vt_nx)
  have Z_q59 : n0 ≤ q59.size := by rw [W_q59.size]; exact Z_q58
  replace KK := KK.wr W_q59 (Or.inr s_vt)
  replace H := k_iinc C H (y := ((0 : Int32) + (1 : Int32))) dP_162 rfl rfl (L' := #[.val (.ref a1), .val (.ref a2), .val (.int (4 : Int32)), .val (.ref nx), .val (.int (0 : Int32)), .val (.int ((0 : Int32) + (1 : Int32)))]) rfl (pc' := 165) rfl
  replace H : K 165 #[.val (.ref a1), .val (.ref a2), .val (.int (4 : Int32)), .val (.ref nx), .val (.int (0 : Int32)), .val (.int (1 : Int32))] [] q59 3 13 := H
  replace H := k_goto C H dP_165 (by decide) (pc' := 129) rfl
  replace H := k_iload C H dP_129 rfl (pc' := 131) rfl
  replace H := k_aloadN C H dP_131 rfl rfl (pc' := 132) rfl
  replace H := k_iload C H dP_132 rfl (pc' := 134) rfl
  replace H := k_callVir C H (rmgc0 l Z a0 hw a2 (0 : Int32) q59 n0 rfl ar pr ss sc FA FP AP XA FS FC BS BC) XG (hw _ (List.mem_of_getElem? (i := 94) rfl)) (hw _ (List.mem_of_getElem? (i := 95) rfl)) (hw _ (List.mem_of_getElem? (i := 97) rfl)) (hw _ (List.mem_of_getElem? (i := 96) rfl)) (hw _ (List.mem_of_getElem? (i := 7) rfl)) (hw _ (List.mem_of_getElem? (i := 98) rfl)) (by decide) dP_134 rfl [(.int (0 : Int32))] [(.int (1 : Int32))] pdP_1 rfl rfl rfl 1 rfl (by decide) (by decide) (by decide) (by decide) (pc' := 137) rfl
  obtain ⟨_, _, ⟨rfl, rfl⟩, H⟩ := H
  replace H : K 137 #[.val (.ref a1), .val (.ref a2), .val (.int (4 : Int32)), .val (.ref nx), .val (.int (0 : Int32)), .val (.int (1 : Int32))] [(.int (1 : Int32)), (.int (1 : Int32))] q59 3 13 := H
  replace H := k_icmpY C H dP_137 (flt (by decide : ¬ ((1 : Int32) < (1 : Int32)))).2.1 (by decide) (pc' := 168) rfl
  replace H := k_iinc C H (y := ((0 : Int32) + (1 : Int32))) dP_168 rfl rfl (L' := #[.val (.ref a1), .val (.ref a2), .val (.int (4 : Int32)), .val (.ref nx), .val (.int ((0 : Int32) + (1 : Int32))), .val (.int (1 : Int32))]) rfl (pc' := 171) rfl
  replace H : K 171 #[.val (.ref a1), .val (.ref a2), .val (.int (4 : Int32)), .val (.ref nx), .val (.int (1 : Int32)), .val (.int (1 : Int32))] [] q59 3 13 := H
  replace H := k_goto C H dP_171 (by decide) (pc' := 120) rfl
  replace H := k_iload C H dP_120 rfl (pc' := 122) rfl
  replace H := k_iloadN C H dP_122 rfl (pc' := 123) rfl
  replace H := k_icmpN C H dP_123 (tlt (by decide : (1 : Int32) < (4 : Int32))).2.1 (pc' := 126) rfl
  replace H := k_iconst C H (v := 0) dP_126 rfl (pc' := 127) rfl
  replace H := k_istore C H dP_127 (L' := #[.val (.ref a1), .val (.ref a2), .val (.int (4 : Int32)), .val (.ref nx), .val (.int (1 : Int32)), .val (.int (0 : Int32))]) rfl (pc' := 129) rfl
  replace H := k_iload C H dP_129 rfl (pc' := 131) rfl
  replace H := k_aloadN C H dP_131 rfl rfl (pc' := 132) rfl
  replace H := k_iload C H dP_132 rfl (pc' := 134) rfl
  replace H := k_callVir C H (rmgc1 l Z a0 hw a2 (1 : Int32) q59 n0 rfl ar pr ss sc FA FP AP XA FS FC BS BC) XG (hw _ (List.mem_of_getElem? (i := 94) rfl)) (hw _ (List.mem_of_getElem? (i := 95) rfl)) (hw _ (List.mem_of_getElem? (i := 97) rfl)) (hw _ (List.mem_of_getElem? (i := 96) rfl)) (hw _ (List.mem_of_getElem? (i := 7) rfl)) (hw _ (List.mem_of_getElem? (i := 98) rfl)) (by decide) dP_134 rfl [(.int (1 : Int32))] [(.int (0 : Int32))] pdP_1 rfl rfl rfl 1 rfl (by decide) (by decide) (by decide) (by decide) (pc' := 137) rfl
  obtain ⟨_, _, ⟨rfl, rfl⟩, H⟩ := H
  replace H : K 137 #[.val (.ref a1), .val (.ref a2), .val (.int (4 : Int32)), .val (.ref nx), .val (.int (1 : Int32)), .val (.int (0 : Int32))] [(.int (1 : Int32)), (.int (0 : Int32))] q59 3 13 := H
  replace H := k_icmpN C H dP_137 (tlt (by decide : (0 : Int32) < (1 : Int32))).2.1 (pc' := 140) rfl
  replace H := k_aloadN C H dP_140 rfl rfl (pc' := 141) rfl
  replace H := k_getFld C H (hw _ (List.mem_of_getElem? (i := 92) rfl)) F_vertices dP_141 (pc' := 144) rfl
  replace H := k_aloadN C H dP_144 rfl rfl (pc' := 145) rfl
  replace H := k_aloadN C H dP_145 rfl rfl (pc' := 146) rfl
  replace H := k_iload C H dP_146 rfl (pc' := 148) rfl
  replace H := k_iload C H dP_148 rfl (pc' := 150) rfl
  replace H := k_callVir C H (rmgs1 l Z a0 hw a2 (1 : Int32) (0 : Int32) q59 n0 rfl rfl ar pr ss sc FA FP AP XA FS FC BS BC) XG (hw _ (List.mem_of_getElem? (i := 104) rfl)) (hw _ (List.mem_of_getElem? (i := 105) rfl)) (hw _ (List.mem_of_getElem? (i := 107) rfl)) (hw _ (List.mem_of_getElem? (i := 106) rfl)) (hw _ (List.mem_of_getElem? (i := 7) rfl)) (hw _ (List.mem_of_getElem? (i := 108) rfl)) (by decide) dP_150 rfl [(.int (1 : Int32)), (.int (0 : Int32))] [(.ref nx), (.ref vt)] pdP_2 rfl rfl rfl 2 rfl (by decide) (by decide) (by decide) (by decide) (pc' := 153) rfl
  obtain ⟨_, _, ⟨rfl, rfl⟩, H⟩ := H
  replace H : K 153 #[.val (.ref a1), .val (.ref a2), .val (.int (4 : Int32)), .val (.ref nx), .val (.int (1 : Int32)), .val (.int (0 : Int32))] [(.int (1 : Int32)), (.ref nx), (.ref vt)] q59 3 13 := H
  replace H := k_dup2 C H dP_153 rfl rfl (pc' := 154) rfl
  replace H := k_iaload C H V_nx (i := 1) (by decide) (by decide) dP_154 (pc' := 155) rfl
  replace H : K 155 #[.val (.ref a1), .val (.ref a2), .val (.int (4 : Int32)), .val (.ref nx), .val (.int (1 : Int32)), .val (.int (0 : Int32))] [(.int (1 : Int32)), (.int (1 : Int32)), (.ref nx), (.ref vt)] q59 3 13 := H
  replace H := k_dupX2 C H dP_155 rfl rfl rfl (pc' := 156) rfl
  replace H := k_iconst C H (v := 1) dP_156 rfl (pc' := 157) rfl
  replace H := k_iadd C H dP_157 (pc' := 158) rfl
  replace H : K 158 #[.val (.ref a1), .val (.ref a2), .val (.int (4 : Int32)), .val (.ref nx), .val (.int (1 : Int32)), .val (.int (0 : Int32))] [(.int (2 : Int32)), (.int (1 : Int32)), (.ref nx), (.int (1 : Int32)), (.ref vt)] q59 3 13 := H
  replace H := k_iastore C H V_nx (i := 1) (by decide) (by decide) n_nx dP_158 (pc' := 159) rfl
  obtain ⟨q65, W_q65, V_nx, H⟩ := H
  replace V_nx : Ari Z q65 nx .int 4 (lf [(1 : Int32), (2 : Int32), (2 : Int32), (3 : Int32)]) := V_nx.congr (fun k _ => lf_set _ _ _ (Nat.le_of_ble_eq_true rfl) k)
  replace E := E.wr W_q65
  replace F_start := F_start.other W_q65 (Or.inl ne_a1_nx)
  replace F_vertices := F_vertices.other W_q65 (Or.inl ne_a1_nx)
  replace XG := XG.wr W_q65
  replace FA := FA.other W_q65 (Or.inl ne_a2_nx)
  replace FP := FP.other W_q65 (Or.inl ne_a2_nx)
  replace AP := AP.other W_q65 ne_pr_nx
  replace XA := XA.wr W_q65
  replace FS := FS.other W_q65 (Or.inl ne_ar_nx)
  replace FC := FC.other W_q65 (Or.inl ne_ar_nx)
  replace BS := BS.other W_q65 ne_ss_nx
  replace BC := BC.other W_q65 ne_sc_nx
  replace V_st := V_st.other W_q65 ne_st_nx
  replace V_vt := V_vt.other W_q65 ne_vt_nx
  have Z_q65 : n0 ≤ q65.size := by rw [W_q65.size]; exact Z_q59
  replace KK := KK.wr W_q65 (Or.inr s_nx)
  replace H := k_iload C H dP_159 rfl (pc' := 161) rfl
  replace H := k_iastore C H V_vt (i := 1) (by decide) (by decide) n_vt dP_161 (pc' := 162) rfl
  obtain ⟨q66, W_q66, V_vt, H⟩ := H
  replace V_vt : Ari Z q66 vt .int 4 (lf [(0 : Int32), (1 : Int32), (0 : Int32), (0 : Int32)]) := V_vt.congr (fun k _ => lf_set _ _ _ (Nat.le_of_ble_eq_true rfl) k)
  replace E := E.wr W_q66
  replace F_start := F_start.other W_q66 (Or.inl ne_a1_vt)
  replace F_vertices := F_vertices.other W_q66 (Or.inl ne_a1_vt)
  replace XG := XG.wr W_q66
  replace FA := FA.other W_q66 (Or.inl ne_a2_vt)
  replace FP := FP.other W_q66 (Or.inl ne_a2_vt)
  replace AP := AP.other W_q66 ne_pr_vt
  replace XA := XA.wr W_q66
  replace FS := FS.other W_q66 (Or.inl ne_ar_vt)
  replace FC := FC.other W_q66 (Or.inl ne_ar_vt)
  replace BS := BS.other W_q66 ne_ss_vt
  replace BC := BC.other W_q66 ne_sc_vt
  replace V_st := V_st.other W_q66 ne_st_vt
  replace V_nx := V_nx.other W_q66 (Ne.symm ne_vt_nx)
  have Z_q66 : n0 ≤ q66.size := by rw [W_q66.size]; exact Z_q65
  replace KK := KK.wr W_q66 (Or.inr s_vt)
  replace H := k_iinc C H (y := ((0 : Int32) + (1 : Int32))) dP_162 rfl rfl (L' := #[.val (.ref a1), .val (.ref a2), .val (.int (4 : Int32)), .val (.ref nx), .val (.int (1 : Int32)), .val (.int ((0 : Int32) + (1 : Int32)))]) rfl (pc' := 165) rfl
  replace H : K 165 #[.val (.ref a1), .val (.ref a2), .val (.int (4 : Int32)), .val (.ref nx), .val (.int (1 : Int32)), .val (.int (1 : Int32))] [] q66 3 13 := H
  replace H := k_goto C H dP_165 (by decide) (pc' := 129) rfl
  replace H := k_iload C H dP_129 rfl (pc' := 131) rfl
  replace H := k_aloadN C H dP_131 rfl rfl (pc' := 132) rfl
  replace H := k_iload C H dP_132 rfl (pc' := 134) rfl
  replace H := k_callVir C H (rmgc1 l Z a0 hw a2 (1 : Int32) q66 n0 rfl ar pr ss sc FA FP AP XA FS FC BS BC) XG (hw _ (List.mem_of_getElem? (i := 94) rfl)) (hw _ (List.mem_of_getElem? (i := 95) rfl)) (hw _ (List.mem_of_getElem? (i := 97) rfl)) (hw _ (List.mem_of_getElem? (i := 96) rfl)) (hw _ (List.mem_of_getElem? (i := 7) rfl)) (hw _ (List.mem_of_getElem? (i := 98) rfl)) (by decide) dP_134 rfl [(.int (1 : Int32))] [(.int (1 : Int32))] pdP_1 rfl rfl rfl 1 rfl (by decide) (by decide) (by decide) (by decide) (pc' := 137) rfl
  obtain ⟨_, _, ⟨rfl, rfl⟩, H⟩ := H
  replace H : K 137 #[.val (.ref a1), .val (.ref a2), .val (.int (4 : Int32)), .val (.ref nx), .val (.int (1 : Int32)), .val (.int (1 : Int32))] [(.int (1 : Int32)), (.int (1 : Int32))] q66 3 13 := H
  replace H := k_icmpY C H dP_137 (flt (by decide : ¬ ((1 : Int32) < (1 : Int32)))).2.1 (by decide) (pc' := 168) rfl
  replace H := k_iinc C H (y := ((1 : Int32) + (1 : Int32))) dP_168 rfl rfl (L' := #[.val (.ref a1), .val (.ref a2), .val (.int (4 : Int32)), .val (.ref nx), .val (.int ((1 : Int32) + (1 : Int32))), .val (.int (1 : Int32))]) rfl (pc' := 171) rfl
  replace H : K 171 #[.val (.ref a1), .val (.ref a2), .val (.int (4 : Int32)), .val (.ref nx), .val (.int (2 : Int32)), .val (.int (1 : Int32))] [] q66 3 13 := H
  replace H := k_goto C H dP_171 (by decide) (pc' := 120) rfl
  replace H := k_iload C H dP_120 rfl (pc' := 122) rfl
  replace H := k_iloadN C H dP_122 rfl (pc' := 123) rfl
  replace H := k_icmpN C H dP_123 (tlt (by decide : (2 : Int32) < (4 : Int32))).2.1 (pc' := 126) rfl
  replace H := k_iconst C H (v := 0) dP_126 rfl (pc' := 127) rfl
  replace H := k_istore C H dP_127 (L' := #[.val (.ref a1), .val (.ref a2), .val (.int (4 : Int32)), .val (.ref nx), .val (.int (2 : Int32)), .val (.int (0 : Int32))]) rfl (pc' := 129) rfl
  replace H := k_iload C H dP_129 rfl (pc' := 131) rfl
  replace H := k_aloadN C H dP_131 rfl rfl (pc' := 132) rfl
  replace H := k_iload C H dP_132 rfl (pc' := 134) rfl
  replace H := k_callVir C H (rmgc2 l Z a0 hw a2 (2 : Int32) q66 n0 rfl ar pr ss sc FA FP AP XA FS FC BS BC) XG (hw _ (List.mem_of_getElem? (i := 94) rfl)) (hw _ (List.mem_of_getElem? (i := 95) rfl)) (hw _ (List.mem_of_getElem? (i := 97) rfl)) (hw _ (List.mem_of_getElem? (i := 96) rfl)) (hw _ (List.mem_of_getElem? (i := 7) rfl)) (hw _ (List.mem_of_getElem? (i := 98) rfl)) (by decide) dP_134 rfl [(.int (2 : Int32))] [(.int (0 : Int32))] pdP_1 rfl rfl rfl 1 rfl (by decide) (by decide) (by decide) (by decide) (pc' := 137) rfl
  obtain ⟨_, _, ⟨rfl, rfl⟩, H⟩ := H
  replace H : K 137 #[.val (.ref a1), .val (.ref a2), .val (.int (4 : Int32)), .val (.ref nx), .val (.int (2 : Int32)), .val (.int (0 : Int32))] [(.int (1 : Int32)), (.int (0 : Int32))] q66 3 13 := H
  replace H := k_icmpN C H dP_137 (tlt (by decide : (0 : Int32) < (1 : Int32))).2.1 (pc' := 140) rfl
  replace H := k_aloadN C H dP_140 rfl rfl (pc' := 141) rfl
  replace H := k_getFld C H (hw _ (List.mem_of_getElem? (i := 92) rfl)) F_vertices dP_141 (pc' := 144) rfl
  replace H := k_aloadN C H dP_144 rfl rfl (pc' := 145) rfl
  replace H := k_aloadN C H dP_145 rfl rfl (pc' := 146) rfl
  replace H := k_iload C H dP_146 rfl (pc' := 148) rfl
  replace H := k_iload C H dP_148 rfl (pc' := 150) rfl
  replace H := k_callVir C H (rmgs2 l Z a0 hw a2 (2 : Int32) (0 : Int32) q66 n0 rfl rfl ar pr ss sc FA FP AP XA FS FC BS BC) XG (hw _ (List.mem_of_getElem? (i := 104) rfl)) (hw _ (List.mem_of_getElem? (i := 105) rfl)) (hw _ (List.mem_of_getElem? (i := 107) rfl)) (hw _ (List.mem_of_getElem? (i := 106) rfl)) (hw _ (List.mem_of_getElem? (i := 7) rfl)) (hw _ (List.mem_of_getElem? (i := 108) rfl)) (by decide) dP_150 rfl [(.int (2 : Int32)), (.int (0 : Int32))] [(.ref nx), (.ref vt)] pdP_2 rfl rfl rfl 2 rfl (by decide) (by decide) (by decide) (by decide) (pc' := 153) rfl
  obtain ⟨_, _, ⟨rfl, rfl⟩, H⟩ := H
  replace H : K 153 #[.val (.ref a1), .val (.ref a2), .val (.int (4 : Int32)), .val (.ref nx), .val (.int (2 : Int32)), .val (.int (0 : Int32))] [(.int (2 : Int32)), (.ref nx), (.ref vt)] q66 3 13 := H
  replace H := k_dup2 C H dP_153 rfl rfl (pc' := 154) rfl
  replace H := k_iaload C H V_nx (i := 2) (by decide) (by decide) dP_154 (pc' := 155) rfl
  replace H : K 155 #[.val (.ref a1), .val (.ref a2), .val (.int (4 : Int32)), .val (.ref nx), .val (.int (2 : Int32)), .val (.int (0 : Int32))] [(.int (2 : Int32)), (.int (2 : Int32)), (.ref nx), (.ref vt)] q66 3 13 := H
  replace H := k_dupX2 C H dP_155 rfl rfl rfl (pc' := 156) rfl
  replace H := k_iconst C H (v := 1) dP_156 rfl (pc' := 157) rfl
  replace H := k_iadd C H dP_157 (pc' := 158) rfl
  replace H : K 158 #[.val (.ref a1), .val (.ref a2), .val (.int (4 : Int32)), .val (.ref nx), .val (.int (2 : Int32)), .val (.int (0 : Int32))] [(.int (3 : Int32)), (.int (2 : Int32)), (.ref nx), (.int (2 : Int32)), (.ref vt)] q66 3 13 := H
  replace H := k_iastore C H V_nx (i := 2) (by decide) (by decide) n_nx dP_158 (pc' := 159) rfl
  obtain ⟨q72, W_q72, V_nx, H⟩ := H
  replace V_nx : Ari Z q72 nx .int 4 (lf [(1 : Int32), (2 : Int32), (3 : Int32), (3 : Int32)]) := V_nx.congr (fun k _ => lf_set _ _ _ (Nat.le_of_ble_eq_true rfl) k)
  replace E := E.wr W_q72
  replace F_start := F_start.other W_q72 (Or.inl ne_a1_nx)
  replace F_vertices := F_vertices.other W_q72 (Or.inl ne_a1_nx)
  replace XG := XG.wr W_q72
  replace FA := FA.other W_q72 (Or.inl ne_a2_nx)
  replace FP := FP.other W_q72 (Or.inl ne_a2_nx)
  replace AP := AP.other W_q72 ne_pr_nx
  replace XA := XA.wr W_q72
  replace FS := FS.other W_q72 (Or.inl ne_ar_nx)
  replace FC := FC.other W_q72 (Or.inl ne_ar_nx)
  replace BS := BS.other W_q72 ne_ss_nx
  replace BC := BC.other W_q72 ne_sc_nx
  replace V_st := V_st.other W_q72 ne_st_nx
  replace V_vt := V_vt.other W_q72 ne_vt_nx
  have Z_q72 : n0 ≤ q72.size := by rw [W_q72.size]; exact Z_q66
  replace KK := KK.wr W_q72 (Or.inr s_nx)
  replace H := k_iload C H dP_159 rfl (pc' := 161) rfl
  replace H := k_iastore C H V_vt (i := 2) (by decide) (by decide) n_vt dP_161 (pc' := 162) rfl
  obtain ⟨q73, W_q73, V_vt, H⟩ := H
  replace V_vt : Ari Z q73 vt .int 4 (lf [(0 : Int32), (1 : Int32), (2 : Int32), (0 : Int32)]) := V_vt.congr (fun k _ => lf_set _ _ _ (Nat.le_of_ble_eq_true rfl) k)
  replace E := E.wr W_q73
  replace F_start := F_start.other W_q73 (Or.inl ne_a1_vt)
  replace F_vertices := F_vertices.other W_q73 (Or.inl ne_a1_vt)
  replace XG := XG.wr W_q73
  replace FA := FA.other W_q73 (Or.inl ne_a2_vt)
  replace FP := FP.other W_q73 (Or.inl ne_a2_vt)
  replace AP := AP.other W_q73 ne_pr_vt
  replace XA := XA.wr W_q73
  replace FS := FS.other W_q73 (Or.inl ne_ar_vt)
  replace FC := FC.other W_q73 (Or.inl ne_ar_vt)
  replace BS := BS.other W_q73 ne_ss_vt
  replace BC := BC.other W_q73 ne_sc_vt
  replace V_st := V_st.other W_q73 ne_st_vt
  replace V_nx := V_nx.other W_q73 (Ne.symm ne_vt_nx)
  have Z_q73 : n0 ≤ q73.size := by rw [W_q73.size]; exact Z_q72
  replace KK := KK.wr W_q73 (Or.inr s_vt)
  replace H := k_iinc C H (y := ((0 : Int32) + (1 : Int32))) dP_162 rfl rfl (L' := #[.val (.ref a1), .val (.ref a2), .val (.int (4 : Int32)), .val (.ref nx), .val (.int (2 : Int32)), .val (.int ((0 : Int32) + (1 : Int32)))]) rfl (pc' := 165) rfl
  replace H : K 165 #[.val (.ref a1), .val (.ref a2), .val (.int (4 : Int32)), .val (.ref nx), .val (.int (2 : Int32)), .val (.int (1 : Int32))] [] q73 3 13 := H
  replace H := k_goto C H dP_165 (by decide) (pc' := 129) rfl
  replace H := k_iload C H dP_129 rfl (pc' := 131) rfl
  replace H := k_aloadN C H dP_131 rfl rfl (pc' := 132) rfl
  replace H := k_iload C H dP_132 rfl (pc' := 134) rfl
  replace H := k_callVir C H (rmgc2 l Z a0 hw a2 (2 : Int32) q73 n0 rfl ar pr ss sc FA FP AP XA FS FC BS BC) XG (hw _ (List.mem_of_getElem? (i := 94) rfl)) (hw _ (List.mem_of_getElem? (i := 95) rfl)) (hw _ (List.mem_of_getElem? (i := 97) rfl)) (hw _ (List.mem_of_getElem? (i := 96) rfl)) (hw _ (List.mem_of_getElem? (i := 7) rfl)) (hw _ (List.mem_of_getElem? (i := 98) rfl)) (by decide) dP_134 rfl [(.int (2 : Int32))] [(.int (1 : Int32))] pdP_1 rfl rfl rfl 1 rfl (by decide) (by decide) (by decide) (by decide) (pc' := 137) rfl
  obtain ⟨_, _, ⟨rfl, rfl⟩, H⟩ := H
  replace H : K 137 #[.val (.ref a1), .val (.ref a2), .val (.int (4 : Int32)), .val (.ref nx), .val (.int (2 : Int32)), .val (.int (1 : Int32))] [(.int (1 : Int32)), (.int (1 : Int32))] q73 3 13 := H
  replace H := k_icmpY C H dP_137 (flt (by decide : ¬ ((1 : Int32) < (1 : Int32)))).2.1 (by decide) (pc' := 168) rfl
  replace H := k_iinc C H (y := ((2 : Int32) + (1 : Int32))) dP_168 rfl rfl (L' := #[.val (.ref a1), .val (.ref a2), .val (.int (4 : Int32)), .val (.ref nx), .val (.int ((2 : Int32) + (1 : Int32))), .val (.int (1 : Int32))]) rfl (pc' := 171) rfl
  replace H : K 171 #[.val (.ref a1), .val (.ref a2), .val (.int (4 : Int32)), .val (.ref nx), .val (.int (3 : Int32)), .val (.int (1 : Int32))] [] q73 3 13 := H
  replace H := k_goto C H dP_171 (by decide) (pc' := 120) rfl
  replace H := k_iload C H dP_120 rfl (pc' := 122) rfl
  replace H := k_iloadN C H dP_122 rfl (pc' := 123) rfl
  replace H := k_icmpN C H dP_123 (tlt (by decide : (3 : Int32) < (4 : Int32))).2.1 (pc' := 126) rfl
  replace H := k_iconst C H (v := 0) dP_126 rfl (pc' := 127) rfl
  replace H := k_istore C H dP_127 (L' := #[.val (.ref a1), .val (.ref a2), .val (.int (4 : Int32)), .val (.ref nx), .val (.int (3 : Int32)), .val (.int (0 : Int32))]) rfl (pc' := 129) rfl
  replace H := k_iload C H dP_129 rfl (pc' := 131) rfl
  replace H := k_aloadN C H dP_131 rfl rfl (pc' := 132) rfl
  replace H := k_iload C H dP_132 rfl (pc' := 134) rfl
  replace H := k_callVir C H (rmgc3 l Z a0 hw a2 (3 : Int32) q73 n0 rfl ar pr ss sc FA FP AP XA FS FC BS BC) XG (hw _ (List.mem_of_getElem? (i := 94) rfl)) (hw _ (List.mem_of_getElem? (i := 95) rfl)) (hw _ (List.mem_of_getElem? (i := 97) rfl)) (hw _ (List.mem_of_getElem? (i := 96) rfl)) (hw _ (List.mem_of_getElem? (i := 7) rfl)) (hw _ (List.mem_of_getElem? (i := 98) rfl)) (by decide) dP_134 rfl [(.int (3 : Int32))] [(.int (0 : Int32))] pdP_1 rfl rfl rfl 1 rfl (by decide) (by decide) (by decide) (by decide) (pc' := 137) rfl
  obtain ⟨_, _, ⟨rfl, rfl⟩, H⟩ := H
  replace H : K 137 #[.val (.ref a1), .val (.ref a2), .val (.int (4 : Int32)), .val (.ref nx), .val (.int (3 : Int32)), .val (.int (0 : Int32))] [(.int (1 : Int32)), (.int (0 : Int32))] q73 3 13 := H
  replace H := k_icmpN C H dP_137 (tlt (by decide : (0 : Int32) < (1 : Int32))).2.1 (pc' := 140) rfl
  replace H := k_aloadN C H dP_140 rfl rfl (pc' := 141) rfl
  replace H := k_getFld C H (hw _ (List.mem_of_getElem? (i := 92) rfl)) F_vertices dP_141 (pc' := 144) rfl
  replace H := k_aloadN C H dP_144 rfl rfl (pc' := 145) rfl
  replace H := k_aloadN C H dP_145 rfl rfl (pc' := 146) rfl
  replace H := k_iload C H dP_146 rfl (pc' := 148) rfl
  replace H := k_iload C H dP_148 rfl (pc' := 150) rfl
  replace H := k_callVir C H (rmgs3 l Z a0 hw a2 (3 : Int32) (0 : Int32) q73 n0 rfl rfl ar pr ss sc FA FP AP XA FS FC BS BC) XG (hw _ (List.mem_of_getElem? (i := 104) rfl)) (hw _ (List.mem_of_getElem? (i := 105) rfl)) (hw _ (List.mem_of_getElem? (i := 107) rfl)) (hw _ (List.mem_of_getElem? (i := 106) rfl)) (hw _ (List.mem_of_getElem? (i := 7) rfl)) (hw _ (List.mem_of_getElem? (i := 108) rfl)) (by decide) dP_150 rfl [(.int (3 : Int32)), (.int (0 : Int32))] [(.ref nx), (.ref vt)] pdP_2 rfl rfl rfl 2 rfl (by decide) (by decide) (by decide) (by decide) (pc' := 153) rfl
  obtain ⟨_, _, ⟨rfl, rfl⟩, H⟩ := H
  replace H : K 153 #[.val (.ref a1), .val (.ref a2), .val (.int (4 : Int32)), .val (.ref nx), .val (.int (3 : Int32)), .val (.int (0 : Int32))] [(.int (3 : Int32)), (.ref nx), (.ref vt)] q73 3 13 := H
  replace H := k_dup2 C H dP_153 rfl rfl (pc' := 154) rfl
  replace H := k_iaload C H V_nx (i := 3) (by decide) (by decide) dP_154 (pc' := 155) rfl
  replace H : K 155 #[.val (.ref a1), .val (.ref a2), .val (.int (4 : Int32)), .val (.ref nx), .val (.int (3 : Int32)), .val (.int (0 : Int32))] [(.int (3 : Int32)), (.int (3 : Int32)), (.ref nx), (.ref vt)] q73 3 13 := H
  replace H := k_dupX2 C H dP_155 rfl rfl rfl (pc' := 156) rfl
  replace H := k_iconst C H (v := 1) dP_156 rfl (pc' := 157) rfl
  replace H := k_iadd C H dP_157 (pc' := 158) rfl
  replace H : K 158 #[.val (.ref a1), .val (.ref a2), .val (.int (4 : Int32)), .val (.ref nx), .val (.int (3 : Int32)), .val (.int (0 : Int32))] [(.int (4 : Int32)), (.int (3 : Int32)), (.ref nx), (.int (3 : Int32)), (.ref vt)] q73 3 13 := H
  replace H := k_iastore C H V_nx (i := 3) (by decide) (by decide) n_nx dP_158 (pc' := 159) rfl
  obtain ⟨q79, W_q79, V_nx, H⟩ := H
  replace V_nx : Ari Z q79 nx .int 4 (lf [(1 : Int32), (2 : Int32), (3 : Int32), (4 : Int32)]) := V_nx.congr (fun k _ => lf_set _ _ _ (Nat.le_of_ble_eq_true rfl) k)
  replace E := E.wr W_q79
  replace F_start := F_start.other W_q79 (Or.inl ne_a1_nx)
  replace F_vertices := F_vertices.other W_q79 (Or.inl ne_a1_nx)
  replace XG := XG.wr W_q79
  replace FA := FA.other W_q79 (Or.inl ne_a2_nx)
  replace FP := FP.other W_q79 (Or.inl ne_a2_nx)
  replace AP := AP.other W_q79 ne_pr_nx
  replace XA := XA.wr W_q79
  replace FS := FS.other W_q79 (Or.inl ne_ar_nx)
  replace FC := FC.other W_q79 (Or.inl ne_ar_nx)
  replace BS := BS.other W_q79 ne_ss_nx
  replace BC := BC.other W_q79 ne_sc_nx
  replace V_st := V_st.other W_q79 ne_st_nx
  replace V_vt := V_vt.other W_q79 ne_vt_nx
  have Z_q79 : n0 ≤ q79.size := by rw [W_q79.size]; exact Z_q73
  replace KK := KK.wr W_q79 (Or.inr s_nx)
  replace H := k_iload C H dP_159 rfl (pc' := 161) rfl
  replace H := k_iastore C H V_vt (i := 3) (by decide) (by decide) n_vt dP_161 (pc' := 162) rfl
  obtain ⟨q80, W_q80, V_vt, H⟩ := H
  replace V_vt : Ari Z q80 vt .int 4 (lf [(0 : Int32), (1 : Int32), (2 : Int32), (3 : Int32)]) := V_vt.congr (fun k _ => lf_set _ _ _ (Nat.le_of_ble_eq_true rfl) k)
  replace E := E.wr W_q80
  replace F_start := F_start.other W_q80 (Or.inl ne_a1_vt)
  replace F_vertices := F_vertices.other W_q80 (Or.inl ne_a1_vt)
  replace XG := XG.wr W_q80
  replace FA := FA.other W_q80 (Or.inl ne_a2_vt)
  replace FP := FP.other W_q80 (Or.inl ne_a2_vt)
  replace AP := AP.other W_q80 ne_pr_vt
  replace XA := XA.wr W_q80
  replace FS := FS.other W_q80 (Or.inl ne_ar_vt)
  replace FC := FC.other W_q80 (Or.inl ne_ar_vt)
  replace BS := BS.other W_q80 ne_ss_vt
  replace BC := BC.other W_q80 ne_sc_vt
  replace V_st := V_st.other W_q80 ne_st_vt
  replace V_nx := V_nx.other W_q80 (Ne.symm ne_vt_nx)
  have Z_q80 : n0 ≤ q80.size := by rw [W_q80.size]; exact Z_q79
  replace KK := KK.wr W_q80 (Or.inr s_vt)
  replace H := k_iinc C H (y := ((0 : Int32) + (1 : Int32))) dP_162 rfl rfl (L' := #[.val (.ref a1), .val (.ref a2), .val (.int (4 : Int32)), .val (.ref nx), .val (.int (3 : Int32)), .val (.int ((0 : Int32) + (1 : Int32)))]) rfl (pc' := 165) rfl
  replace H : K 165 #[.val (.ref a1), .val (.ref a2), .val (.int (4 : Int32)), .val (.ref nx), .val (.int (3 : Int32)), .val (.int (1 : Int32))] [] q80 3 13 := H
  replace H := k_goto C H dP_165 (by decide) (pc' := 129) rfl
  replace H := k_iload C H dP_129 rfl (pc' := 131) rfl
  replace H := k_aloadN C H dP_131 rfl rfl (pc' := 132) rfl
  replace H := k_iload C H dP_132 rfl (pc' := 134) rfl
  replace H := k_callVir C H (rmgc3 l Z a0 hw a2 (3 : Int32) q80 n0 rfl ar pr ss sc FA FP AP XA FS FC BS BC) XG (hw _ (List.mem_of_getElem? (i := 94) rfl)) (hw _ (List.mem_of_getElem? (i := 95) rfl)) (hw _ (List.mem_of_getElem? (i := 97) rfl)) (hw _ (List.mem_of_getElem? (i := 96) rfl)) (hw _ (List.mem_of_getElem? (i := 7) rfl)) (hw _ (List.mem_of_getElem? (i := 98) rfl)) (by decide) dP_134 rfl [(.int (3 : Int32))] [(.int (1 : Int32))] pdP_1 rfl rfl rfl 1 rfl (by decide) (by decide) (by decide) (by decide) (pc' := 137) rfl
  obtain ⟨_, _, ⟨rfl, rfl⟩, H⟩ := H
  replace H : K 137 #[.val (.ref a1), .val (.ref a2), .val (.int (4 : Int32)), .val (.ref nx), .val (.int (3 : Int32)), .val (.int (1 : Int32))] [(.int (1 : Int32)), (.int (1 : Int32))] q80 3 13 := H
  replace H := k_icmpY C H dP_137 (flt (by decide : ¬ ((1 : Int32) < (1 : Int32)))).2.1 (by decide) (pc' := 168) rfl
  replace H := k_iinc C H (y := ((3 : Int32) + (1 : Int32))) dP_168 rfl rfl (L' := #[.val (.ref a1), .val (.ref a2), .val (.int (4 : Int32)), .val (.ref nx), .val (.int ((3 : Int32) + (1 : Int32))), .val (.int (1 : Int32))]) rfl (pc' := 171) rfl
  replace H : K 171 #[.val (.ref a1), .val (.ref a2), .val (.int (4 : Int32)), .val (.ref nx), .val (.int (4 : Int32)), .val (.int (1 : Int32))] [] q80 3 13 := H
  replace H := k_goto C H dP_171 (by decide) (pc' := 120) rfl
  replace H := k_iload C H dP_120 rfl (pc' := 122) rfl
  replace H := k_iloadN C H dP_122 rfl (pc' := 123) rfl
  replace H := k_icmpY C H dP_123 (flt (by decide : ¬ ((4 : Int32) < (4 : Int32)))).2.1 (by decide) (pc' := 174) rfl
  exact k_retV C H dP_174 (by decide) (by decide) ⟨rfl, KK⟩
theorem dU_0 : decode prog_61_method_1_code 0 = .ok (.aload_n 0, 1) := by decide +kernel
theorem dU_1 : decode prog_61_method_1_code 1 = .ok (.invokespecial 1, 3) := by decide +kernel
theorem dU_4 : decode prog_61_method_1_code 4 = .ok (.aload_n 1, 1) := by decide +kernel
theorem dU_5 : decode prog_61_method_1_code 5 = .ok (.invokevirtual 7, 3) := by decide +kernel
theorem dU_8 : decode prog_61_method_1_code 8 = .ok (.istore_n 3, 1) := by decide +kernel
theorem dU_9 : decode prog_61_method_1_code 9 = .ok (.aload_n 0, 1) := by decide +kernel
theorem dU_10 : decode prog_61_method_1_code 10 = .ok (.aload_n 1, 1) := by decide +kernel
theorem dU_11 : decode prog_61_method_1_code 11 = .ok (.putfield 13, 3) := by decide +kernel
theorem dU_14 : decode prog_61_method_1_code 14 = .ok (.aload_n 0, 1) := by decide +kernel
theorem dU_15 : decode prog_61_method_1_code 15 = .ok (.aload_n 2, 1) := by decide +kernel
theorem dU_16 : decode prog_61_method_1_code 16 = .ok (.putfield 19, 3) := by decide +kernel
theorem dU_19 : decode prog_61_method_1_code 19 = .ok (.aload_n 0, 1) := by decide +kernel
theorem dU_20 : decode prog_61_method_1_code 20 = .ok (.iload_n 3, 1) := by decide +kernel
theorem dU_21 : decode prog_61_method_1_code 21 = .ok (.newarray .int, 2) := by decide +kernel
theorem dU_23 : decode prog_61_method_1_code 23 = .ok (.putfield 23, 3) := by decide +kernel
theorem dU_26 : decode prog_61_method_1_code 26 = .ok (.aload_n 0, 1) := by decide +kernel
theorem dU_27 : decode prog_61_method_1_code 27 = .ok (.iload_n 3, 1) := by decide +kernel
theorem dU_28 : decode prog_61_method_1_code 28 = .ok (.newarray .int, 2) := by decide +kernel
theorem dU_30 : decode prog_61_method_1_code 30 = .ok (.putfield 27, 3) := by decide +kernel
theorem dU_33 : decode prog_61_method_1_code 33 = .ok (.iconst 0, 1) := by decide +kernel
theorem dU_34 : decode prog_61_method_1_code 34 = .ok (.istore 4, 2) := by decide +kernel
theorem dU_36 : decode prog_61_method_1_code 36 = .ok (.iload 4, 2) := by decide +kernel
theorem dU_38 : decode prog_61_method_1_code 38 = .ok (.iload_n 3, 1) := by decide +kernel
theorem dU_39 : decode prog_61_method_1_code 39 = .ok (.if_icmp .ge 27, 3) := by decide +kernel
theorem dU_42 : decode prog_61_method_1_code 42 = .ok (.aload_n 0, 1) := by decide +kernel
theorem dU_43 : decode prog_61_method_1_code 43 = .ok (.getfield 23, 3) := by decide +kernel
theorem dU_46 : decode prog_61_method_1_code 46 = .ok (.iload 4, 2) := by decide +kernel
theorem dU_48 : decode prog_61_method_1_code 48 = .ok (.iload 4, 2) := by decide +kernel
theorem dU_50 : decode prog_61_method_1_code 50 = .ok (.iastore, 1) := by decide +kernel
theorem dU_51 : decode prog_61_method_1_code 51 = .ok (.aload_n 0, 1) := by decide +kernel
theorem dU_52 : decode prog_61_method_1_code 52 = .ok (.getfield 27, 3) := by decide +kernel
theorem dU_55 : decode prog_61_method_1_code 55 = .ok (.iload 4, 2) := by decide +kernel
theorem dU_57 : decode prog_61_method_1_code 57 = .ok (.iload 4, 2) := by decide +kernel
theorem dU_59 : decode prog_61_method_1_code 59 = .ok (.iastore, 1) := by decide +kernel
theorem dU_60 : decode prog_61_method_1_code 60 = .ok (.iinc 4 1, 3) := by decide +kernel
theorem dU_63 : decode prog_61_method_1_code 63 = .ok (.goto (-27), 3) := by decide +kernel
theorem dU_66 : decode prog_61_method_1_code 66 = .ok (.aload_n 0, 1) := by decide +kernel
theorem dU_67 : decode prog_61_method_1_code 67 = .ok (.iload_n 3, 1) := by decide +kernel
theorem dU_68 : decode prog_61_method_1_code 68 = .ok (.newarray .int, 2) := by decide +kernel
theorem dU_70 : decode prog_61_method_1_code 70 = .ok (.putfield 30, 3) := by decide +kernel
theorem dU_73 : decode prog_61_method_1_code 73 = .ok (.aload_n 0, 1) := by decide +kernel
theorem dU_74 : decode prog_61_method_1_code 74 = .ok (.iload_n 3, 1) := by decide +kernel
theorem dU_75 : decode prog_61_method_1_code 75 = .ok (.newarray .int, 2) := by decide +kernel
theorem dU_77 : decode prog_61_method_1_code 77 = .ok (.putfield 33, 3) := by decide +kernel
theorem dU_80 : decode prog_61_method_1_code 80 = .ok (.aload_n 0, 1) := by decide +kernel
theorem dU_81 : decode prog_61_method_1_code 81 = .ok (.iload_n 3, 1) := by decide +kernel
theorem dU_82 : decode prog_61_method_1_code 82 = .ok (.newarray .int, 2) := by decide +kernel
theorem dU_84 : decode prog_61_method_1_code 84 = .ok (.putfield 36, 3) := by decide +kernel
theorem dU_87 : decode prog_61_method_1_code 87 = .ok (.aload_n 0, 1) := by decide +kernel
theorem dU_88 : decode prog_61_method_1_code 88 = .ok (.iload_n 3, 1) := by decide +kernel
theorem dU_89 : decode prog_61_method_1_code 89 = .ok (.newarray .int, 2) := by decide +kernel
theorem dU_91 : decode prog_61_method_1_code 91 = .ok (.putfield 39, 3) := by decide +kernel
theorem dU_94 : decode prog_61_method_1_code 94 = .ok (.return_, 1) := by decide +kernel
theorem pdU_0 : parseMethodDescriptor "()I" = some ⟨[], some .int⟩ := by decide +kernel
theorem pl_U : plainFor (⟨"com/example/equilibrate/equilibrate/solver/Subgames", "<init>", "(Lcom/example/equilibrate/equilibrate/model/ParityGame;Lcom/example/equilibrate/equilibrate/solver/Predecessors;)V"⟩ : MethodName) = true := plainFor_of_name (by first | (simp [plainName, overriddenIn]; done) | decide +kernel)
theorem ef_U (mm : MethodId) (a1 : Addr) (a2 : Addr) (a3 : Addr) : entryFrame mm #[(.ref a1), (.ref a2), (.ref a3)] 5 = mkF mm 0 #[.val (.ref a1), .val (.ref a2), .val (.ref a3), .unset, .unset] [] := by first | (simp [entryFrame, mkF, argsToLocals, Value.category]; done) | rfl
set_option maxRecDepth 65536 in
set_option maxHeartbeats 40000000 in
theorem rmU (l : Launch) (Z : State) (a0 : Array Value) (hw : ∀ d ∈ tables_1, d.before a0 Z = true) (a1 : Addr) (a2 : Addr) (a3 : Addr) (h0 : Heap) (n0 : Nat) (Z0 : n0 ≤ h0.size) (u0 u1 u2 u3 u4 u5 u6 u7 : Value) (E : Exa Z h0 a1 "com/example/equilibrate/equilibrate/solver/Subgames") (F_game : Fld Z h0 a1 "com/example/equilibrate/equilibrate/solver/Subgames" "game" "Lcom/example/equilibrate/equilibrate/model/ParityGame;" u0) (F_predecessors : Fld Z h0 a1 "com/example/equilibrate/equilibrate/solver/Subgames" "predecessors" "Lcom/example/equilibrate/equilibrate/solver/Predecessors;" u1) (F_order : Fld Z h0 a1 "com/example/equilibrate/equilibrate/solver/Subgames" "order" "[I" u2) (F_position : Fld Z h0 a1 "com/example/equilibrate/equilibrate/solver/Subgames" "position" "[I" u3) (F_buffer : Fld Z h0 a1 "com/example/equilibrate/equilibrate/solver/Subgames" "buffer" "[I" u4) (F_mark : Fld Z h0 a1 "com/example/equilibrate/equilibrate/solver/Subgames" "mark" "[I" u5) (F_escapeStamp : Fld Z h0 a1 "com/example/equilibrate/equilibrate/solver/Subgames" "escapeStamp" "[I" u6) (F_escapes : Fld Z h0 a1 "com/example/equilibrate/equilibrate/solver/Subgames" "escapes" "[I" u7) (XG : Exa Z h0 a2 "com/example/equilibrate/equilibrate/model/ParityGame") (ar pr ss sc : Addr) (FA : Fld Z h0 a2 "com/example/equilibrate/equilibrate/model/ParityGame" "arena" "Lcom/example/equilibrate/equilibrate/model/Arena;" (.ref ar)) (FP : Fld Z h0 a2 "com/example/equilibrate/equilibrate/model/ParityGame" "priorities" "[I" (.ref pr)) (AP : Ari Z h0 pr .int 4 (lf [(0 : Int32), (0 : Int32), (0 : Int32), (0 : Int32)])) (XA : Exa Z h0 ar "com/example/equilibrate/equilibrate/model/Arena") (FS : Fld Z h0 ar "com/example/equilibrate/equilibrate/model/Arena" "successorStart" "[I" (.ref ss)) (FC : Fld Z h0 ar "com/example/equilibrate/equilibrate/model/Arena" "successors" "[I" (.ref sc)) (BS : Ari Z h0 ss .int 5 (lf [(0 : Int32), (1 : Int32), (2 : Int32), (3 : Int32), (4 : Int32)])) (BC : Ari Z h0 sc .int 4 (lf [(0 : Int32), (1 : Int32), (2 : Int32), (3 : Int32)])) (g : n0 ≤ a1) :
    Con l (⟨"com/example/equilibrate/equilibrate/solver/Subgames", "<init>", "(Lcom/example/equilibrate/equilibrate/model/ParityGame;Lcom/example/equilibrate/equilibrate/solver/Predecessors;)V"⟩ : MethodName) prog_61_method_1_code 5 none ({ frames := 1, cells := 6, slots := 24, locals := 12 } : Room) Z #[(.ref a1), (.ref a2), (.ref a3)] h0 n0 (fun o h => o = none ∧ ∃ od ps bf, Keep h0 h [a1] ∧ h0.size ≤ od ∧ h0.size ≤ ps ∧ h0.size ≤ bf ∧ od ≠ ps ∧ od ≠ bf ∧ ps ≠ bf ∧ Fld Z h a1 "com/example/equilibrate/equilibrate/solver/Subgames" "order" "[I" (.ref od) ∧ Fld Z h a1 "com/example/equilibrate/equilibrate/solver/Subgames" "position" "[I" (.ref ps) ∧ Fld Z h a1 "com/example/equilibrate/equilibrate/solver/Subgames" "buffer" "[I" (.ref bf) ∧ Ari Z h od .int 4 (lf [(0 : Int32), (1 : Int32), (2 : Int32), (3 : Int32)]) ∧ Ari Z h ps .int 4 (lf [(0 : Int32), (1 : Int32), (2 : Int32), (3 : Int32)]) ∧ Ari Z h bf .int 4 (lf [(0 : Int32), (0 : Int32), (0 : Int32), (0 : Int32)])) := by
  refine Con.enter pl_U (fun mm => ef_U mm a1 a2 a3) ?_
  intro K O C H
  have KK : Keep h0 h0 [a1] := Keep.refl h0 _
  have n_a1 := g
  have ne_pr_a1 : pr ≠ a1 := AP.neX E (hw _ (List.mem_of_getElem? (i := 66) rfl))
  have ne_ss_a1 : ss ≠ a1 := BS.neX E (hw _ (List.mem_of_getElem? (i := 66) rfl))
  have ne_sc_a1 : sc ≠ a1 := BC.neX E (hw _ (List.mem_of_getElem? (i := 66) rfl))
  have ne_a2_a1 : a2 ≠ a1 := ne_exa XG E (by decide)
  have ne_ar_a1 : ar ≠ a1 := ne_exa XA E (by decide)
  replace H := k_aloadN C H dU_0 rfl rfl (pc' := 1) rfl
  replace H := k_initObj C H (hw _ (List.mem_of_getElem? (i := 123) rfl)) (hw _ (List.mem_of_getElem? (i := 16) rfl)) (hw _ (List.mem_of_getElem? (i := 17) rfl)) dU_1 rfl (by decide) 0 rfl (by decide) (pc' := 4) rfl
  replace H := k_aloadN C H dU_4 rfl rfl (pc' := 5) rfl
  replace H := k_callVir C H (rmgv l Z a0 hw a2 h0 n0 ar pr ss sc FA FP AP XA FS FC BS BC) XG (hw _ (List.mem_of_getElem? (i := 124) rfl)) (hw _ (List.mem_of_getElem? (i := 76) rfl)) (hw _ (List.mem_of_getElem? (i := 78) rfl)) (hw _ (List.mem_of_getElem? (i := 77) rfl)) (hw _ (List.mem_of_getElem? (i := 7) rfl)) (hw _ (List.mem_of_getElem? (i := 79) rfl)) (by decide) dU_5 rfl [] [] pdU_0 rfl rfl rfl 0 rfl (by decide) (by decide) (by decide) (by decide) (pc' := 8) rfl
  obtain ⟨_, _, ⟨rfl, rfl⟩, H⟩ := H
  replace H : K 8 #[.val (.ref a1), .val (.ref a2), .val (.ref a3), .unset, .unset] [(.int (4 : Int32))] h0 0 0 := H
  replace H := k_istoreN C H dU_8 (L' := #[.val (.ref a1), .val (.ref a2), .val (.ref a3), .val (.int (4 : Int32)), .unset]) rfl (pc' := 9) rfl
  replace H := k_aloadN C H dU_9 rfl rfl (pc' := 10) rfl
  replace H := k_aloadN C H dU_10 rfl rfl (pc' := 11) rfl
  replace H := k_putFld C H (hw _ (List.mem_of_getElem? (i := 125) rfl)) F_game E (Or.inr ⟨(hw _ (List.mem_of_getElem? (i := 126) rfl)), rfl, rfl⟩) (hw _ (List.mem_of_getElem? (i := 66) rfl)) (ty := (.object "com/example/equilibrate/equilibrate/model/ParityGame")) (by decide) (v' := (.ref a2)) rfl rfl n_a1 dU_11 (pc' := 14) rfl
  obtain ⟨p11, W_p11, H⟩ := H
  replace E := E.wr W_p11
  replace F_game := F_game.same W_p11
  replace F_predecessors := F_predecessors.other W_p11 (Or.inr (slot_ne (Or.inr (hw _ (List.mem_of_getElem? (i := 128) rfl))) (Or.inr (hw _ (List.mem_of_getElem? (i := 126) rfl))) (by decide) (t := (.object "com/example/equilibrate/equilibrate/solver/Predecessors")) (t' := (.object "com/example/equilibrate/equilibrate/model/ParityGame")) (by decide) (by decide)))
  replace F_order := F_order.other W_p11 (Or.inr (slot_ne (Or.inr (hw _ (List.mem_of_getElem? (i := 130) rfl))) (Or.inr (hw _ (List.mem_of_getElem? (i := 126) rfl))) (by decide) (t := (.array .int)) (t' := (.object "com/example/equilibrate/equilibrate/model/ParityGame")) (by decide) (by decide)))
  replace F_position := F_position.other W_p11 (Or.inr (slot_ne (Or.inr (hw _ (List.mem_of_getElem? (i := 132) rfl))) (Or.inr (hw _ (List.mem_of_getElem? (i := 126) rfl))) (by decide) (t := (.array .int)) (t' := (.object "com/example/equilibrate/equilibrate/model/ParityGame")) (by decide) (by decide)))
  replace F_buffer := F_buffer.other W_p11 (Or.inr (slot_ne (Or.inr (hw _ (List.mem_of_getElem? (i := 134) rfl))) (Or.inr (hw _ (List.mem_of_getElem? (i := 126) rfl))) (by decide) (t := (.array .int)) (t' := (.object "com/example/equilibrate/equilibrate/model/ParityGame")) (by decide) (by decide)))
  replace F_mark := F_mark.other W_p11 (Or.inr (slot_ne (Or.inr (hw _ (List.mem_of_getElem? (i := 136) rfl))) (Or.inr (hw _ (List.mem_of_getElem? (i := 126) rfl))) (by decide) (t := (.array .int)) (t' := (.object "com/example/equilibrate/equilibrate/model/ParityGame")) (by decide) (by decide)))
  replace F_escapeStamp := F_escapeStamp.other W_p11 (Or.inr (slot_ne (Or.inr (hw _ (List.mem_of_getElem? (i := 138) rfl))) (Or.inr (hw _ (List.mem_of_getElem? (i := 126) rfl))) (by decide) (t := (.array .int)) (t' := (.object "com/example/equilibrate/equilibrate/model/ParityGame")) (by decide) (by decide)))
  replace F_escapes := F_escapes.other W_p11 (Or.inr (slot_ne (Or.inr (hw _ (List.mem_of_getElem? (i := 140) rfl))) (Or.inr (hw _ (List.mem_of_getElem? (i := 126) rfl))) (by decide) (t := (.array .int)) (t' := (.object "com/example/equilibrate/equilibrate/model/ParityGame")) (by decide) (by decide)))
  replace XG := XG.wr W_p11
  replace FA := FA.other W_p11 (Or.inl ne_a2_a1)
  replace FP := FP.other W_p11 (Or.inl ne_a2_a1)
  replace AP := AP.other W_p11 ne_pr_a1
  replace XA := XA.wr W_p11
  replace FS := FS.other W_p11 (Or.inl ne_ar_a1)
  replace FC := FC.other W_p11 (Or.inl ne_ar_a1)
  replace BS := BS.other W_p11 ne_ss_a1
  replace BC := BC.other W_p11 ne_sc_a1
  replace KK := KK.wr W_p11 (Or.inl (List.mem_of_getElem? (i := 0) rfl))
  have Z_p11 : n0 ≤ p11.size := by rw [W_p11.size]; exact Z0
  replace H := k_aloadN C H dU_14 rfl rfl (pc' := 15) rfl
  replace H := k_aloadN C H dU_15 rfl rfl (pc' := 16) rfl
  replace H := k_putFld C H (hw _ (List.mem_of_getElem? (i := 127) rfl)) F_predecessors E (Or.inr ⟨(hw _ (List.mem_of_getElem? (i := 128) rfl)), rfl, rfl⟩) (hw _ (List.mem_of_getElem? (i := 66) rfl)) (ty := (.object "com/example/equilibrate/equilibrate/solver/Predecessors")) (by decide) (v' := (.ref a3)) rfl rfl n_a1 dU_16 (pc' := 19) rfl
  obtain ⟨p16, W_p16, H⟩ := H
  replace E := E.wr W_p16
  replace F_game := F_game.other W_p16 (Or.inr (slot_ne (Or.inr (hw _ (List.mem_of_getElem? (i := 126) rfl))) (Or.inr (hw _ (List.mem_of_getElem? (i := 128) rfl))) (by decide) (t := (.object "com/example/equilibrate/equilibrate/model/ParityGame")) (t' := (.object "com/example/equilibrate/equilibrate/solver/Predecessors")) (by decide) (by decide)))
  replace F_predecessors := F_predecessors.same W_p16
  replace F_order := F_order.other W_p16 (Or.inr (slot_ne (Or.inr (hw _ (List.mem_of_getElem? (i := 130) rfl))) (Or.inr (hw _ (List.mem_of_getElem? (i := 128) rfl))) (by decide) (t := (.array .int)) (t' := (.object "com/example/equilibrate/equilibrate/solver/Predecessors")) (by decide) (by decide)))
  replace F_position := F_position.other W_p16 (Or.inr (slot_ne (Or.inr (hw _ (List.mem_of_getElem? (i := 132) rfl))) (Or.inr (hw _ (List.mem_of_getElem? (i := 128) rfl))) (by decide) (t := (.array .int)) (t' := (.object "com/example/equilibrate/equilibrate/solver/Predecessors")) (by decide) (by decide)))
  replace F_buffer := F_buffer.other W_p16 (Or.inr (slot_ne (Or.inr (hw _ (List.mem_of_getElem? (i := 134) rfl))) (Or.inr (hw _ (List.mem_of_getElem? (i := 128) rfl))) (by decide) (t := (.array .int)) (t' := (.object "com/example/equilibrate/equilibrate/solver/Predecessors")) (by decide) (by decide)))
  replace F_mark := F_mark.other W_p16 (Or.inr (slot_ne (Or.inr (hw _ (List.mem_of_getElem? (i := 136) rfl))) (Or.inr (hw _ (List.mem_of_getElem? (i := 128) rfl))) (by decide) (t := (.array .int)) (t' := (.object "com/example/equilibrate/equilibrate/solver/Predecessors")) (by decide) (by decide)))
  replace F_escapeStamp := F_escapeStamp.other W_p16 (Or.inr (slot_ne (Or.inr (hw _ (List.mem_of_getElem? (i := 138) rfl))) (Or.inr (hw _ (List.mem_of_getElem? (i := 128) rfl))) (by decide) (t := (.array .int)) (t' := (.object "com/example/equilibrate/equilibrate/solver/Predecessors")) (by decide) (by decide)))
  replace F_escapes := F_escapes.other W_p16 (Or.inr (slot_ne (Or.inr (hw _ (List.mem_of_getElem? (i := 140) rfl))) (Or.inr (hw _ (List.mem_of_getElem? (i := 128) rfl))) (by decide) (t := (.array .int)) (t' := (.object "com/example/equilibrate/equilibrate/solver/Predecessors")) (by decide) (by decide)))
  replace XG := XG.wr W_p16
  replace FA := FA.other W_p16 (Or.inl ne_a2_a1)
  replace FP := FP.other W_p16 (Or.inl ne_a2_a1)
  replace AP := AP.other W_p16 ne_pr_a1
  replace XA := XA.wr W_p16
  replace FS := FS.other W_p16 (Or.inl ne_ar_a1)
  replace FC := FC.other W_p16 (Or.inl ne_ar_a1)
  replace BS := BS.other W_p16 ne_ss_a1
  replace BC := BC.other W_p16 ne_sc_a1
  replace KK := KK.wr W_p16 (Or.inl (List.mem_of_getElem? (i := 0) rfl))
  have Z_p16 : n0 ≤ p16.size := by rw [W_p16.size]; exact Z_p11
  replace H := k_aloadN C H dU_19 rfl rfl (pc' := 20) rfl
  replace H := k_iloadN C H dU_20 rfl (pc' := 21) rfl
  replace H := k_newArr C H (hw _ (List.mem_of_getElem? (i := 8) rfl)) dU_21 (by decide) (cap := 4) (by decide) (by decide) (by decide) (by decide) (pc' := 23) rfl
  obtain ⟨h_od, od, c_od, g_od, E_od, A_od, H⟩ := H
  replace H : K 23 #[.val (.ref a1), .val (.ref a2), .val (.ref a3), .val (.int (4 : Int32)), .unset] [(.ref od), (.ref a1)] h_od 1 4 := H
  have ne_a1_od : a1 ≠ od := Nat.ne_of_lt (Nat.lt_of_lt_of_le E.lt (Nat.le_of_eq g_od.symm))
  have ne_a2_od : a2 ≠ od := Nat.ne_of_lt (Nat.lt_of_lt_of_le XG.lt (Nat.le_of_eq g_od.symm))
  have ne_pr_od : pr ≠ od := Nat.ne_of_lt (Nat.lt_of_lt_of_le AP.lt (Nat.le_of_eq g_od.symm))
  have ne_ar_od : ar ≠ od := Nat.ne_of_lt (Nat.lt_of_lt_of_le XA.lt (Nat.le_of_eq g_od.symm))
  have ne_ss_od : ss ≠ od := Nat.ne_of_lt (Nat.lt_of_lt_of_le BS.lt (Nat.le_of_eq g_od.symm))
  have ne_sc_od : sc ≠ od := Nat.ne_of_lt (Nat.lt_of_lt_of_le BC.lt (Nat.le_of_eq g_od.symm))
  have n_od : n0 ≤ od := Nat.le_trans Z_p16 (Nat.le_of_eq g_od.symm)
  have s_od : h0.size ≤ od := Nat.le_trans KK.1 (Nat.le_of_eq g_od.symm)
  replace E := E.ext E_od
  replace F_game := F_game.ext E_od
  replace F_predecessors := F_predecessors.ext E_od
  replace F_order := F_order.ext E_od
  replace F_position := F_position.ext E_od
  replace F_buffer := F_buffer.ext E_od
  replace F_mark := F_mark.ext E_od
  replace F_escapeStamp := F_escapeStamp.ext E_od
  replace F_escapes := F_escapes.ext E_od
  replace XG := XG.ext E_od
  replace FA := FA.ext E_od
  replace FP := FP.ext E_od
  replace AP := AP.ext E_od
  replace XA := XA.ext E_od
  replace FS := FS.ext E_od
  replace FC := FC.ext E_od
  replace BS := BS.ext E_od
  replace BC := BC.ext E_od
  replace KK := KK.ext E_od
  have Z_h_od : n0 ≤ h_od.size := Nat.le_trans Z_p16 E_od.1
  have V_od : Ari Z h_od od .int 4 (lf [(0 : Int32), (0 : Int32), (0 : Int32), (0 : Int32)]) := (Ari.ofNew A_od (by decide) rfl).congr (fun k hk => by match k, hk with | 0, _ => rfl | 1, _ => rfl | 2, _ => rfl | 3, _ => rfl)
  replace H := k_putFld C H (hw _ (List.mem_of_getElem? (i := 129) rfl)) F_order E (Or.inr ⟨(hw _ (List.mem_of_getElem? (i := 130) rfl)), rfl, rfl⟩) (hw _ (List.mem_of_getElem? (i := 66) rfl)) (ty := (.array .int)) (by decide) (v' := (.ref od)) rfl rfl n_a1 dU_23 (pc' := 26) rfl
  obtain ⟨p23, W_p23, H⟩ := H
  replace E := E.wr W_p23
  replace F_game := F_game.other W_p23 (Or.inr (slot_ne (Or.inr (hw _ (List.mem_of_getElem? (i := 126) rfl))) (Or.inr (hw _ (List.mem_of_getElem? (i := 130) rfl))) (by decide) (t := (.object "com/example/equilibrate/equilibrate/model/ParityGame")) (t' := (.array .int)) (by decide) (by decide)))
  replace F_predecessors := F_predecessors.other W_p23 (Or.inr (slot_ne (Or.inr (hw _ (List.mem_of_getElem? (i := 128) rfl))) (Or.inr (hw _ (List.mem_of_getElem? (i := 130) rfl))) (by decide) (t := (.object "com/example/equilibrate/equilibrate/solver/Predecessors")) (t' := (.array .int)) (by decide) (by decide)))
  replace F_order := F_order.same W_p23
  replace F_position := F_position.other W_p23 (Or.inr (slot_ne (Or.inr (hw _ (List.mem_of_getElem? (i := 132) rfl))) (Or.inr (hw _ (List.mem_of_getElem? (i := 130) rfl))) (by decide) (t := (.array .int)) (t' := (.array .int)) (by decide) (by decide)))
  replace F_buffer := F_buffer.other W_p23 (Or.inr (slot_ne (Or.inr (hw _ (List.mem_of_getElem? (i := 134) rfl))) (Or.inr (hw _ (List.mem_of_getElem? (i := 130) rfl))) (by decide) (t := (.array .int)) (t' := (.array .int)) (by decide) (by decide)))
  replace F_mark := F_mark.other W_p23 (Or.inr (slot_ne (Or.inr (hw _ (List.mem_of_getElem? (i := 136) rfl))) (Or.inr (hw _ (List.mem_of_getElem? (i := 130) rfl))) (by decide) (t := (.array .int)) (t' := (.array .int)) (by decide) (by decide)))
  replace F_escapeStamp := F_escapeStamp.other W_p23 (Or.inr (slot_ne (Or.inr (hw _ (List.mem_of_getElem? (i := 138) rfl))) (Or.inr (hw _ (List.mem_of_getElem? (i := 130) rfl))) (by decide) (t := (.array .int)) (t' := (.array .int)) (by decide) (by decide)))
  replace F_escapes := F_escapes.other W_p23 (Or.inr (slot_ne (Or.inr (hw _ (List.mem_of_getElem? (i := 140) rfl))) (Or.inr (hw _ (List.mem_of_getElem? (i := 130) rfl))) (by decide) (t := (.array .int)) (t' := (.array .int)) (by decide) (by decide)))
  replace XG := XG.wr W_p23
  replace FA := FA.other W_p23 (Or.inl ne_a2_a1)
  replace FP := FP.other W_p23 (Or.inl ne_a2_a1)
  replace AP := AP.other W_p23 ne_pr_a1
  replace XA := XA.wr W_p23
  replace FS := FS.other W_p23 (Or.inl ne_ar_a1)
  replace FC := FC.other W_p23 (Or.inl ne_ar_a1)
  replace BS := BS.other W_p23 ne_ss_a1
  replace BC := BC.other W_p23 ne_sc_a1
  replace V_od := V_od.other W_p23 (Ne.symm ne_a1_od)
  replace KK := KK.wr W_p23 (Or.inl (List.mem_of_getElem? (i := 0) rfl))
  have Z_p23 : n0 ≤ p23.size := by rw [W_p23.size]; exact Z_h_od
  replace H := k_aloadN C H dU_26 rfl rfl (pc' := 27) rfl
  replace H := k_iloadN C H dU_27 rfl (pc' := 28) rfl
  replace H := k_newArr C H (hw _ (List.mem_of_getElem? (i := 8) rfl)) dU_28 (by decide) (cap := 4) (by decide) (by decide) (by decide) (by decide) (pc' := 30) rfl
  obtain ⟨h_ps, ps, c_ps, g_ps, E_ps, A_ps, H⟩ := H
  replace H : K 30 #[.val (.ref a1), .val (.ref a2), .val (.ref a3), .val (.int (4 : Int32)), .unset] [(.ref ps), (.ref a1)] h_ps 2 8 := H
  have ne_a1_ps : a1 ≠ ps := Nat.ne_of_lt (Nat.lt_of_lt_of_le E.lt (Nat.le_of_eq g_ps.symm))
  have ne_a2_ps : a2 ≠ ps := Nat.ne_of_lt (Nat.lt_of_lt_of_le XG.lt (Nat.le_of_eq g_ps.symm))
  have ne_pr_ps : pr ≠ ps := Nat.ne_of_lt (Nat.lt_of_lt_of_le AP.lt (Nat.le_of_eq g_ps.symm))
  have ne_ar_ps : ar ≠ ps := Nat.ne_of_lt (Nat.lt_of_lt_of_le XA.lt (Nat.le_of_eq g_ps.symm))
  have ne_ss_ps : ss ≠ ps := Nat.ne_of_lt (Nat.lt_of_lt_of_le BS.lt (Nat.le_of_eq g_ps.symm))
  have ne_sc_ps : sc ≠ ps := Nat.ne_of_lt (Nat.lt_of_lt_of_le BC.lt (Nat.le_of_eq g_ps.symm))
  have ne_od_ps : od ≠ ps := Nat.ne_of_lt (Nat.lt_of_lt_of_le V_od.lt (Nat.le_of_eq g_ps.symm))
  have n_ps : n0 ≤ ps := Nat.le_trans Z_p23 (Nat.le_of_eq g_ps.symm)
  have s_ps : h0.size ≤ ps := Nat.le_trans KK.1 (Nat.le_of_eq g_ps.symm)
  replace E := E.ext E_ps
  replace F_game := F_game.ext E_ps
  replace F_predecessors := F_predecessors.ext E_ps
  replace F_order := F_order.ext E_ps
  replace F_position := F_position.ext E_ps
  replace F_buffer := F_buffer.ext E_ps
  replace F_mark := F_mark.ext E_ps
  replace F_escapeStamp := F_escapeStamp.ext E_ps
  replace F_escapes := F_escapes.ext E_ps
  replace XG := XG.ext E_ps
  replace FA := FA.ext E_ps
  replace FP := FP.ext E_ps
  replace AP := AP.ext E_ps
  replace XA := XA.ext E_ps
  replace FS := FS.ext E_ps
  replace FC := FC.ext E_ps
  replace BS := BS.ext E_ps
  replace BC := BC.ext E_ps
  replace V_od := V_od.ext E_ps
  replace KK := KK.ext E_ps
  have Z_h_ps : n0 ≤ h_ps.size := Nat.le_trans Z_p23 E_ps.1
  have V_ps : Ari Z h_ps ps .int 4 (lf [(0 : Int32), (0 : Int32), (0 : Int32), (0 : Int32)]) := (Ari.ofNew A_ps (by decide) rfl).congr (fun k hk => by match k, hk with | 0, _ => rfl | 1, _ => rfl | 2, _ => rfl | 3, _ => rfl)
  replace H := k_putFld C H (hw _ (List.mem_of_getElem? (i := 131) rfl)) F_position E (Or.inr ⟨(hw _ (List.mem_of_getElem? (i := 132) rfl)), rfl, rfl⟩) (hw _ (List.mem_of_getElem? (i := 66) rfl)) (ty := (.array .int)) (by decide) (v' := (.ref ps)) rfl rfl n_a1 dU_30 (pc' := 33) rfl
  obtain ⟨p30, W_p30, H⟩ := H
  replace E := E.wr W_p30
  replace F_game := F_game.other W_p30 (Or.inr (slot_ne (Or.inr (hw _ (List.mem_of_getElem? (i := 126) rfl))) (Or.inr (hw _ (List.mem_of_getElem? (i := 132) rfl))) (by decide) (t := (.object "com/example/equilibrate/equilibrate/model/ParityGame")) (t' := (.array .int)) (by decide) (by decide)))
  replace F_predecessors := F_predecessors.other W_p30 (Or.inr (slot_ne (Or.inr (hw _ (List.mem_of_getElem? (i := 128) rfl))) (Or.inr (hw _ (List.mem_of_getElem? (i := 132) rfl))) (by decide) (t := (.object "com/example/equilibrate/equilibrate/solver/Predecessors")) (t' := (.array .int)) (by decide) (by decide)))
  replace F_order := F_order.other W_p30 (Or.inr (slot_ne (Or.inr (hw _ (List.mem_of_getElem? (i := 130) rfl))) (Or.inr (hw _ (List.mem_of_getElem? (i := 132) rfl))) (by decide) (t := (.array .int)) (t' := (.array .int)) (by decide) (by decide)))
  replace F_position := F_position.same W_p30
  replace F_buffer := F_buffer.other W_p30 (Or.inr (slot_ne (Or.inr (hw _ (List.mem_of_getElem? (i := 134) rfl))) (Or.inr (hw _ (List.mem_of_getElem? (i := 132) rfl))) (by decide) (t := (.array .int)) (t' := (.array .int)) (by decide) (by decide)))
  replace F_mark := F_mark.other W_p30 (Or.inr (slot_ne (Or.inr (hw _ (List.mem_of_getElem? (i := 136) rfl))) (Or.inr (hw _ (List.mem_of_getElem? (i := 132) rfl))) (by decide) (t := (.array .int)) (t' := (.array .int)) (by decide) (by decide)))
  replace F_escapeStamp := F_escapeStamp.other W_p30 (Or.inr (slot_ne (Or.inr (hw _ (List.mem_of_getElem? (i := 138) rfl))) (Or.inr (hw _ (List.mem_of_getElem? (i := 132) rfl))) (by decide) (t := (.array .int)) (t' := (.array .int)) (by decide) (by decide)))
  replace F_escapes := F_escapes.other W_p30 (Or.inr (slot_ne (Or.inr (hw _ (List.mem_of_getElem? (i := 140) rfl))) (Or.inr (hw _ (List.mem_of_getElem? (i := 132) rfl))) (by decide) (t := (.array .int)) (t' := (.array .int)) (by decide) (by decide)))
  replace XG := XG.wr W_p30
  replace FA := FA.other W_p30 (Or.inl ne_a2_a1)
  replace FP := FP.other W_p30 (Or.inl ne_a2_a1)
  replace AP := AP.other W_p30 ne_pr_a1
  replace XA := XA.wr W_p30
  replace FS := FS.other W_p30 (Or.inl ne_ar_a1)
  replace FC := FC.other W_p30 (Or.inl ne_ar_a1)
  replace BS := BS.other W_p30 ne_ss_a1
  replace BC := BC.other W_p30 ne_sc_a1
  replace V_od := V_od.other W_p30 (Ne.symm ne_a1_od)
  replace V_ps := V_ps.other W_p30 (Ne.symm ne_a1_ps)
  replace KK := KK.wr W_p30 (Or.inl (List.mem_of_getElem? (i := 0) rfl))
  have Z_p30 : n0 ≤ p30.size := by rw [W_p30.size]; exact Z_h_ps
  replace H := k_iconst C H (v := 0) dU_33 rfl (pc' := 34) rfl
  replace H := k_istore C H dU_34 (L' := #[.val (.ref a1), .val (.ref a2), .val (.ref a3), .val (.int (4 : Int32)), .val (.int (0 : Int32))]) rfl (pc' := 36) rfl
  replace H := k_iload C H dU_36 rfl (pc' := 38) rfl
  replace H := k_iloadN C H dU_38 rfl (pc' := 39) rfl
  replace H := k_icmpN C H dU_39 (tlt (by decide : (0 : Int32) < (4 : Int32))).2.1 (pc' := 42) rfl
  replace H := k_aloadN C H dU_42 rfl rfl (pc' := 43) rfl
  replace H := k_getFld C H (hw _ (List.mem_of_getElem? (i := 129) rfl)) F_order dU_43 (pc' := 46) rfl
  replace H := k_iload C H dU_46 rfl (pc' := 48) rfl
  replace H := k_iload C H dU_48 rfl (pc' := 50) rfl
  replace H := k_iastore C H V_od (i := 0) (by decide) (by decide) n_od dU_50 (pc' := 51) rfl
  obtain ⟨q10, W_q10, V_od, H⟩ := H
  replace V_od : Ari Z q10 od .int 4 (lf [(0 : Int32), (0 : Int32), (0 : Int32), (0 : Int32)]) := V_od.congr (fun k _ => lf_set _ _ _ (Nat.le_of_ble_eq_true rfl) k)
  replace E := E.wr W_q10
  replace F_game := F_game.other W_q10 (Or.inl ne_a1_od)
  replace F_predecessors := F_predecessors.other W_q10 (Or.inl ne_a1_od)
  replace F_order := F_order.other W_q10 (Or.inl ne_a1_od)
  replace F_position := F_position.other W_q10 (Or.inl ne_a1_od)
  replace F_buffer := F_buffer.other W_q10 (Or.inl ne_a1_od)
  replace F_mark := F_mark.other W_q10 (Or.inl ne_a1_od)
  replace F_escapeStamp := F_escapeStamp.other W_q10 (Or.inl ne_a1_od)
  replace F_escapes := F_escapes.other W_q10 (Or.inl ne_a1_od)
  replace XG := XG.wr W_q10
  replace FA := FA.other W_q10 (Or.inl ne_a2_od)
  replace FP := FP.other W_q10 (Or.inl ne_a2_od)
  replace AP := AP.other W_q10 ne_pr_od
  replace XA := XA.wr W_q10
  replace FS := FS.other W_q10 (Or.inl ne_ar_od)
  replace FC := FC.other W_q10 (Or.inl ne_ar_od)
  replace BS := BS.other W_q10 ne_ss_od
  replace BC := BC.other W_q10 ne_sc_od
  replace V_ps := V_ps.other W_q10 (Ne.symm ne_od_ps)
  have Z_q10 : n0 ≤ q10.size := by rw [W_q10.size]; exact Z_p30
  replace KK := KK.wr W_q10 (Or.inr s_od)
  replace H := k_aloadN C H dU_51 rfl rfl (pc' := 52) rfl
  replace H := k_getFld C H (hw _ (List.mem_of_getElem? (i := 131) rfl)) F_position dU_52 (pc' := 55) rfl
  replace H := k_iload C H dU_55 rfl (pc' := 57) rfl
  replace H := k_iload C H dU_57 rfl (pc' := 59) rfl
  replace H := k_iastore C H V_ps (i := 0) (by decide) (by decide) n_ps dU_59 (pc' := 60) rfl
  obtain ⟨q12, W_q12, V_ps, H⟩ := H
  replace V_ps : Ari Z q12 ps .int 4 (lf [(0 : Int32), (0 : Int32), (0 : Int32), (0 : Int32)]) := V_ps.congr (fun k _ => lf_set _ _ _ (Nat.le_of_ble_eq_true rfl) k)
  replace E := E.wr W_q12
  replace F_game := F_game.other W_q12 (Or.inl ne_a1_ps)
  replace F_predecessors := F_predecessors.other W_q12 (Or.inl ne_a1_ps)
  replace F_order := F_order.other W_q12 (Or.inl ne_a1_ps)
  replace F_position := F_position.other W_q12 (Or.inl ne_a1_ps)
  replace F_buffer := F_buffer.other W_q12 (Or.inl ne_a1_ps)
  replace F_mark := F_mark.other W_q12 (Or.inl ne_a1_ps)
  replace F_escapeStamp := F_escapeStamp.other W_q12 (Or.inl ne_a1_ps)
  replace F_escapes := F_escapes.other W_q12 (Or.inl ne_a1_ps)
  replace XG := XG.wr W_q12
  replace FA := FA.other W_q12 (Or.inl ne_a2_ps)
  replace FP := FP.other W_q12 (Or.inl ne_a2_ps)
  replace AP := AP.other W_q12 ne_pr_ps
  replace XA := XA.wr W_q12
  replace FS := FS.other W_q12 (Or.inl ne_ar_ps)
  replace FC := FC.other W_q12 (Or.inl ne_ar_ps)
  replace BS := BS.other W_q12 ne_ss_ps
  replace BC := BC.other W_q12 ne_sc_ps
  replace V_od := V_od.other W_q12 ne_od_ps
  have Z_q12 : n0 ≤ q12.size := by rw [W_q12.size]; exact Z_q10
  replace KK := KK.wr W_q12 (Or.inr s_ps)
  replace H := k_iinc C H (y := ((0 : Int32) + (1 : Int32))) dU_60 rfl rfl (L' := #[.val (.ref a1), .val (.ref a2), .val (.ref a3), .val (.int (4 : Int32)), .val (.int ((0 : Int32) + (1 : Int32)))]) rfl (pc' := 63) rfl
  replace H : K 63 #[.val (.ref a1), .val (.ref a2), .val (.ref a3), .val (.int (4 : Int32)), .val (.int (1 : Int32))] [] q12 2 8 := H
  replace H := k_goto C H dU_63 (by decide) (pc' := 36) rfl
  replace H := k_iload C H dU_36 rfl (pc' := 38) rfl
  replace H := k_iloadN C H dU_38 rfl (pc' := 39) rfl
  replace H := k_icmpN C H dU_39 (tlt (by decide : (1 : Int32) < (4 : Int32))).2.1 (pc' := 42) rfl
  replace H := k_aloadN C H dU_42 rfl rfl (pc' := 43) rfl
  replace H := k_getFld C H (hw _ (List.mem_of_getElem? (i := 129) rfl)) F_order dU_43 (pc' := 46) rfl
  replace H := k_iload C H dU_46 rfl (pc' := 48) rfl
  replace H := k_iload C H dU_48 rfl (pc' := 50) rfl
  replace H := k_iastore C H V_od (i := 1) (by decide) (by decide) n_od dU_50 (pc' := 51) rfl
  obtain ⟨q14, W_q14, V_od, H⟩ := H
  replace V_od : Ari Z q14 od .int 4 (lf [(0 : Int32), (1 : Int32), (0 : Int32), (0 : Int32)]) := V_od.congr (fun k _ => lf_set _ _ _ (Nat.le_of_ble_eq_true rfl) k)
  replace E := E.wr W_q14
  replace F_game := F_game.other W_q14 (Or.inl ne_a1_od)
  replace F_predecessors := F_predecessors.other W_q14 (Or.inl ne_a1_od)
  replace F_order := F_order.other W_q14 (Or.inl ne_a1_od)
  replace F_position := F_position.other W_q14 (Or.inl ne_a1_od)
  replace F_buffer := F_buffer.other W_q14 (Or.inl ne_a1_od)
  replace F_mark := F_mark.other W_q14 (Or.inl ne_a1_od)
  replace F_escapeStamp := F_escapeStamp.other W_q14 (Or.inl ne_a1_od)
  replace F_escapes := F_escapes.other W_q14 (Or.inl ne_a1_od)
  replace XG := XG.wr W_q14
  replace FA := FA.other W_q14 (Or.inl ne_a2_od)
  replace FP := FP.other W_q14 (Or.inl ne_a2_od)
  replace AP := AP.other W_q14 ne_pr_od
  replace XA := XA.wr W_q14
  replace FS := FS.other W_q14 (Or.inl ne_ar_od)
  replace FC := FC.other W_q14 (Or.inl ne_ar_od)
  replace BS := BS.other W_q14 ne_ss_od
  replace BC := BC.other W_q14 ne_sc_od
  replace V_ps := V_ps.other W_q14 (Ne.symm ne_od_ps)
  have Z_q14 : n0 ≤ q14.size := by rw [W_q14.size]; exact Z_q12
  replace KK := KK.wr W_q14 (Or.inr s_od)
  replace H := k_aloadN C H dU_51 rfl rfl (pc' := 52) rfl
  replace H := k_getFld C H (hw _ (List.mem_of_getElem? (i := 131) rfl)) F_position dU_52 (pc' := 55) rfl
  replace H := k_iload C H dU_55 rfl (pc' := 57) rfl
  replace H := k_iload C H dU_57 rfl (pc' := 59) rfl
  replace H := k_iastore C H V_ps (i := 1) (by decide) (by decide) n_ps dU_59 (pc' := 60) rfl
  obtain ⟨q16, W_q16, V_ps, H⟩ := H
  replace V_ps : Ari Z q16 ps .int 4 (lf [(0 : Int32), (1 : Int32), (0 : Int32), (0 : Int32)]) := V_ps.congr (fun k _ => lf_set _ _ _ (Nat.le_of_ble_eq_true rfl) k)
  replace E := E.wr W_q16
  replace F_game := F_game.other W_q16 (Or.inl ne_a1_ps)
  replace F_predecessors := F_predecessors.other W_q16 (Or.inl ne_a1_ps)
  replace F_order := F_order.other W_q16 (Or.inl ne_a1_ps)
  replace F_position := F_position.other W_q16 (Or.inl ne_a1_ps)
  replace F_buffer := F_buffer.other W_q16 (Or.inl ne_a1_ps)
  replace F_mark := F_mark.other W_q16 (Or.inl ne_a1_ps)
  replace F_escapeStamp := F_escapeStamp.other W_q16 (Or.inl ne_a1_ps)
  replace F_escapes := F_escapes.other W_q16 (Or.inl ne_a1_ps)
  replace XG := XG.wr W_q16
  replace FA := FA.other W_q16 (Or.inl ne_a2_ps)
  replace FP := FP.other W_q16 (Or.inl ne_a2_ps)
  replace AP := AP.other W_q16 ne_pr_ps
  replace XA := XA.wr W_q16
  replace FS := FS.other W_q16 (Or.inl ne_ar_ps)
  replace FC := FC.other W_q16 (Or.inl ne_ar_ps)
  replace BS := BS.other W_q16 ne_ss_ps
  replace BC := BC.other W_q16 ne_sc_ps
  replace V_od := V_od.other W_q16 ne_od_ps
  have Z_q16 : n0 ≤ q16.size := by rw [W_q16.size]; exact Z_q14
  replace KK := KK.wr W_q16 (Or.inr s_ps)
  replace H := k_iinc C H (y := ((1 : Int32) + (1 : Int32))) dU_60 rfl rfl (L' := #[.val (.ref a1), .val (.ref a2), .val (.ref a3), .val (.int (4 : Int32)), .val (.int ((1 : Int32) + (1 : Int32)))]) rfl (pc' := 63) rfl
  replace H : K 63 #[.val (.ref a1), .val (.ref a2), .val (.ref a3), .val (.int (4 : Int32)), .val (.int (2 : Int32))] [] q16 2 8 := H
  replace H := k_goto C H dU_63 (by decide) (pc' := 36) rfl
  replace H := k_iload C H dU_36 rfl (pc' := 38) rfl
  replace H := k_iloadN C H dU_38 rfl (pc' := 39) rfl
  replace H := k_icmpN C H dU_39 (tlt (by decide : (2 : Int32) < (4 : Int32))).2.1 (pc' := 42) rfl
  replace H := k_aloadN C H dU_42 rfl rfl (pc' := 43) rfl
  replace H := k_getFld C H (hw _ (List.mem_of_getElem? (i := 129) rfl)) F_order dU_43 (pc' := 46) rfl
  replace H := k_iload C H dU_46 rfl (pc' := 48) rfl
  replace H := k_iload C H dU_48 rfl (pc' := 50) rfl
  replace H := k_iastore C H V_od (i := 2) (by decide) (by decide) n_od dU_50 (pc' := 51) rfl
  obtain ⟨q18, W_q18, V_od, H⟩ := H
  replace V_od : Ari Z q18 od .int 4 (lf [(0 : Int32), (1 : Int32), (2 : Int32), (0 : Int32)]) := V_od.congr (fun k _ => lf_set _ _ _ (Nat.le_of_ble_eq_true rfl) k)
  replace E := E.wr W_q18
  replace F_game := F_game.other W_q18 (Or.inl ne_a1_od)
  replace F_predecessors := F_predecessors.other W_q18 (Or.inl ne_a1_od)
  replace F_order := F_order.other W_q18 (Or.inl ne_a1_od)
  replace F_position := F_position.other W_q18 (Or.inl ne_a1_od)
  replace F_buffer := F_buffer.other W_q18 (Or.inl ne_a1_od)
  replace F_mark := F_mark.other W_q18 (Or.inl ne_a1_od)
  replace F_escapeStamp := F_escapeStamp.other W_q18 (Or.inl ne_a1_od)
  replace F_escapes := F_escapes.other W_q18 (Or.inl ne_a1_od)
  replace XG := XG.wr W_q18
  replace FA := FA.other W_q18 (Or.inl ne_a2_od)
  replace FP := FP.other W_q18 (Or.inl ne_a2_od)
  replace AP := AP.other W_q18 ne_pr_od
  replace XA := XA.wr W_q18
  replace FS := FS.other W_q18 (Or.inl ne_ar_od)
  replace FC := FC.other W_q18 (Or.inl ne_ar_od)
  replace BS := BS.other W_q18 ne_ss_od
  replace BC := BC.other W_q18 ne_sc_od
  replace V_ps := V_ps.other W_q18 (Ne.symm ne_od_ps)
  have Z_q18 : n0 ≤ q18.size := by rw [W_q18.size]; exact Z_q16
  replace KK := KK.wr W_q18 (Or.inr s_od)
  replace H := k_aloadN C H dU_51 rfl rfl (pc' := 52) rfl
  replace H := k_getFld C H (hw _ (List.mem_of_getElem? (i := 131) rfl)) F_position dU_52 (pc' := 55) rfl
  replace H := k_iload C H dU_55 rfl (pc' := 57) rfl
  replace H := k_iload C H dU_57 rfl (pc' := 59) rfl
  replace H := k_iastore C H V_ps (i := 2) (by decide) (by decide) n_ps dU_59 (pc' := 60) rfl
  obtain ⟨q20, W_q20, V_ps, H⟩ := H
  replace V_ps : Ari Z q20 ps .int 4 (lf [(0 : Int32), (1 : Int32), (2 : Int32), (0 : Int32)]) := V_ps.congr (fun k _ => lf_set _ _ _ (Nat.le_of_ble_eq_true rfl) k)
  replace E := E.wr W_q20
  replace F_game := F_game.other W_q20 (Or.inl ne_a1_ps)
  replace F_predecessors := F_predecessors.other W_q20 (Or.inl ne_a1_ps)
  replace F_order := F_order.other W_q20 (Or.inl ne_a1_ps)
  replace F_position := F_position.other W_q20 (Or.inl ne_a1_ps)
  replace F_buffer := F_buffer.other W_q20 (Or.inl ne_a1_ps)
  replace F_mark := F_mark.other W_q20 (Or.inl ne_a1_ps)
  replace F_escapeStamp := F_escapeStamp.other W_q20 (Or.inl ne_a1_ps)
  replace F_escapes := F_escapes.other W_q20 (Or.inl ne_a1_ps)
  replace XG := XG.wr W_q20
  replace FA := FA.other W_q20 (Or.inl ne_a2_ps)
  replace FP := FP.other W_q20 (Or.inl ne_a2_ps)
  replace AP := AP.other W_q20 ne_pr_ps
  replace XA := XA.wr W_q20
  replace FS := FS.other W_q20 (Or.inl ne_ar_ps)
  replace FC := FC.other W_q20 (Or.inl ne_ar_ps)
  replace BS := BS.other W_q20 ne_ss_ps
  replace BC := BC.other W_q20 ne_sc_ps
  replace V_od := V_od.other W_q20 ne_od_ps
  have Z_q20 : n0 ≤ q20.size := by rw [W_q20.size]; exact Z_q18
  replace KK := KK.wr W_q20 (Or.inr s_ps)
  replace H := k_iinc C H (y := ((2 : Int32) + (1 : Int32))) dU_60 rfl rfl (L' := #[.val (.ref a1), .val (.ref a2), .val (.ref a3), .val (.int (4 : Int32)), .val (.int ((2 : Int32) + (1 : Int32)))]) rfl (pc' := 63) rfl
  replace H : K 63 #[.val (.ref a1), .val (.ref a2), .val (.ref a3), .val (.int (4 : Int32)), .val (.int (3 : Int32))] [] q20 2 8 := H
  replace H := k_goto C H dU_63 (by decide) (pc' := 36) rfl
  replace H := k_iload C H dU_36 rfl (pc' := 38) rfl
  replace H := k_iloadN C H dU_38 rfl (pc' := 39) rfl
  replace H := k_icmpN C H dU_39 (tlt (by decide : (3 : Int32) < (4 : Int32))).2.1 (pc' := 42) rfl
  replace H := k_aloadN C H dU_42 rfl rfl (pc' := 43) rfl
  replace H := k_getFld C H (hw _ (List.mem_of_getElem? (i := 129) rfl)) F_order dU_43 (pc' := 46) rfl
  replace H := k_iload C H dU_46 rfl (pc' := 48) rfl
  replace H := k_iload C H dU_48 rfl (pc' := 50) rfl
  replace H := k_iastore C H V_od (i := 3) (by decide) (by decide) n_od dU_50 (pc' := 51) rfl
  obtain ⟨q22, W_q22, V_od, H⟩ := H
  replace V_od : Ari Z q22 od .int 4 (lf [(0 : Int32), (1 : Int32), (2 : Int32), (3 : Int32)]) := V_od.congr (fun k _ => lf_set _ _ _ (Nat.le_of_ble_eq_true rfl) k)
  replace E := E.wr W_q22
  replace F_game := F_game.other W_q22 (Or.inl ne_a1_od)
  replace F_predecessors := F_predecessors.other W_q22 (Or.inl ne_a1_od)
  replace F_order := F_order.other W_q22 (Or.inl ne_a1_od)
  replace F_position := F_position.other W_q22 (Or.inl ne_a1_od)
  replace F_buffer := F_buffer.other W_q22 (Or.inl ne_a1_od)
  replace F_mark := F_mark.other W_q22 (Or.inl ne_a1_od)
  replace F_escapeStamp := F_escapeStamp.other W_q22 (Or.inl ne_a1_od)
  replace F_escapes := F_escapes.other W_q22 (Or.inl ne_a1_od)
  replace XG := XG.wr W_q22
  replace FA := FA.other W_q22 (Or.inl ne_a2_od)
  replace FP := FP.other W_q22 (Or.inl ne_a2_od)
  replace AP := AP.other W_q22 ne_pr_od
  replace XA := XA.wr W_q22
  replace FS := FS.other W_q22 (Or.inl ne_ar_od)
  replace FC := FC.other W_q22 (Or.inl ne_ar_od)
  replace BS := BS.other W_q22 ne_ss_od
  replace BC := BC.other W_q22 ne_sc_od
  replace V_ps := V_ps.other W_q22 (Ne.symm ne_od_ps)
  have Z_q22 : n0 ≤ q22.size := by rw [W_q22.size]; exact Z_q20
  replace KK := KK.wr W_q22 (Or.inr s_od)
  replace H := k_aloadN C H dU_51 rfl rfl (pc' := 52) rfl
  replace H := k_getFld C H (hw _ (List.mem_of_getElem? (i := 131) rfl)) F_position dU_52 (pc' := 55) rfl
  replace H := k_iload C H dU_55 rfl (pc' := 57) rfl
  replace H := k_iload C H dU_57 rfl (pc' := 59) rfl
  replace H := k_iastore C H V_ps (i := 3) (by decide) (by decide) n_ps dU_59 (pc' := 60) rfl
  obtain ⟨q24, W_q24, V_ps, H⟩ := H
  replace V_ps : Ari Z q24 ps .int 4 (lf [(0 : Int32), (1 : Int32), (2 : Int32), (3 : Int32)]) := V_ps.congr (fun k _ => lf_set _ _ _ (Nat.le_of_ble_eq_true rfl) k)
  replace E := E.wr W_q24
  replace F_game := F_game.other W_q24 (Or.inl ne_a1_ps)
  replace F_predecessors := F_predecessors.other W_q24 (Or.inl ne_a1_ps)
  replace F_order := F_order.other W_q24 (Or.inl ne_a1_ps)
  replace F_position := F_position.other W_q24 (Or.inl ne_a1_ps)
  replace F_buffer := F_buffer.other W_q24 (Or.inl ne_a1_ps)
  replace F_mark := F_mark.other W_q24 (Or.inl ne_a1_ps)
  replace F_escapeStamp := F_escapeStamp.other W_q24 (Or.inl ne_a1_ps)
  replace F_escapes := F_escapes.other W_q24 (Or.inl ne_a1_ps)
  replace XG := XG.wr W_q24
  replace FA := FA.other W_q24 (Or.inl ne_a2_ps)
  replace FP := FP.other W_q24 (Or.inl ne_a2_ps)
  replace AP := AP.other W_q24 ne_pr_ps
  replace XA := XA.wr W_q24
  replace FS := FS.other W_q24 (Or.inl ne_ar_ps)
  replace FC := FC.other W_q24 (Or.inl ne_ar_ps)
  replace BS := BS.other W_q24 ne_ss_ps
  replace BC := BC.other W_q24 ne_sc_ps
  replace V_od := V_od.other W_q24 ne_od_ps
  have Z_q24 : n0 ≤ q24.size := by rw [W_q24.size]; exact Z_q22
  replace KK := KK.wr W_q24 (Or.inr s_ps)
  replace H := k_iinc C H (y := ((3 : Int32) + (1 : Int32))) dU_60 rfl rfl (L' := #[.val (.ref a1), .val (.ref a2), .val (.ref a3), .val (.int (4 : Int32)), .val (.int ((3 : Int32) + (1 : Int32)))]) rfl (pc' := 63) rfl
  replace H : K 63 #[.val (.ref a1), .val (.ref a2), .val (.ref a3), .val (.int (4 : Int32)), .val (.int (4 : Int32))] [] q24 2 8 := H
  replace H := k_goto C H dU_63 (by decide) (pc' := 36) rfl
  replace H := k_iload C H dU_36 rfl (pc' := 38) rfl
  replace H := k_iloadN C H dU_38 rfl (pc' := 39) rfl
  replace H := k_icmpY C H dU_39 (flt (by decide : ¬ ((4 : Int32) < (4 : Int32)))).2.1 (by decide) (pc' := 66) rfl
  replace H := k_aloadN C H dU_66 rfl rfl (pc' := 67) rfl
  replace H := k_iloadN C H dU_67 rfl (pc' := 68) rfl
  replace H := k_newArr C H (hw _ (List.mem_of_getElem? (i := 8) rfl)) dU_68 (by decide) (cap := 4) (by decide) (by decide) (by decide) (by decide) (pc' := 70) rfl
  obtain ⟨h_bf, bf, c_bf, g_bf, E_bf, A_bf, H⟩ := H
  replace H : K 70 #[.val (.ref a1), .val (.ref a2), .val (.ref a3), .val (.int (4 : Int32)), .val (.int (4 : Int32))] [(.ref bf), (.ref a1)] h_bf 3 12 := H
  have ne_a1_bf : a1 ≠ bf := Nat.ne_of_lt (Nat.lt_of_lt_of_le E.lt (Nat.le_of_eq g_bf.symm))
  have ne_a2_bf : a2 ≠ bf := Nat.ne_of_lt (Nat.lt_of_lt_of_le XG.lt (Nat.le_of_eq g_bf.symm))
  have ne_pr_bf : pr ≠ bf := Nat.ne_of_lt (Nat.lt_of_lt_of_le AP.lt (Nat.le_of_eq g_bf.symm))
  have ne_ar_bf : ar ≠ bf := Nat.ne_of_lt (Nat.lt_of_lt_of_le XA.lt (Nat.le_of_eq g_bf.symm))
  have ne_ss_bf : ss ≠ bf := Nat.ne_of_lt (Nat.lt_of_lt_of_le BS.lt (Nat.le_of_eq g_bf.symm))
  have ne_sc_bf : sc ≠ bf := Nat.ne_of_lt (Nat.lt_of_lt_of_le BC.lt (Nat.le_of_eq g_bf.symm))
  have ne_od_bf : od ≠ bf := Nat.ne_of_lt (Nat.lt_of_lt_of_le V_od.lt (Nat.le_of_eq g_bf.symm))
  have ne_ps_bf : ps ≠ bf := Nat.ne_of_lt (Nat.lt_of_lt_of_le V_ps.lt (Nat.le_of_eq g_bf.symm))
  have n_bf : n0 ≤ bf := Nat.le_trans Z_q24 (Nat.le_of_eq g_bf.symm)
  have s_bf : h0.size ≤ bf := Nat.le_trans KK.1 (Nat.le_of_eq g_bf.symm)
  replace E := E.ext E_bf
  replace F_game := F_game.ext E_bf
  replace F_predecessors := F_predecessors.ext E_bf
  replace F_order := F_order.ext E_bf
  replace F_position := F_position.ext E_bf
  replace F_buffer := F_buffer.ext E_bf
  replace F_mark := F_mark.ext E_bf
  replace F_escapeStamp := F_escapeStamp.ext E_bf
  replace F_escapes := F_escapes.ext E_bf
  replace XG := XG.ext E_bf
  replace FA := FA.ext E_bf
  replace FP := FP.ext E_bf
  replace AP := AP.ext E_bf
  replace XA := XA.ext E_bf
  replace FS := FS.ext E_bf
  replace FC := FC.ext E_bf
  replace BS := BS.ext E_bf
  replace BC := BC.ext E_bf
  replace V_od := V_od.ext E_bf
  replace V_ps := V_ps.ext E_bf
  replace KK := KK.ext E_bf
  have Z_h_bf : n0 ≤ h_bf.size := Nat.le_trans Z_q24 E_bf.1
  have V_bf : Ari Z h_bf bf .int 4 (lf [(0 : Int32), (0 : Int32), (0 : Int32), (0 : Int32)]) := (Ari.ofNew A_bf (by decide) rfl).congr (fun k hk => by match k, hk with | 0, _ => rfl | 1, _ => rfl | 2, _ => rfl | 3, _ => rfl)
  replace H := k_putFld C H (hw _ (List.mem_of_getElem? (i := 133) rfl)) F_buffer E (Or.inr ⟨(hw _ (List.mem_of_getElem? (i := 134) rfl)), rfl, rfl⟩) (hw _ (List.mem_of_getElem? (i := 66) rfl)) (ty := (.array .int)) (by decide) (v' := (.ref bf)) rfl rfl n_a1 dU_70 (pc' := 73) rfl
  obtain ⟨p70, W_p70, H⟩ := H
  replace E := E.wr W_p70
  replace F_game := F_game.other W_p70 (Or.inr (slot_ne (Or.inr (hw _ (List.mem_of_getElem? (i := 126) rfl))) (Or.inr (hw _ (List.mem_of_getElem? (i := 134) rfl))) (by decide) (t := (.object "com/example/equilibrate/equilibrate/model/ParityGame")) (t' := (.array .int)) (by decide) (by decide)))
  replace F_predecessors := F_predecessors.other W_p70 (Or.inr (slot_ne (Or.inr (hw _ (List.mem_of_getElem? (i := 128) rfl))) (Or.inr (hw _ (List.mem_of_getElem? (i := 134) rfl))) (by decide) (t := (.object "com/example/equilibrate/equilibrate/solver/Predecessors")) (t' := (.array .int)) (by decide) (by decide)))
  replace F_order := F_order.other W_p70 (Or.inr (slot_ne (Or.inr (hw _ (List.mem_of_getElem? (i := 130) rfl))) (Or.inr (hw _ (List.mem_of_getElem? (i := 134) rfl))) (by decide) (t := (.array .int)) (t' := (.array .int)) (by decide) (by decide)))
  replace F_position := F_position.other W_p70 (Or.inr (slot_ne (Or.inr (hw _ (List.mem_of_getElem? (i := 132) rfl))) (Or.inr (hw _ (List.mem_of_getElem? (i := 134) rfl))) (by decide) (t := (.array .int)) (t' := (.array .int)) (by decide) (by decide)))
  replace F_buffer := F_buffer.same W_p70
  replace F_mark := F_mark.other W_p70 (Or.inr (slot_ne (Or.inr (hw _ (List.mem_of_getElem? (i := 136) rfl))) (Or.inr (hw _ (List.mem_of_getElem? (i := 134) rfl))) (by decide) (t := (.array .int)) (t' := (.array .int)) (by decide) (by decide)))
  replace F_escapeStamp := F_escapeStamp.other W_p70 (Or.inr (slot_ne (Or.inr (hw _ (List.mem_of_getElem? (i := 138) rfl))) (Or.inr (hw _ (List.mem_of_getElem? (i := 134) rfl))) (by decide) (t := (.array .int)) (t' := (.array .int)) (by decide) (by decide)))
  replace F_escapes := F_escapes.other W_p70 (Or.inr (slot_ne (Or.inr (hw _ (List.mem_of_getElem? (i := 140) rfl))) (Or.inr (hw _ (List.mem_of_getElem? (i := 134) rfl))) (by decide) (t := (.array .int)) (t' := (.array .int)) (by decide) (by decide)))
  replace XG := XG.wr W_p70
  replace FA := FA.other W_p70 (Or.inl ne_a2_a1)
  replace FP := FP.other W_p70 (Or.inl ne_a2_a1)
  replace AP := AP.other W_p70 ne_pr_a1
  replace XA := XA.wr W_p70
  replace FS := FS.other W_p70 (Or.inl ne_ar_a1)
  replace FC := FC.other W_p70 (Or.inl ne_ar_a1)
  replace BS := BS.other W_p70 ne_ss_a1
  replace BC := BC.other W_p70 ne_sc_a1
  replace V_od := V_od.other W_p70 (Ne.symm ne_a1_od)
  replace V_ps := V_ps.other W_p70 (Ne.symm ne_a1_ps)
  replace V_bf := V_bf.other W_p70 (Ne.symm ne_a1_bf)
  replace KK := KK.wr W_p70 (Or.inl (List.mem_of_getElem? (i := 0) rfl))
  have Z_p70 : n0 ≤ p70.size := by rw [W_p70.size]; exact Z_h_bf
  replace H := k_aloadN C H dU_73 rfl rfl (pc' := 74) rfl
  replace H := k_iloadN C H dU_74 rfl (pc' := 75) rfl
  replace H := k_newArr C H (hw _ (List.mem_of_getElem? (i := 8) rfl)) dU_75 (by decide) (cap := 4) (by decide) (by decide) (by decide) (by decide) (pc' := 77) rfl
  obtain ⟨h_mk, mk, c_mk, g_mk, E_mk, A_mk, H⟩ := H
  replace H : K 77 #[.val (.ref a1), .val (.ref a2), .val (.ref a3), .val (.int (4 : Int32)), .val (.int (4 : Int32))] [(.ref mk), (.ref a1)] h_mk 4 16 := H
  have ne_a1_mk : a1 ≠ mk := Nat.ne_of_lt (Nat.lt_of_lt_of_le E.lt (Nat.le_of_eq g_mk.symm))
  have ne_a2_mk : a2 ≠ mk := Nat.ne_of_lt (Nat.lt_of_lt_of_le XG.lt (Nat.le_of_eq g_mk.symm))
  have ne_pr_mk : pr ≠ mk := Nat.ne_of_lt (Nat.lt_of_lt_of_le AP.lt (Nat.le_of_eq g_mk.symm))
  have ne_ar_mk : ar ≠ mk := Nat.ne_of_lt (Nat.lt_of_lt_of_le XA.lt (Nat.le_of_eq g_mk.symm))
  have ne_ss_mk : ss ≠ mk := Nat.ne_of_lt (Nat.lt_of_lt_of_le BS.lt (Nat.le_of_eq g_mk.symm))
  have ne_sc_mk : sc ≠ mk := Nat.ne_of_lt (Nat.lt_of_lt_of_le BC.lt (Nat.le_of_eq g_mk.symm))
  have ne_od_mk : od ≠ mk := Nat.ne_of_lt (Nat.lt_of_lt_of_le V_od.lt (Nat.le_of_eq g_mk.symm))
  have ne_ps_mk : ps ≠ mk := Nat.ne_of_lt (Nat.lt_of_lt_of_le V_ps.lt (Nat.le_of_eq g_mk.symm))
  have ne_bf_mk : bf ≠ mk := Nat.ne_of_lt (Nat.lt_of_lt_of_le V_bf.lt (Nat.le_of_eq g_mk.symm))
  have n_mk : n0 ≤ mk := Nat.le_trans Z_p70 (Nat.le_of_eq g_mk.symm)
  have s_mk : h0.size ≤ mk := Nat.le_trans KK.1 (Nat.le_of_eq g_mk.symm)
  replace E := E.ext E_mk
  replace F_game := F_game.ext E_mk
  replace F_predecessors := F_predecessors.ext E_mk
  replace F_order := F_order.ext E_mk
  replace F_position := F_position.ext E_mk
  replace F_buffer := F_buffer.ext E_mk
  replace F_mark := F_mark.ext E_mk
  replace F_escapeStamp := F_escapeStamp.ext E_mk
  replace F_escapes := F_escapes.ext E_mk
  replace XG := XG.ext E_mk
  replace FA := FA.ext E_mk
  replace FP := FP.ext E_mk
  replace AP := AP.ext E_mk
  replace XA := XA.ext E_mk
  replace FS := FS.ext E_mk
  replace FC := FC.ext E_mk
  replace BS := BS.ext E_mk
  replace BC := BC.ext E_mk
  replace V_od := V_od.ext E_mk
  replace V_ps := V_ps.ext E_mk
  replace V_bf := V_bf.ext E_mk
  replace KK := KK.ext E_mk
  have Z_h_mk : n0 ≤ h_mk.size := Nat.le_trans Z_p70 E_mk.1
  have V_mk : Ari Z h_mk mk .int 4 (lf [(0 : Int32), (0 : Int32), (0 : Int32), (0 : Int32)]) := (Ari.ofNew A_mk (by decide) rfl).congr (fun k hk => by match k, hk with | 0, _ => rfl | 1, _ => rfl | 2, _ => rfl | 3, _ => rfl)
  replace H := k_putFld C H (hw _ (List.mem_of_getElem? (i := 135) rfl)) F_mark E (Or.inr ⟨(hw _ (List.mem_of_getElem? (i := 136) rfl)), rfl, rfl⟩) (hw _ (List.mem_of_getElem? (i := 66) rfl)) (ty := (.array .int)) (by decide) (v' := (.ref mk)) rfl rfl n_a1 dU_77 (pc' := 80) rfl
  obtain ⟨p77, W_p77, H⟩ := H
  replace E := E.wr W_p77
  replace F_game := F_game.other W_p77 (Or.inr (slot_ne (Or.inr (hw _ (List.mem_of_getElem? (i := 126) rfl))) (Or.inr (hw _ (List.mem_of_getElem? (i := 136) rfl))) (by decide) (t := (.object "com/example/equilibrate/equilibrate/model/ParityGame")) (t' := (.array .int)) (by decide) (by decide)))
  replace F_predecessors := F_predecessors.other W_p77 (Or.inr (slot_ne (Or.inr (hw _ (List.mem_of_getElem? (i := 128) rfl))) (Or.inr (hw _ (List.mem_of_getElem? (i := 136) rfl))) (by decide) (t := (.object "com/example/equilibrate/equilibrate/solver/Predecessors")) (t' := (.array .int)) (by decide) (by decide)))
  replace F_order := F_order.other W_p77 (Or.inr (slot_ne (Or.inr (hw _ (List.mem_of_getElem? (i := 130) rfl))) (Or.inr (hw _ (List.mem_of_getElem? (i := 136) rfl))) (by decide) (t := (.array .int)) (t' := (.array .int)) (by decide) (by decide)))
  replace F_position := F_position.other W_p77 (Or.inr (slot_ne (Or.inr (hw _ (List.mem_of_getElem? (i := 132) rfl))) (Or.inr (hw _ (List.mem_of_getElem? (i := 136) rfl))) (by decide) (t := (.array .int)) (t' := (.array .int)) (by decide) (by decide)))
  replace F_buffer := F_buffer.other W_p77 (Or.inr (slot_ne (Or.inr (hw _ (List.mem_of_getElem? (i := 134) rfl))) (Or.inr (hw _ (List.mem_of_getElem? (i := 136) rfl))) (by decide) (t := (.array .int)) (t' := (.array .int)) (by decide) (by decide)))
  replace F_mark := F_mark.same W_p77
  replace F_escapeStamp := F_escapeStamp.other W_p77 (Or.inr (slot_ne (Or.inr (hw _ (List.mem_of_getElem? (i := 138) rfl))) (Or.inr (hw _ (List.mem_of_getElem? (i := 136) rfl))) (by decide) (t := (.array .int)) (t' := (.array .int)) (by decide) (by decide)))
  replace F_escapes := F_escapes.other W_p77 (Or.inr (slot_ne (Or.inr (hw _ (List.mem_of_getElem? (i := 140) rfl))) (Or.inr (hw _ (List.mem_of_getElem? (i := 136) rfl))) (by decide) (t := (.array .int)) (t' := (.array .int)) (by decide) (by decide)))
  replace XG := XG.wr W_p77
  replace FA := FA.other W_p77 (Or.inl ne_a2_a1)
  replace FP := FP.other W_p77 (Or.inl ne_a2_a1)
  replace AP := AP.other W_p77 ne_pr_a1
  replace XA := XA.wr W_p77
  replace FS := FS.other W_p77 (Or.inl ne_ar_a1)
  replace FC := FC.other W_p77 (Or.inl ne_ar_a1)
  replace BS := BS.other W_p77 ne_ss_a1
  replace BC := BC.other W_p77 ne_sc_a1
  replace V_od := V_od.other W_p77 (Ne.symm ne_a1_od)
  replace V_ps := V_ps.other W_p77 (Ne.symm ne_a1_ps)
  replace V_bf := V_bf.other W_p77 (Ne.symm ne_a1_bf)
  replace V_mk := V_mk.other W_p77 (Ne.symm ne_a1_mk)
  replace KK := KK.wr W_p77 (Or.inl (List.mem_of_getElem? (i := 0) rfl))
  have Z_p77 : n0 ≤ p77.size := by rw [W_p77.size]; exact Z_h_mk
  replace H := k_aloadN C H dU_80 rfl rfl (pc' := 81) rfl
  replace H := k_iloadN C H dU_81 rfl (pc' := 82) rfl
  replace H := k_newArr C H (hw _ (List.mem_of_getElem? (i := 8) rfl)) dU_82 (by decide) (cap := 4) (by decide) (by decide) (by decide) (by decide) (pc' := 84) rfl
  obtain ⟨h_es, es, c_es, g_es, E_es, A_es, H⟩ := H
  replace H : K 84 #[.val (.ref a1), .val (.ref a2), .val (.ref a3), .val (.int (4 : Int32)), .val (.int (4 : Int32))] [(.ref es), (.ref a1)] h_es 5 20 := H
  have ne_a1_es : a1 ≠ es := Nat.ne_of_lt (Nat.lt_of_lt_of_le E.lt (Nat.le_of_eq g_es.symm))
  have ne_a2_es : a2 ≠ es := Nat.ne_of_lt (Nat.lt_of_lt_of_le XG.lt (Nat.le_of_eq g_es.symm))
  have ne_pr_es : pr ≠ es := Nat.ne_of_lt (Nat.lt_of_lt_of_le AP.lt (Nat.le_of_eq g_es.symm))
  have ne_ar_es : ar ≠ es := Nat.ne_of_lt (Nat.lt_of_lt_of_le XA.lt (Nat.le_of_eq g_es.symm))
  have ne_ss_es : ss ≠ es := Nat.ne_of_lt (Nat.lt_of_lt_of_le BS.lt (Nat.le_of_eq g_es.symm))
  have ne_sc_es : sc ≠ es := Nat.ne_of_lt (Nat.lt_of_lt_of_le BC.lt (Nat.le_of_eq g_es.symm))
  have ne_od_es : od ≠ es := Nat.ne_of_lt (Nat.lt_of_lt_of_le V_od.lt (Nat.le_of_eq g_es.symm))
  have ne_ps_es : ps ≠ es := Nat.ne_of_lt (Nat.lt_of_lt_of_le V_ps.lt (Nat.le_of_eq g_es.symm))
  have ne_bf_es : bf ≠ es := Nat.ne_of_lt (Nat.lt_of_lt_of_le V_bf.lt (Nat.le_of_eq g_es.symm))
  have ne_mk_es : mk ≠ es := Nat.ne_of_lt (Nat.lt_of_lt_of_le V_mk.lt (Nat.le_of_eq g_es.symm))
  have n_es : n0 ≤ es := Nat.le_trans Z_p77 (Nat.le_of_eq g_es.symm)
  have s_es : h0.size ≤ es := Nat.le_trans KK.1 (Nat.le_of_eq g_es.symm)
  replace E := E.ext E_es
  replace F_game := F_game.ext E_es
  replace F_predecessors := F_predecessors.ext E_es
  replace F_order := F_order.ext E_es
  replace F_position := F_position.ext E_es
  replace F_buffer := F_buffer.ext E_es
  replace F_mark := F_mark.ext E_es
  replace F_escapeStamp := F_escapeStamp.ext E_es
  replace F_escapes := F_escapes.ext E_es
  replace XG := XG.ext E_es
  replace FA := FA.ext E_es
  replace FP := FP.ext E_es
  replace AP := AP.ext E_es
  replace XA := XA.ext E_es
  replace FS := FS.ext E_es
  replace FC := FC.ext E_es
  replace BS := BS.ext E_es
  replace BC := BC.ext E_es
  replace V_od := V_od.ext E_es
  replace V_ps := V_ps.ext E_es
  replace V_bf := V_bf.ext E_es
  replace V_mk := V_mk.ext E_es
  replace KK := KK.ext E_es
  have Z_h_es : n0 ≤ h_es.size := Nat.le_trans Z_p77 E_es.1
  have V_es : Ari Z h_es es .int 4 (lf [(0 : Int32), (0 : Int32), (0 : Int32), (0 : Int32)]) := (Ari.ofNew A_es (by decide) rfl).congr (fun k hk => by match k, hk with | 0, _ => rfl | 1, _ => rfl | 2, _ => rfl | 3, _ => rfl)
  replace H := k_putFld C H (hw _ (List.mem_of_getElem? (i := 137) rfl)) F_escapeStamp E (Or.inr ⟨(hw _ (List.mem_of_getElem? (i := 138) rfl)), rfl, rfl⟩) (hw _ (List.mem_of_getElem? (i := 66) rfl)) (ty := (.array .int)) (by decide) (v' := (.ref es)) rfl rfl n_a1 dU_84 (pc' := 87) rfl
  obtain ⟨p84, W_p84, H⟩ := H
  replace E := E.wr W_p84
  replace F_game := F_game.other W_p84 (Or.inr (slot_ne (Or.inr (hw _ (List.mem_of_getElem? (i := 126) rfl))) (Or.inr (hw _ (List.mem_of_getElem? (i := 138) rfl))) (by decide) (t := (.object "com/example/equilibrate/equilibrate/model/ParityGame")) (t' := (.array .int)) (by decide) (by decide)))
  replace F_predecessors := F_predecessors.other W_p84 (Or.inr (slot_ne (Or.inr (hw _ (List.mem_of_getElem? (i := 128) rfl))) (Or.inr (hw _ (List.mem_of_getElem? (i := 138) rfl))) (by decide) (t := (.object "com/example/equilibrate/equilibrate/solver/Predecessors")) (t' := (.array .int)) (by decide) (by decide)))
  replace F_order := F_order.other W_p84 (Or.inr (slot_ne (Or.inr (hw _ (List.mem_of_getElem? (i := 130) rfl))) (Or.inr (hw _ (List.mem_of_getElem? (i := 138) rfl))) (by decide) (t := (.array .int)) (t' := (.array .int)) (by decide) (by decide)))
  replace F_position := F_position.other W_p84 (Or.inr (slot_ne (Or.inr (hw _ (List.mem_of_getElem? (i := 132) rfl))) (Or.inr (hw _ (List.mem_of_getElem? (i := 138) rfl))) (by decide) (t := (.array .int)) (t' := (.array .int)) (by decide) (by decide)))
  replace F_buffer := F_buffer.other W_p84 (Or.inr (slot_ne (Or.inr (hw _ (List.mem_of_getElem? (i := 134) rfl))) (Or.inr (hw _ (List.mem_of_getElem? (i := 138) rfl))) (by decide) (t := (.array .int)) (t' := (.array .int)) (by decide) (by decide)))
  replace F_mark := F_mark.other W_p84 (Or.inr (slot_ne (Or.inr (hw _ (List.mem_of_getElem? (i := 136) rfl))) (Or.inr (hw _ (List.mem_of_getElem? (i := 138) rfl))) (by decide) (t := (.array .int)) (t' := (.array .int)) (by decide) (by decide)))
  replace F_escapeStamp := F_escapeStamp.same W_p84
  replace F_escapes := F_escapes.other W_p84 (Or.inr (slot_ne (Or.inr (hw _ (List.mem_of_getElem? (i := 140) rfl))) (Or.inr (hw _ (List.mem_of_getElem? (i := 138) rfl))) (by decide) (t := (.array .int)) (t' := (.array .int)) (by decide) (by decide)))
  replace XG := XG.wr W_p84
  replace FA := FA.other W_p84 (Or.inl ne_a2_a1)
  replace FP := FP.other W_p84 (Or.inl ne_a2_a1)
  replace AP := AP.other W_p84 ne_pr_a1
  replace XA := XA.wr W_p84
  replace FS := FS.other W_p84 (Or.inl ne_ar_a1)
  replace FC := FC.other W_p84 (Or.inl ne_ar_a1)
  replace BS := BS.other W_p84 ne_ss_a1
  replace BC := BC.other W_p84 ne_sc_a1
  replace V_od := V_od.other W_p84 (Ne.symm ne_a1_od)
  replace V_ps := V_ps.other W_p84 (Ne.symm ne_a1_ps)
  replace V_bf := V_bf.other W_p84 (Ne.symm ne_a1_bf)
  replace V_mk := V_mk.other W_p84 (Ne.symm ne_a1_mk)
  replace V_es := V_es.other W_p84 (Ne.symm ne_a1_es)
  replace KK := KK.wr W_p84 (Or.inl (List.mem_of_getElem? (i := 0) rfl))
  have Z_p84 : n0 ≤ p84.size := by rw [W_p84.size]; exact Z_h_es
  replace H := k_aloadN C H dU_87 rfl rfl (pc' := 88) rfl
  replace H := k_iloadN C H dU_88 rfl (pc' := 89) rfl
  replace H := k_newArr C H (hw _ (List.mem_of_getElem? (i := 8) rfl)) dU_89 (by decide) (cap := 4) (by decide) (by decide) (by decide) (by decide) (pc' := 91) rfl
  obtain ⟨h_ep, ep, c_ep, g_ep, E_ep, A_ep, H⟩ := H
  replace H : K 91 #[.val (.ref a1), .val (.ref a2), .val (.ref a3), .val (.int (4 : Int32)), .val (.int (4 : Int32))] [(.ref ep), (.ref a1)] h_ep 6 24 := H
  have ne_a1_ep : a1 ≠ ep := Nat.ne_of_lt (Nat.lt_of_lt_of_le E.lt (Nat.le_of_eq g_ep.symm))
  have ne_a2_ep : a2 ≠ ep := Nat.ne_of_lt (Nat.lt_of_lt_of_le XG.lt (Nat.le_of_eq g_ep.symm))
  have ne_pr_ep : pr ≠ ep := Nat.ne_of_lt (Nat.lt_of_lt_of_le AP.lt (Nat.le_of_eq g_ep.symm))
  have ne_ar_ep : ar ≠ ep := Nat.ne_of_lt (Nat.lt_of_lt_of_le XA.lt (Nat.le_of_eq g_ep.symm))
  have ne_ss_ep : ss ≠ ep := Nat.ne_of_lt (Nat.lt_of_lt_of_le BS.lt (Nat.le_of_eq g_ep.symm))
  have ne_sc_ep : sc ≠ ep := Nat.ne_of_lt (Nat.lt_of_lt_of_le BC.lt (Nat.le_of_eq g_ep.symm))
  have ne_od_ep : od ≠ ep := Nat.ne_of_lt (Nat.lt_of_lt_of_le V_od.lt (Nat.le_of_eq g_ep.symm))
  have ne_ps_ep : ps ≠ ep := Nat.ne_of_lt (Nat.lt_of_lt_of_le V_ps.lt (Nat.le_of_eq g_ep.symm))
  have ne_bf_ep : bf ≠ ep := Nat.ne_of_lt (Nat.lt_of_lt_of_le V_bf.lt (Nat.le_of_eq g_ep.symm))
  have ne_mk_ep : mk ≠ ep := Nat.ne_of_lt (Nat.lt_of_lt_of_le V_mk.lt (Nat.le_of_eq g_ep.symm))
  have ne_es_ep : es ≠ ep := Nat.ne_of_lt (Nat.lt_of_lt_of_le V_es.lt (Nat.le_of_eq g_ep.symm))
  have n_ep : n0 ≤ ep := Nat.le_trans Z_p84 (Nat.le_of_eq g_ep.symm)
  have s_ep : h0.size ≤ ep := Nat.le_trans KK.1 (Nat.le_of_eq g_ep.symm)
  replace E := E.ext E_ep
  replace F_game := F_game.ext E_ep
  replace F_predecessors := F_predecessors.ext E_ep
  replace F_order := F_order.ext E_ep
  replace F_position := F_position.ext E_ep
  replace F_buffer := F_buffer.ext E_ep
  replace F_mark := F_mark.ext E_ep
  replace F_escapeStamp := F_escapeStamp.ext E_ep
  replace F_escapes := F_escapes.ext E_ep
  replace XG := XG.ext E_ep
  replace FA := FA.ext E_ep
  replace FP := FP.ext E_ep
  replace AP := AP.ext E_ep
  replace XA := XA.ext E_ep
  replace FS := FS.ext E_ep
  replace FC := FC.ext E_ep
  replace BS := BS.ext E_ep
  replace BC := BC.ext E_ep
  replace V_od := V_od.ext E_ep
  replace V_ps := V_ps.ext E_ep
  replace V_bf := V_bf.ext E_ep
  replace V_mk := V_mk.ext E_ep
  replace V_es := V_es.ext E_ep
  replace KK := KK.ext E_ep
  have Z_h_ep : n0 ≤ h_ep.size := Nat.le_trans Z_p84 E_ep.1
  have V_ep : Ari Z h_ep ep .int 4 (lf [(0 : Int32), (0 : Int32), (0 : Int32), (0 : Int32)]) := (Ari.ofNew A_ep (by decide) rfl).congr (fun k hk => by match k, hk with | 0, _ => rfl | 1, _ => rfl | 2, _ => rfl | 3, _ => rfl)
  replace H := k_putFld C H (hw _ (List.mem_of_getElem? (i := 139) rfl)) F_escapes E (Or.inr ⟨(hw _ (List.mem_of_getElem? (i := 140) rfl)), rfl, rfl⟩) (hw _ (List.mem_of_getElem? (i := 66) rfl)) (ty := (.array .int)) (by decide) (v' := (.ref ep)) rfl rfl n_a1 dU_91 (pc' := 94) rfl
  obtain ⟨p91, W_p91, H⟩ := H
  replace E := E.wr W_p91
  replace F_game := F_game.other W_p91 (Or.inr (slot_ne (Or.inr (hw _ (List.mem_of_getElem? (i := 126) rfl))) (Or.inr (hw _ (List.mem_of_getElem? (i := 140) rfl))) (by decide) (t := (.object "com/example/equilibrate/equilibrate/model/ParityGame")) (t' := (.array .int)) (by decide) (by decide)))
  replace F_predecessors := F_predecessors.other W_p91 (Or.inr (slot_ne (Or.inr (hw _ (List.mem_of_getElem? (i := 128) rfl))) (Or.inr (hw _ (List.mem_of_getElem? (i := 140) rfl))) (by decide) (t := (.object "com/example/equilibrate/equilibrate/solver/Predecessors")) (t' := (.array .int)) (by decide) (by decide)))
  replace F_order := F_order.other W_p91 (Or.inr (slot_ne (Or.inr (hw _ (List.mem_of_getElem? (i := 130) rfl))) (Or.inr (hw _ (List.mem_of_getElem? (i := 140) rfl))) (by decide) (t := (.array .int)) (t' := (.array .int)) (by decide) (by decide)))
  replace F_position := F_position.other W_p91 (Or.inr (slot_ne (Or.inr (hw _ (List.mem_of_getElem? (i := 132) rfl))) (Or.inr (hw _ (List.mem_of_getElem? (i := 140) rfl))) (by decide) (t := (.array .int)) (t' := (.array .int)) (by decide) (by decide)))
  replace F_buffer := F_buffer.other W_p91 (Or.inr (slot_ne (Or.inr (hw _ (List.mem_of_getElem? (i := 134) rfl))) (Or.inr (hw _ (List.mem_of_getElem? (i := 140) rfl))) (by decide) (t := (.array .int)) (t' := (.array .int)) (by decide) (by decide)))
  replace F_mark := F_mark.other W_p91 (Or.inr (slot_ne (Or.inr (hw _ (List.mem_of_getElem? (i := 136) rfl))) (Or.inr (hw _ (List.mem_of_getElem? (i := 140) rfl))) (by decide) (t := (.array .int)) (t' := (.array .int)) (by decide) (by decide)))
  replace F_escapeStamp := F_escapeStamp.other W_p91 (Or.inr (slot_ne (Or.inr (hw _ (List.mem_of_getElem? (i := 138) rfl))) (Or.inr (hw _ (List.mem_of_getElem? (i := 140) rfl))) (by decide) (t := (.array .int)) (t' := (.array .int)) (by decide) (by decide)))
  replace F_escapes := F_escapes.same W_p91
  replace XG := XG.wr W_p91
  replace FA := FA.other W_p91 (Or.inl ne_a2_a1)
  replace FP := FP.other W_p91 (Or.inl ne_a2_a1)
  replace AP := AP.other W_p91 ne_pr_a1
  replace XA := XA.wr W_p91
  replace FS := FS.other W_p91 (Or.inl ne_ar_a1)
  replace FC := FC.other W_p91 (Or.inl ne_ar_a1)
  replace BS := BS.other W_p91 ne_ss_a1
  replace BC := BC.other W_p91 ne_sc_a1
  replace V_od := V_od.other W_p91 (Ne.symm ne_a1_od)
  replace V_ps := V_ps.other W_p91 (Ne.symm ne_a1_ps)
  replace V_bf := V_bf.other W_p91 (Ne.symm ne_a1_bf)
  replace V_mk := V_mk.other W_p91 (Ne.symm ne_a1_mk)
  replace V_es := V_es.other W_p91 (Ne.symm ne_a1_es)
  replace V_ep := V_ep.other W_p91 (Ne.symm ne_a1_ep)
  replace KK := KK.wr W_p91 (Or.inl (List.mem_of_getElem? (i := 0) rfl))
  have Z_p91 : n0 ≤ p91.size := by rw [W_p91.size]; exact Z_h_ep
  exact k_retV C H dU_94 (by decide) (by decide) ⟨rfl, od, ps, bf, KK, s_od, s_ps, s_bf, ne_od_ps, ne_od_bf, ne_ps_bf, F_order, F_position, F_buffer, V_od, V_ps, V_bf⟩
theorem dT_0 : decode prog_61_method_6_code 0 = .ok (.aload_n 0, 1) := by decide +kernel
theorem dT_1 : decode prog_61_method_6_code 1 = .ok (.getfield 30, 3) := by decide +kernel
theorem dT_4 : decode prog_61_method_6_code 4 = .ok (.iload_n 1, 1) := by decide +kernel
theorem dT_5 : decode prog_61_method_6_code 5 = .ok (.iload_n 2, 1) := by decide +kernel
theorem dT_6 : decode prog_61_method_6_code 6 = .ok (.iastore, 1) := by decide +kernel
theorem dT_7 : decode prog_61_method_6_code 7 = .ok (.return_, 1) := by decide +kernel
theorem pl_T : plainFor (⟨"com/example/equilibrate/equilibrate/solver/Subgames", "setTarget", "(II)V"⟩ : MethodName) = true := plainFor_of_name (by first | (simp [plainName, overriddenIn]; done) | decide +kernel)
theorem ef_T (mm : MethodId) (a1 : Addr) (p2 : Int32) (p3 : Int32) : entryFrame mm #[(.ref a1), (.int p2), (.int p3)] 3 = mkF mm 0 #[.val (.ref a1), .val (.int p2), .val (.int p3)] [] := by first | (simp [entryFrame, mkF, argsToLocals, Value.category]; done) | rfl
set_option maxRecDepth 65536 in
set_option maxHeartbeats 40000000 in
theorem rmT (l : Launch) (Z : State) (a0 : Array Value) (hw : ∀ d ∈ tables_1, d.before a0 Z = true) (a1 : Addr) (p2 : Int32) (p3 : Int32) (h0 : Heap) (n0 : Nat) (bf : Addr) (f : Nat → Int32) (i : Nat) (F : Fld Z h0 a1 "com/example/equilibrate/equilibrate/solver/Subgames" "buffer" "[I" (.ref bf)) (B : Ari Z h0 bf .int 4 f) (e : p2.toInt = i) (hi : i < 4) (n_bf : n0 ≤ bf) :
    Con l (⟨"com/example/equilibrate/equilibrate/solver/Subgames", "setTarget", "(II)V"⟩ : MethodName) prog_61_method_6_code 3 none ({ frames := 0, cells := 0, slots := 0, locals := 0 } : Room) Z #[(.ref a1), (.int p2), (.int p3)] h0 n0 (fun o h => o = none ∧ Keep h0 h [bf] ∧ Ari Z h bf .int 4 (fun k => if k = i then p3 else f k)) := by
  refine Con.enter pl_T (fun mm => ef_T mm a1 p2 p3) ?_
  intro K O C H
  replace H := k_aloadN C H dT_0 rfl rfl (pc' := 1) rfl
  replace H := k_getFld C H (hw _ (List.mem_of_getElem? (i := 133) rfl)) F dT_1 (pc' := 4) rfl
  replace H := k_iloadN C H dT_4 rfl (pc' := 5) rfl
  replace H := k_iloadN C H dT_5 rfl (pc' := 6) rfl
  replace H := k_iastore C H B (i := i) e hi n_bf dT_6 (pc' := 7) rfl
  obtain ⟨h1, W1, B, H⟩ := H
  exact k_retV C H dT_7 (by decide) (by decide) ⟨rfl, Keep.of_wr W1, B⟩
def own_up (f : Nat → Nat) (i x : Nat) : Nat → Nat := fun k => if k = i then x else f k
def own_n (f : Nat → Nat) : Nat → Int32 := fun k => Int32.ofNat (f k)
theorem own_up_n (f : Nat → Nat) (i x k : Nat) : (if k = i then Int32.ofNat x else own_n f k) = own_n (own_up f i x) k := by
  unfold own_n own_up; split <;> rfl
theorem own_up_b {f : Nat → Nat} {i x : Nat} (h : ∀ k, k < 4 → f k < 4) (hx : x < 4) : ∀ k, k < 4 → own_up f i x k < 4 := fun k hk => by
  unfold own_up; split
  · exact hx
  · exact h k hk
theorem own_of (n : Nat) (h : n < 4) : (Int32.ofNat n).toInt = n := Int32.toInt_ofNat_of_lt (by omega)
def own_run (b : Nat → Nat) : Nat → Nat → Nat → (Nat → Nat) → (Nat → Nat) → (Nat → Nat) × (Nat → Nat)
  | 0, _, _, o, p => (o, p)
  | r + 1, i, e, o, p => own_run b r (i + 1) (e - 1) (own_up (own_up o (p (b i)) (o (e - 1))) (e - 1) (b i)) (own_up (own_up p (o (e - 1)) (p (b i))) (b i) (e - 1))
theorem own_s5 {x0 x1 x2 x3 x4 : Value} {s5 s6 : Slot} {v : Int32} (h : One s5) : storeLocals #[.val x0, .val x1, .val x2, .val x3, .val x4, s5, s6] 5 (.int v) = some #[.val x0, .val x1, .val x2, .val x3, .val x4, .val (.int v), s6] := by
  rcases h with rfl | ⟨w, rfl, hw⟩
  · rfl
  · cases w <;> first | rfl | (simp [Value.category] at hw)
theorem own_s6 {x0 x1 x2 x3 x4 x5 : Value} {s6 : Slot} {v : Int32} (h : One s6) : storeLocals #[.val x0, .val x1, .val x2, .val x3, .val x4, .val x5, s6] 6 (.int v) = some #[.val x0, .val x1, .val x2, .val x3, .val x4, .val x5, .val (.int v)] := by
  rcases h with rfl | ⟨w, rfl, hw⟩
  · rfl
  · cases w <;> first | rfl | (simp [Value.category] at hw)
theorem own_dec {ev : Int32} {e : Nat} (h : ev.toInt = e) (h1 : 1 ≤ e) (h4 : e ≤ 4) : ev + ((-1) : Int32) = Int32.ofNat (e - 1) := by
  apply Int32.toInt_inj.mp
  have a := c_iadd ev (-1)
  have r := rng32 (ev + (-1))
  have k : (-1 : Int32).toInt = -1 := by decide
  rw [own_of (e - 1) (by omega)]
  omega
theorem dR_0 : decode prog_61_method_9_code 0 = .ok (.iload_n 2, 1) := by decide +kernel
theorem dR_1 : decode prog_61_method_9_code 1 = .ok (.istore_n 3, 1) := by decide +kernel
theorem dR_2 : decode prog_61_method_9_code 2 = .ok (.iconst 0, 1) := by decide +kernel
theorem dR_3 : decode prog_61_method_9_code 3 = .ok (.istore 4, 2) := by decide +kernel
theorem dR_5 : decode prog_61_method_9_code 5 = .ok (.iload 4, 2) := by decide +kernel
theorem dR_7 : decode prog_61_method_9_code 7 = .ok (.iload_n 1, 1) := by decide +kernel
theorem dR_8 : decode prog_61_method_9_code 8 = .ok (.if_icmp .ge 73, 3) := by decide +kernel
theorem dR_11 : decode prog_61_method_9_code 11 = .ok (.aload_n 0, 1) := by decide +kernel
theorem dR_12 : decode prog_61_method_9_code 12 = .ok (.getfield 30, 3) := by decide +kernel
theorem dR_15 : decode prog_61_method_9_code 15 = .ok (.iload 4, 2) := by decide +kernel
theorem dR_17 : decode prog_61_method_9_code 17 = .ok (.iaload, 1) := by decide +kernel
theorem dR_18 : decode prog_61_method_9_code 18 = .ok (.istore 5, 2) := by decide +kernel
theorem dR_20 : decode prog_61_method_9_code 20 = .ok (.iinc 3 (-1), 3) := by decide +kernel
theorem dR_23 : decode prog_61_method_9_code 23 = .ok (.aload_n 0, 1) := by decide +kernel
theorem dR_24 : decode prog_61_method_9_code 24 = .ok (.getfield 23, 3) := by decide +kernel
theorem dR_27 : decode prog_61_method_9_code 27 = .ok (.iload_n 3, 1) := by decide +kernel
theorem dR_28 : decode prog_61_method_9_code 28 = .ok (.iaload, 1) := by decide +kernel
theorem dR_29 : decode prog_61_method_9_code 29 = .ok (.istore 6, 2) := by decide +kernel
theorem dR_31 : decode prog_61_method_9_code 31 = .ok (.aload_n 0, 1) := by decide +kernel
theorem dR_32 : decode prog_61_method_9_code 32 = .ok (.getfield 23, 3) := by decide +kernel
theorem dR_35 : decode prog_61_method_9_code 35 = .ok (.aload_n 0, 1) := by decide +kernel
theorem dR_36 : decode prog_61_method_9_code 36 = .ok (.getfield 27, 3) := by decide +kernel
theorem dR_39 : decode prog_61_method_9_code 39 = .ok (.iload 5, 2) := by decide +kernel
theorem dR_41 : decode prog_61_method_9_code 41 = .ok (.iaload, 1) := by decide +kernel
theorem dR_42 : decode prog_61_method_9_code 42 = .ok (.iload 6, 2) := by decide +kernel
theorem dR_44 : decode prog_61_method_9_code 44 = .ok (.iastore, 1) := by decide +kernel
theorem dR_45 : decode prog_61_method_9_code 45 = .ok (.aload_n 0, 1) := by decide +kernel
theorem dR_46 : decode prog_61_method_9_code 46 = .ok (.getfield 27, 3) := by decide +kernel
theorem dR_49 : decode prog_61_method_9_code 49 = .ok (.iload 6, 2) := by decide +kernel
theorem dR_51 : decode prog_61_method_9_code 51 = .ok (.aload_n 0, 1) := by decide +kernel
theorem dR_52 : decode prog_61_method_9_code 52 = .ok (.getfield 27, 3) := by decide +kernel
theorem dR_55 : decode prog_61_method_9_code 55 = .ok (.iload 5, 2) := by decide +kernel
theorem dR_57 : decode prog_61_method_9_code 57 = .ok (.iaload, 1) := by decide +kernel
theorem dR_58 : decode prog_61_method_9_code 58 = .ok (.iastore, 1) := by decide +kernel
theorem dR_59 : decode prog_61_method_9_code 59 = .ok (.aload_n 0, 1) := by decide +kernel
theorem dR_60 : decode prog_61_method_9_code 60 = .ok (.getfield 23, 3) := by decide +kernel
theorem dR_63 : decode prog_61_method_9_code 63 = .ok (.iload_n 3, 1) := by decide +kernel
theorem dR_64 : decode prog_61_method_9_code 64 = .ok (.iload 5, 2) := by decide +kernel
theorem dR_66 : decode prog_61_method_9_code 66 = .ok (.iastore, 1) := by decide +kernel
theorem dR_67 : decode prog_61_method_9_code 67 = .ok (.aload_n 0, 1) := by decide +kernel
theorem dR_68 : decode prog_61_method_9_code 68 = .ok (.getfield 27, 3) := by decide +kernel
theorem dR_71 : decode prog_61_method_9_code 71 = .ok (.iload 5, 2) := by decide +kernel
theorem dR_73 : decode prog_61_method_9_code 73 = .ok (.iload_n 3, 1) := by decide +kernel
theorem dR_74 : decode prog_61_method_9_code 74 = .ok (.iastore, 1) := by decide +kernel
theorem dR_75 : decode prog_61_method_9_code 75 = .ok (.iinc 4 1, 3) := by decide +kernel
theorem dR_78 : decode prog_61_method_9_code 78 = .ok (.goto (-73), 3) := by decide +kernel
theorem dR_81 : decode prog_61_method_9_code 81 = .ok (.iload_n 3, 1) := by decide +kernel
theorem dR_82 : decode prog_61_method_9_code 82 = .ok (.ireturn, 1) := by decide +kernel
theorem pl_R : plainFor (⟨"com/example/equilibrate/equilibrate/solver/Subgames", "remove", "(II)I"⟩ : MethodName) = true := plainFor_of_name (by first | (simp [plainName, overriddenIn]; done) | decide +kernel)
theorem ef_R (mm : MethodId) (a1 : Addr) (p2 : Int32) (p3 : Int32) : entryFrame mm #[(.ref a1), (.int p2), (.int p3)] 7 = mkF mm 0 #[.val (.ref a1), .val (.int p2), .val (.int p3), .unset, .unset, .unset, .unset] [] := by first | (simp [entryFrame, mkF, argsToLocals, Value.category]; done) | rfl
set_option maxRecDepth 65536 in
set_option maxHeartbeats 40000000 in
theorem rmR (l : Launch) (Z : State) (a0 : Array Value) (hw : ∀ d ∈ tables_1, d.before a0 Z = true) (a1 : Addr) (p2 : Int32) (p3 : Int32) (h0 : Heap) (n0 : Nat) (od ps bf : Addr) (o0 p0 b : Nat → Nat) (FO : Fld Z h0 a1 "com/example/equilibrate/equilibrate/solver/Subgames" "order" "[I" (.ref od)) (FQ : Fld Z h0 a1 "com/example/equilibrate/equilibrate/solver/Subgames" "position" "[I" (.ref ps)) (FB : Fld Z h0 a1 "com/example/equilibrate/equilibrate/solver/Subgames" "buffer" "[I" (.ref bf)) (AO : Ari Z h0 od .int 4 (own_n o0)) (AP : Ari Z h0 ps .int 4 (own_n p0)) (AB : Ari Z h0 bf .int 4 (own_n b)) (bo0 : ∀ k, k < 4 → o0 k < 4) (bp0 : ∀ k, k < 4 → p0 k < 4) (bb : ∀ k, k < 4 → b k < 4) (cn ln : Nat) (e2 : p2.toInt = cn) (e3 : p3.toInt = ln) (hcl : cn ≤ ln) (h4 : ln ≤ 4) (ne_od : od ≠ a1) (ne_ps : ps ≠ a1) (n1 : od ≠ ps) (n2 : od ≠ bf) (n3 : ps ≠ bf) (n_od : n0 ≤ od) (n_ps : n0 ≤ ps) :
    Con l (⟨"com/example/equilibrate/equilibrate/solver/Subgames", "remove", "(II)I"⟩ : MethodName) prog_61_method_9_code 7 (some .int) ({ frames := 0, cells := 0, slots := 0, locals := 0 } : Room) Z #[(.ref a1), (.int p2), (.int p3)] h0 n0 (fun o h => ∃ v : Int32, o = some (.int v) ∧ v.toInt = ((ln - cn : Nat) : Int) ∧ Keep h0 h [od, ps] ∧ Ari Z h od .int 4 (own_n (own_run b cn 0 ln o0 p0).1) ∧ Ari Z h ps .int 4 (own_n (own_run b cn 0 ln o0 p0).2)) := by
  refine Con.enter pl_R (fun mm => ef_R mm a1 p2 p3) ?_
  intro K O C H
  replace H := k_iloadN C H dR_0 rfl (pc' := 1) rfl
  replace H := k_istoreN C H dR_1 (L' := #[.val (.ref a1), .val (.int p2), .val (.int p3), .val (.int p3), .unset, .unset, .unset]) rfl (pc' := 2) rfl
  replace H := k_iconst C H (v := 0) dR_2 rfl (pc' := 3) rfl
  replace H := k_istore C H dR_3 (L' := #[.val (.ref a1), .val (.int p2), .val (.int p3), .val (.int p3), .val (.int (0 : Int32)), .unset, .unset]) rfl (pc' := 5) rfl
  have loop : ∀ (r i e : Nat) (ev iv : Int32) (s5 s6 : Slot) (o p : Nat → Nat) (hh : Heap), i + r = cn → e + i = ln → ev.toInt = e → iv.toInt = i → (∀ k, k < 4 → o k < 4) → (∀ k, k < 4 → p k < 4) → own_run b r i e o p = own_run b cn 0 ln o0 p0 → Keep h0 hh [od, ps] → Fld Z hh a1 "com/example/equilibrate/equilibrate/solver/Subgames" "order" "[I" (.ref od) → Fld Z hh a1 "com/example/equilibrate/equilibrate/solver/Subgames" "position" "[I" (.ref ps) → Fld Z hh a1 "com/example/equilibrate/equilibrate/solver/Subgames" "buffer" "[I" (.ref bf) → Ari Z hh od .int 4 (own_n o) → Ari Z hh ps .int 4 (own_n p) → Ari Z hh bf .int 4 (own_n b) → One s5 → One s6 → K 5 #[.val (.ref a1), .val (.int p2), .val (.int p3), .val (.int ev), .val (.int iv), s5, s6] [] hh 0 0 → O := by
    intro r
    induction r with
    | zero =>
      intro i e ev iv s5 s6 o p hh q1 q2 q3 q4 bo bp qr KK FO FQ FB AO AP AB hs5 hs6 H
      replace H := k_iload C H dR_5 rfl (pc' := 7) rfl
      replace H := k_iloadN C H dR_7 rfl (pc' := 8) rfl
      replace H := k_icmpY C H dR_8 (flt (by rw [Int32.lt_iff_toInt_lt]; omega : ¬ iv < p2)).2.1 (by decide) (pc' := 81) rfl
      replace H := k_iloadN C H dR_81 rfl (pc' := 82) rfl
      exact k_retI C H dR_82 (by decide) (by decide) ⟨ev, rfl, by omega, KK, by rw [← qr]; exact AO, by rw [← qr]; exact AP⟩
    | succ r ih =>
      intro i e ev iv s5 s6 o p hh q1 q2 q3 q4 bo bp qr KK FO FQ FB AO AP AB hs5 hs6 H
      replace H := k_iload C H dR_5 rfl (pc' := 7) rfl
      replace H := k_iloadN C H dR_7 rfl (pc' := 8) rfl
      replace H := k_icmpN C H dR_8 (tlt (by rw [Int32.lt_iff_toInt_lt]; omega : iv < p2)).2.1 (pc' := 11) rfl
      replace H := k_aloadN C H dR_11 rfl rfl (pc' := 12) rfl
      replace H := k_getFld C H (hw _ (List.mem_of_getElem? (i := 133) rfl)) FB dR_12 (pc' := 15) rfl
      replace H := k_iload C H dR_15 rfl (pc' := 17) rfl
      replace H := k_iaload C H AB (i := i) q4 (by omega) dR_17 (pc' := 18) rfl
      replace H : K 18 #[.val (.ref a1), .val (.int p2), .val (.int p3), .val (.int ev), .val (.int iv), s5, s6] [(.int (Int32.ofNat (b i)))] hh 0 0 := H
      have hbi : b i < 4 := bb i (by omega)
      have hbe : o (e - 1) < 4 := bo (e - 1) (by omega)
      have hpb : p (b i) < 4 := bp (b i) hbi
      replace H := k_istore C H dR_18 (L' := #[.val (.ref a1), .val (.int p2), .val (.int p3), .val (.int ev), .val (.int iv), .val (.int (Int32.ofNat (b i))), s6]) (own_s5 hs5) (pc' := 20) rfl
      replace H := k_iinc C H (y := (ev + ((-1) : Int32))) dR_20 rfl rfl (L' := #[.val (.ref a1), .val (.int p2), .val (.int p3), .val (.int (ev + ((-1) : Int32))), .val (.int iv), .val (.int (Int32.ofNat (b i))), s6]) rfl (pc' := 23) rfl
      rw [own_dec q3 (by omega) (by omega)] at H
      replace H : K 23 #[.val (.ref a1), .val (.int p2), .val (.int p3), .val (.int (Int32.ofNat (e - 1))), .val (.int iv), .val (.int (Int32.ofNat (b i))), s6] [] hh 0 0 := H
      replace H := k_aloadN C H dR_23 rfl rfl (pc' := 24) rfl
      replace H := k_getFld C H (hw _ (List.mem_of_getElem? (i := 129) rfl)) FO dR_24 (pc' := 27) rfl
      replace H := k_iloadN C H dR_27 rfl (pc' := 28) rfl
      replace H := k_iaload C H AO (i := e - 1) (own_of (e - 1) (by omega)) (by omega) dR_28 (pc' := 29) rfl
      replace H : K 29 #[.val (.ref a1), .val (.int p2), .val (.int p3), .val (.int (Int32.ofNat (e - 1))), .val (.int iv), .val (.int (Int32.ofNat (b i))), s6] [(.int (Int32.ofNat (o (e - 1))))] hh 0 0 := H
      replace H := k_istore C H dR_29 (L' := #[.val (.ref a1), .val (.int p2), .val (.int p3), .val (.int (Int32.ofNat (e - 1))), .val (.int iv), .val (.int (Int32.ofNat (b i))), .val (.int (Int32.ofNat (o (e - 1))))]) (own_s6 hs6) (pc' := 31) rfl
      replace H := k_aloadN C H dR_31 rfl rfl (pc' := 32) rfl
      replace H := k_getFld C H (hw _ (List.mem_of_getElem? (i := 129) rfl)) FO dR_32 (pc' := 35) rfl
      replace H := k_aloadN C H dR_35 rfl rfl (pc' := 36) rfl
      replace H := k_getFld C H (hw _ (List.mem_of_getElem? (i := 131) rfl)) FQ dR_36 (pc' := 39) rfl
      replace H := k_iload C H dR_39 rfl (pc' := 41) rfl
      replace H := k_iaload C H AP (i := (b i)) (own_of _ hbi) hbi dR_41 (pc' := 42) rfl
      replace H : K 42 #[.val (.ref a1), .val (.int p2), .val (.int p3), .val (.int (Int32.ofNat (e - 1))), .val (.int iv), .val (.int (Int32.ofNat (b i))), .val (.int (Int32.ofNat (o (e - 1))))] [(.int (Int32.ofNat (p ((b i))))), (.ref od)] hh 0 0 := H
      replace H := k_iload C H dR_42 rfl (pc' := 44) rfl
      replace H := k_iastore C H AO (i := (p (b i))) (own_of _ hpb) hpb n_od dR_44 (pc' := 45) rfl
      obtain ⟨x1, W1, AO, H⟩ := H
      replace FO := FO.other W1 (Or.inl (Ne.symm ne_od))
      replace FQ := FQ.other W1 (Or.inl (Ne.symm ne_od))
      replace FB := FB.other W1 (Or.inl (Ne.symm ne_od))
      replace AP := AP.other W1 (Ne.symm n1)
      replace AB := AB.other W1 (Ne.symm n2)
      replace AO : Ari Z x1 od .int 4 (own_n (own_up o ((p (b i))) (o (e - 1)))) := AO.congr (fun k _ => own_up_n _ _ _ k)
      replace KK := KK.wr W1 (Or.inl (List.mem_of_getElem? (i := 0) rfl))
      replace H := k_aloadN C H dR_45 rfl rfl (pc' := 46) rfl
      replace H := k_getFld C H (hw _ (List.mem_of_getElem? (i := 131) rfl)) FQ dR_46 (pc' := 49) rfl
      replace H := k_iload C H dR_49 rfl (pc' := 51) rfl
      replace H := k_aloadN C H dR_51 rfl rfl (pc' := 52) rfl
      replace H := k_getFld C H (hw _ (List.mem_of_getElem? (i := 131) rfl)) FQ dR_52 (pc' := 55) rfl
      replace H := k_iload C H dR_55 rfl (pc' := 57) rfl
      replace H := k_iaload C H AP (i := (b i)) (own_of _ hbi) hbi dR_57 (pc' := 58) rfl
      replace H : K 58 #[.val (.ref a1), .val (.int p2), .val (.int p3), .val (.int (Int32.ofNat (e - 1))), .val (.int iv), .val (.int (Int32.ofNat (b i))), .val (.int (Int32.ofNat (o (e - 1))))] [(.int (Int32.ofNat (p ((b i))))), (.int (Int32.ofNat (o (e - 1)))), (.ref ps)] x1 0 0 := H
      replace H := k_iastore C H AP (i := (o (e - 1))) (own_of _ hbe) hbe n_ps dR_58 (pc' := 59) rfl
      obtain ⟨x2, W2, AP, H⟩ := H
      replace FO := FO.other W2 (Or.inl (Ne.symm ne_ps))
      replace FQ := FQ.other W2 (Or.inl (Ne.symm ne_ps))
      replace FB := FB.other W2 (Or.inl (Ne.symm ne_ps))
      replace AO := AO.other W2 n1
      replace AB := AB.other W2 (Ne.symm n3)
      replace AP : Ari Z x2 ps .int 4 (own_n (own_up p ((o (e - 1))) (p (b i)))) := AP.congr (fun k _ => own_up_n _ _ _ k)
      replace KK := KK.wr W2 (Or.inl (List.mem_of_getElem? (i := 1) rfl))
      replace H := k_aloadN C H dR_59 rfl rfl (pc' := 60) rfl
      replace H := k_getFld C H (hw _ (List.mem_of_getElem? (i := 129) rfl)) FO dR_60 (pc' := 63) rfl
      replace H := k_iloadN C H dR_63 rfl (pc' := 64) rfl
      replace H := k_iload C H dR_64 rfl (pc' := 66) rfl
      replace H := k_iastore C H AO (i := (e - 1)) (own_of (e - 1) (by omega)) (by omega) n_od dR_66 (pc' := 67) rfl
      obtain ⟨x3, W3, AO, H⟩ := H
      replace FO := FO.other W3 (Or.inl (Ne.symm ne_od))
      replace FQ := FQ.other W3 (Or.inl (Ne.symm ne_od))
      replace FB := FB.other W3 (Or.inl (Ne.symm ne_od))
      replace AP := AP.other W3 (Ne.symm n1)
      replace AB := AB.other W3 (Ne.symm n2)
      replace AO : Ari Z x3 od .int 4 (own_n (own_up (own_up o (p (b i)) (o (e - 1))) ((e - 1)) (b i))) := AO.congr (fun k _ => own_up_n _ _ _ k)
      replace KK := KK.wr W3 (Or.inl (List.mem_of_getElem? (i := 0) rfl))
      replace H := k_aloadN C H dR_67 rfl rfl (pc' := 68) rfl
      replace H := k_getFld C H (hw _ (List.mem_of_getElem? (i := 131) rfl)) FQ dR_68 (pc' := 71) rfl
      replace H := k_iload C H dR_71 rfl (pc' := 73) rfl
      replace H := k_iloadN C H dR_73 rfl (pc' := 74) rfl
      replace H := k_iastore C H AP (i := (b i)) (own_of _ hbi) hbi n_ps dR_74 (pc' := 75) rfl
      obtain ⟨x4, W4, AP, H⟩ := H
      replace FO := FO.other W4 (Or.inl (Ne.symm ne_ps))
      replace FQ := FQ.other W4 (Or.inl (Ne.symm ne_ps))
      replace FB := FB.other W4 (Or.inl (Ne.symm ne_ps))
      replace AO := AO.other W4 n1
      replace AB := AB.other W4 (Ne.symm n3)
      replace AP : Ari Z x4 ps .int 4 (own_n (own_up (own_up p (o (e - 1)) (p (b i))) ((b i)) (e - 1))) := AP.congr (fun k _ => own_up_n _ _ _ k)
      replace KK := KK.wr W4 (Or.inl (List.mem_of_getElem? (i := 1) rfl))
      replace H := k_iinc C H (y := (iv + (1 : Int32))) dR_75 rfl rfl (L' := #[.val (.ref a1), .val (.int p2), .val (.int p3), .val (.int (Int32.ofNat (e - 1))), .val (.int (iv + (1 : Int32))), .val (.int (Int32.ofNat (b i))), .val (.int (Int32.ofNat (o (e - 1))))]) rfl (pc' := 78) rfl
      replace H := k_goto C H dR_78 (by decide) (pc' := 5) rfl
      exact ih (i + 1) (e - 1) _ _ _ _ _ _ _ (by omega) (by omega) (own_of (e - 1) (by omega)) (addN q4 (by decide : (1 : Int32).toInt = ((1 : Nat) : Int)) (by omega)) (own_up_b (own_up_b bo hbe) hbi) (own_up_b (own_up_b bp hpb) (by omega)) qr KK FO FQ FB AO AP AB (One.val rfl) (One.val rfl) H
  exact loop cn 0 ln _ _ _ _ o0 p0 h0 (by omega) (by omega) e3 (by decide) bo0 bp0 rfl (Keep.refl h0 _) FO FQ FB AO AP AB One.u One.u H
theorem dX_0 : decode prog_61_method_4_code 0 = .ok (.aload_n 0, 1) := by decide +kernel
theorem dX_1 : decode prog_61_method_4_code 1 = .ok (.getfield 23, 3) := by decide +kernel
theorem dX_4 : decode prog_61_method_4_code 4 = .ok (.iload_n 1, 1) := by decide +kernel
theorem dX_5 : decode prog_61_method_4_code 5 = .ok (.iaload, 1) := by decide +kernel
theorem dX_6 : decode prog_61_method_4_code 6 = .ok (.ireturn, 1) := by decide +kernel
theorem pl_X : plainFor (⟨"com/example/equilibrate/equilibrate/solver/Subgames", "vertexAt", "(I)I"⟩ : MethodName) = true := plainFor_of_name (by first | (simp [plainName, overriddenIn]; done) | decide +kernel)
theorem ef_X (mm : MethodId) (a1 : Addr) (p2 : Int32) : entryFrame mm #[(.ref a1), (.int p2)] 2 = mkF mm 0 #[.val (.ref a1), .val (.int p2)] [] := by first | (simp [entryFrame, mkF, argsToLocals, Value.category]; done) | rfl
set_option maxRecDepth 65536 in
set_option maxHeartbeats 40000000 in
theorem rmX (l : Launch) (Z : State) (a0 : Array Value) (hw : ∀ d ∈ tables_1, d.before a0 Z = true) (a1 : Addr) (p2 : Int32) (h0 : Heap) (n0 : Nat) (od : Addr) (f : Nat → Int32) (i : Nat) (F : Fld Z h0 a1 "com/example/equilibrate/equilibrate/solver/Subgames" "order" "[I" (.ref od)) (A : Ari Z h0 od .int 4 f) (e : p2.toInt = i) (hi : i < 4) :
    Con l (⟨"com/example/equilibrate/equilibrate/solver/Subgames", "vertexAt", "(I)I"⟩ : MethodName) prog_61_method_4_code 2 (some .int) ({ frames := 0, cells := 0, slots := 0, locals := 0 } : Room) Z #[(.ref a1), (.int p2)] h0 n0 (fun o h => o = some (.int (f i)) ∧ h0 = h) := by
  refine Con.enter pl_X (fun mm => ef_X mm a1 p2) ?_
  intro K O C H
  replace H := k_aloadN C H dX_0 rfl rfl (pc' := 1) rfl
  replace H := k_getFld C H (hw _ (List.mem_of_getElem? (i := 129) rfl)) F dX_1 (pc' := 4) rfl
  replace H := k_iloadN C H dX_4 rfl (pc' := 5) rfl
  replace H := k_iaload C H A (i := i) e hi dX_5 (pc' := 6) rfl
  exact k_retI C H dX_6 (by decide) (by decide) ⟨rfl, rfl⟩
def own_ins (p3 : Int32) (f : Nat → Int32) (i : Nat) : Int32 := (if (f i) < p3 then (1 : Int32) else (0 : Int32))
theorem dI_0 : decode prog_61_method_5_code 0 = .ok (.aload_n 0, 1) := by decide +kernel
theorem dI_1 : decode prog_61_method_5_code 1 = .ok (.getfield 27, 3) := by decide +kernel
theorem dI_4 : decode prog_61_method_5_code 4 = .ok (.iload_n 1, 1) := by decide +kernel
theorem dI_5 : decode prog_61_method_5_code 5 = .ok (.iaload, 1) := by decide +kernel
theorem dI_6 : decode prog_61_method_5_code 6 = .ok (.iload_n 2, 1) := by decide +kernel
theorem dI_7 : decode prog_61_method_5_code 7 = .ok (.if_icmp .ge 7, 3) := by decide +kernel
theorem dI_10 : decode prog_61_method_5_code 10 = .ok (.iconst 1, 1) := by decide +kernel
theorem dI_11 : decode prog_61_method_5_code 11 = .ok (.goto 4, 3) := by decide +kernel
theorem dI_14 : decode prog_61_method_5_code 14 = .ok (.iconst 0, 1) := by decide +kernel
theorem dI_15 : decode prog_61_method_5_code 15 = .ok (.ireturn, 1) := by decide +kernel
theorem pl_I : plainFor (⟨"com/example/equilibrate/equilibrate/solver/Subgames", "isInside", "(II)Z"⟩ : MethodName) = true := plainFor_of_name (by first | (simp [plainName, overriddenIn]; done) | decide +kernel)
theorem ef_I (mm : MethodId) (a1 : Addr) (p2 : Int32) (p3 : Int32) : entryFrame mm #[(.ref a1), (.int p2), (.int p3)] 3 = mkF mm 0 #[.val (.ref a1), .val (.int p2), .val (.int p3)] [] := by first | (simp [entryFrame, mkF, argsToLocals, Value.category]; done) | rfl
set_option maxRecDepth 65536 in
set_option maxHeartbeats 40000000 in
theorem rmI (l : Launch) (Z : State) (a0 : Array Value) (hw : ∀ d ∈ tables_1, d.before a0 Z = true) (a1 : Addr) (p2 : Int32) (p3 : Int32) (h0 : Heap) (n0 : Nat) (ps : Addr) (f : Nat → Int32) (i : Nat) (F : Fld Z h0 a1 "com/example/equilibrate/equilibrate/solver/Subgames" "position" "[I" (.ref ps)) (A : Ari Z h0 ps .int 4 f) (e : p2.toInt = i) (hi : i < 4) :
    Con l (⟨"com/example/equilibrate/equilibrate/solver/Subgames", "isInside", "(II)Z"⟩ : MethodName) prog_61_method_5_code 3 (some .boolean) ({ frames := 0, cells := 0, slots := 0, locals := 0 } : Room) Z #[(.ref a1), (.int p2), (.int p3)] h0 n0 (fun o h => o = some (.int (own_ins p3 f i)) ∧ h0 = h) := by
  refine Con.enter pl_I (fun mm => ef_I mm a1 p2 p3) ?_
  intro K O C H
  replace H := k_aloadN C H dI_0 rfl rfl (pc' := 1) rfl
  replace H := k_getFld C H (hw _ (List.mem_of_getElem? (i := 131) rfl)) F dI_1 (pc' := 4) rfl
  replace H := k_iloadN C H dI_4 rfl (pc' := 5) rfl
  replace H := k_iaload C H A (i := i) e hi dI_5 (pc' := 6) rfl
  replace H := k_iloadN C H dI_6 rfl (pc' := 7) rfl
  by_cases hc7 : (f i) < p3
  · replace H := k_icmpN C H dI_7 (tlt hc7).2.1 (pc' := 10) rfl
    replace H := k_iconst C H (v := 1) dI_10 rfl (pc' := 11) rfl
    replace H := k_goto C H dI_11 (by decide) (pc' := 15) rfl
    exact k_retZ C H dI_15 (by decide) (by decide) (by decide) ⟨by rw [own_ins, if_pos hc7], rfl⟩
  · replace H := k_icmpY C H dI_7 (flt hc7).2.1 (by decide) (pc' := 14) rfl
    replace H := k_iconst C H (v := 0) dI_14 rfl (pc' := 15) rfl
    exact k_retZ C H dI_15 (by decide) (by decide) (by decide) ⟨by rw [own_ins, if_neg hc7], rfl⟩
def own_has (p2 : Int32) (f : Nat → Int32) : Int32 := (if (f 0) = p2 then (1 : Int32) else (if (f 1) = p2 then (1 : Int32) else (if (f 2) = p2 then (1 : Int32) else (if (f 3) = p2 then (1 : Int32) else (0 : Int32)))))
theorem dH_0 : decode method_3_code 0 = .ok (.aload_n 0, 1) := by decide +kernel
theorem dH_1 : decode method_3_code 1 = .ok (.iconst 0, 1) := by decide +kernel
theorem dH_2 : decode method_3_code 2 = .ok (.iaload, 1) := by decide +kernel
theorem dH_3 : decode method_3_code 3 = .ok (.iload_n 1, 1) := by decide +kernel
theorem dH_4 : decode method_3_code 4 = .ok (.if_icmp .eq 24, 3) := by decide +kernel
theorem dH_7 : decode method_3_code 7 = .ok (.aload_n 0, 1) := by decide +kernel
theorem dH_8 : decode method_3_code 8 = .ok (.iconst 1, 1) := by decide +kernel
theorem dH_9 : decode method_3_code 9 = .ok (.iaload, 1) := by decide +kernel
theorem dH_10 : decode method_3_code 10 = .ok (.iload_n 1, 1) := by decide +kernel
theorem dH_11 : decode method_3_code 11 = .ok (.if_icmp .eq 17, 3) := by decide +kernel
theorem dH_14 : decode method_3_code 14 = .ok (.aload_n 0, 1) := by decide +kernel
theorem dH_15 : decode method_3_code 15 = .ok (.iconst 2, 1) := by decide +kernel
theorem dH_16 : decode method_3_code 16 = .ok (.iaload, 1) := by decide +kernel
theorem dH_17 : decode method_3_code 17 = .ok (.iload_n 1, 1) := by decide +kernel
theorem dH_18 : decode method_3_code 18 = .ok (.if_icmp .eq 10, 3) := by decide +kernel
theorem dH_21 : decode method_3_code 21 = .ok (.aload_n 0, 1) := by decide +kernel
theorem dH_22 : decode method_3_code 22 = .ok (.iconst 3, 1) := by decide +kernel
theorem dH_23 : decode method_3_code 23 = .ok (.iaload, 1) := by decide +kernel
theorem dH_24 : decode method_3_code 24 = .ok (.iload_n 1, 1) := by decide +kernel
theorem dH_25 : decode method_3_code 25 = .ok (.if_icmp .ne 7, 3) := by decide +kernel
theorem dH_28 : decode method_3_code 28 = .ok (.iconst 1, 1) := by decide +kernel
theorem dH_29 : decode method_3_code 29 = .ok (.goto 4, 3) := by decide +kernel
theorem dH_32 : decode method_3_code 32 = .ok (.iconst 0, 1) := by decide +kernel
theorem dH_33 : decode method_3_code 33 = .ok (.ireturn, 1) := by decide +kernel
theorem pl_H : plainFor (⟨"com/example/equilibrate/equilibrate/solver/SubgamesRemovePinLaw", "has", "([II)Z"⟩ : MethodName) = true := plainFor_of_name (by first | (simp [plainName, overriddenIn]; done) | decide +kernel)
theorem ef_H (mm : MethodId) (a1 : Addr) (p2 : Int32) : entryFrame mm #[(.ref a1), (.int p2)] 2 = mkF mm 0 #[.val (.ref a1), .val (.int p2)] [] := by first | (simp [entryFrame, mkF, argsToLocals, Value.category]; done) | rfl
set_option maxRecDepth 65536 in
set_option maxHeartbeats 40000000 in
theorem rmH (l : Launch) (Z : State) (a0 : Array Value) (hw : ∀ d ∈ tables_1, d.before a0 Z = true) (a1 : Addr) (p2 : Int32) (h0 : Heap) (n0 : Nat) (f : Nat → Int32) (A : Ari Z h0 a1 .int 4 f) :
    Con l (⟨"com/example/equilibrate/equilibrate/solver/SubgamesRemovePinLaw", "has", "([II)Z"⟩ : MethodName) method_3_code 2 (some .boolean) ({ frames := 0, cells := 0, slots := 0, locals := 0 } : Room) Z #[(.ref a1), (.int p2)] h0 n0 (fun o h => o = some (.int (own_has p2 f)) ∧ h0 = h) := by
  refine Con.enter pl_H (fun mm => ef_H mm a1 p2) ?_
  intro K O C H
  replace H := k_aloadN C H dH_0 rfl rfl (pc' := 1) rfl
  replace H := k_iconst C H (v := 0) dH_1 rfl (pc' := 2) rfl
  replace H := k_iaload C H A (i := 0) (by decide) (by decide) dH_2 (pc' := 3) rfl
  replace H := k_iloadN C H dH_3 rfl (pc' := 4) rfl
  by_cases hc4 : (f 0) = p2
  · replace H := k_icmpY C H dH_4 (teq hc4).1 (by decide) (pc' := 28) rfl
    replace H := k_iconst C H (v := 1) dH_28 rfl (pc' := 29) rfl
    replace H := k_goto C H dH_29 (by decide) (pc' := 33) rfl
    exact k_retZ C H dH_33 (by decide) (by decide) (by decide) ⟨by rw [own_has, if_pos hc4], rfl⟩
  · replace H := k_icmpN C H dH_4 (feq hc4).1 (pc' := 7) rfl
    replace H := k_aloadN C H dH_7 rfl rfl (pc' := 8) rfl
    replace H := k_iconst C H (v := 1) dH_8 rfl (pc' := 9) rfl
    replace H := k_iaload C H A (i := 1) (by decide) (by decide) dH_9 (pc' := 10) rfl
    replace H := k_iloadN C H dH_10 rfl (pc' := 11) rfl
    by_cases hc11 : (f 1) = p2
    · replace H := k_icmpY C H dH_11 (teq hc11).1 (by decide) (pc' := 28) rfl
      replace H := k_iconst C H (v := 1) dH_28 rfl (pc' := 29) rfl
      replace H := k_goto C H dH_29 (by decide) (pc' := 33) rfl
      exact k_retZ C H dH_33 (by decide) (by decide) (by decide) ⟨by rw [own_has, if_neg hc4, if_pos hc11], rfl⟩
    · replace H := k_icmpN C H dH_11 (feq hc11).1 (pc' := 14) rfl
      replace H := k_aloadN C H dH_14 rfl rfl (pc' := 15) rfl
      replace H := k_iconst C H (v := 2) dH_15 rfl (pc' := 16) rfl
      replace H := k_iaload C H A (i := 2) (by decide) (by decide) dH_16 (pc' := 17) rfl
      replace H := k_iloadN C H dH_17 rfl (pc' := 18) rfl
      by_cases hc18 : (f 2) = p2
      · replace H := k_icmpY C H dH_18 (teq hc18).1 (by decide) (pc' := 28) rfl
        replace H := k_iconst C H (v := 1) dH_28 rfl (pc' := 29) rfl
        replace H := k_goto C H dH_29 (by decide) (pc' := 33) rfl
        exact k_retZ C H dH_33 (by decide) (by decide) (by decide) ⟨by rw [own_has, if_neg hc4, if_neg hc11, if_pos hc18], rfl⟩
      · replace H := k_icmpN C H dH_18 (feq hc18).1 (pc' := 21) rfl
        replace H := k_aloadN C H dH_21 rfl rfl (pc' := 22) rfl
        replace H := k_iconst C H (v := 3) dH_22 rfl (pc' := 23) rfl
        replace H := k_iaload C H A (i := 3) (by decide) (by decide) dH_23 (pc' := 24) rfl
        replace H := k_iloadN C H dH_24 rfl (pc' := 25) rfl
        by_cases hc25 : (f 3) = p2
        · replace H := k_icmpN C H dH_25 (teq hc25).2 (pc' := 28) rfl
          replace H := k_iconst C H (v := 1) dH_28 rfl (pc' := 29) rfl
          replace H := k_goto C H dH_29 (by decide) (pc' := 33) rfl
          exact k_retZ C H dH_33 (by decide) (by decide) (by decide) ⟨by rw [own_has, if_neg hc4, if_neg hc11, if_neg hc18, if_pos hc25], rfl⟩
        · replace H := k_icmpY C H dH_25 (feq hc25).2 (by decide) (pc' := 32) rfl
          replace H := k_iconst C H (v := 0) dH_32 rfl (pc' := 33) rfl
          exact k_retZ C H dH_33 (by decide) (by decide) (by decide) ⟨by rw [own_has, if_neg hc4, if_neg hc11, if_neg hc18, if_neg hc25], rfl⟩
def own_inp (p2 : Int32) (p3 : Int32) (f : Nat → Int32) : Int32 := (if (0 : Int32) < p3 then (if (f 0) = p2 then (1 : Int32) else (if (1 : Int32) < p3 then (if (f 1) = p2 then (1 : Int32) else (if (2 : Int32) < p3 then (if (f 2) = p2 then (1 : Int32) else (if (3 : Int32) < p3 then (if (f 3) = p2 then (1 : Int32) else (0 : Int32)) else (0 : Int32))) else (if (3 : Int32) < p3 then (if (f 3) = p2 then (1 : Int32) else (0 : Int32)) else (0 : Int32)))) else (if (2 : Int32) < p3 then (if (f 2) = p2 then (1 : Int32) else (if (3 : Int32) < p3 then (if (f 3) = p2 then (1 : Int32) else (0 : Int32)) else (0 : Int32))) else (if (3 : Int32) < p3 then (if (f 3) = p2 then (1 : Int32) else (0 : Int32)) else (0 : Int32))))) else (if (1 : Int32) < p3 then (if (f 1) = p2 then (1 : Int32) else (if (2 : Int32) < p3 then (if (f 2) = p2 then (1 : Int32) else (if (3 : Int32) < p3 then (if (f 3) = p2 then (1 : Int32) else (0 : Int32)) else (0 : Int32))) else (if (3 : Int32) < p3 then (if (f 3) = p2 then (1 : Int32) else (0 : Int32)) else (0 : Int32)))) else (if (2 : Int32) < p3 then (if (f 2) = p2 then (1 : Int32) else (if (3 : Int32) < p3 then (if (f 3) = p2 then (1 : Int32) else (0 : Int32)) else (0 : Int32))) else (if (3 : Int32) < p3 then (if (f 3) = p2 then (1 : Int32) else (0 : Int32)) else (0 : Int32)))))
theorem dN_0 : decode method_4_code 0 = .ok (.iload_n 2, 1) := by decide +kernel
theorem dN_1 : decode method_4_code 1 = .ok (.ifCond .le 10, 3) := by decide +kernel
theorem dN_4 : decode method_4_code 4 = .ok (.aload_n 0, 1) := by decide +kernel
theorem dN_5 : decode method_4_code 5 = .ok (.iconst 0, 1) := by decide +kernel
theorem dN_6 : decode method_4_code 6 = .ok (.iaload, 1) := by decide +kernel
theorem dN_7 : decode method_4_code 7 = .ok (.iload_n 1, 1) := by decide +kernel
theorem dN_8 : decode method_4_code 8 = .ok (.if_icmp .eq 39, 3) := by decide +kernel
theorem dN_11 : decode method_4_code 11 = .ok (.iload_n 2, 1) := by decide +kernel
theorem dN_12 : decode method_4_code 12 = .ok (.iconst 1, 1) := by decide +kernel
theorem dN_13 : decode method_4_code 13 = .ok (.if_icmp .le 10, 3) := by decide +kernel
theorem dN_16 : decode method_4_code 16 = .ok (.aload_n 0, 1) := by decide +kernel
theorem dN_17 : decode method_4_code 17 = .ok (.iconst 1, 1) := by decide +kernel
theorem dN_18 : decode method_4_code 18 = .ok (.iaload, 1) := by decide +kernel
theorem dN_19 : decode method_4_code 19 = .ok (.iload_n 1, 1) := by decide +kernel
theorem dN_20 : decode method_4_code 20 = .ok (.if_icmp .eq 27, 3) := by decide +kernel
theorem dN_23 : decode method_4_code 23 = .ok (.iload_n 2, 1) := by decide +kernel
theorem dN_24 : decode method_4_code 24 = .ok (.iconst 2, 1) := by decide +kernel
theorem dN_25 : decode method_4_code 25 = .ok (.if_icmp .le 10, 3) := by decide +kernel
theorem dN_28 : decode method_4_code 28 = .ok (.aload_n 0, 1) := by decide +kernel
theorem dN_29 : decode method_4_code 29 = .ok (.iconst 2, 1) := by decide +kernel
theorem dN_30 : decode method_4_code 30 = .ok (.iaload, 1) := by decide +kernel
theorem dN_31 : decode method_4_code 31 = .ok (.iload_n 1, 1) := by decide +kernel
theorem dN_32 : decode method_4_code 32 = .ok (.if_icmp .eq 15, 3) := by decide +kernel
theorem dN_35 : decode method_4_code 35 = .ok (.iload_n 2, 1) := by decide +kernel
theorem dN_36 : decode method_4_code 36 = .ok (.iconst 3, 1) := by decide +kernel
theorem dN_37 : decode method_4_code 37 = .ok (.if_icmp .le 14, 3) := by decide +kernel
theorem dN_40 : decode method_4_code 40 = .ok (.aload_n 0, 1) := by decide +kernel
theorem dN_41 : decode method_4_code 41 = .ok (.iconst 3, 1) := by decide +kernel
theorem dN_42 : decode method_4_code 42 = .ok (.iaload, 1) := by decide +kernel
theorem dN_43 : decode method_4_code 43 = .ok (.iload_n 1, 1) := by decide +kernel
theorem dN_44 : decode method_4_code 44 = .ok (.if_icmp .ne 7, 3) := by decide +kernel
theorem dN_47 : decode method_4_code 47 = .ok (.iconst 1, 1) := by decide +kernel
theorem dN_48 : decode method_4_code 48 = .ok (.goto 4, 3) := by decide +kernel
theorem dN_51 : decode method_4_code 51 = .ok (.iconst 0, 1) := by decide +kernel
theorem dN_52 : decode method_4_code 52 = .ok (.ireturn, 1) := by decide +kernel
theorem pl_N : plainFor (⟨"com/example/equilibrate/equilibrate/solver/SubgamesRemovePinLaw", "inPrefix", "([III)Z"⟩ : MethodName) = true := plainFor_of_name (by first | (simp [plainName, overriddenIn]; done) | decide +kernel)
theorem ef_N (mm : MethodId) (a1 : Addr) (p2 : Int32) (p3 : Int32) : entryFrame mm #[(.ref a1), (.int p2), (.int p3)] 3 = mkF mm 0 #[.val (.ref a1), .val (.int p2), .val (.int p3)] [] := by first | (simp [entryFrame, mkF, argsToLocals, Value.category]; done) | rfl
set_option maxRecDepth 65536 in
set_option maxHeartbeats 40000000 in
theorem rmN (l : Launch) (Z : State) (a0 : Array Value) (hw : ∀ d ∈ tables_1, d.before a0 Z = true) (a1 : Addr) (p2 : Int32) (p3 : Int32) (h0 : Heap) (n0 : Nat) (f : Nat → Int32) (A : Ari Z h0 a1 .int 4 f) :
    Con l (⟨"com/example/equilibrate/equilibrate/solver/SubgamesRemovePinLaw", "inPrefix", "([III)Z"⟩ : MethodName) method_4_code 3 (some .boolean) ({ frames := 0, cells := 0, slots := 0, locals := 0 } : Room) Z #[(.ref a1), (.int p2), (.int p3)] h0 n0 (fun o h => o = some (.int (own_inp p2 p3 f)) ∧ h0 = h) := by
  refine Con.enter pl_N (fun mm => ef_N mm a1 p2 p3) ?_
  intro K O C H
  replace H := k_iloadN C H dN_0 rfl (pc' := 1) rfl
  by_cases hc1 : (0 : Int32) < p3
  · replace H := k_ifcN C H dN_1 (tlt hc1).2.2.2 (pc' := 4) rfl
    replace H := k_aloadN C H dN_4 rfl rfl (pc' := 5) rfl
    replace H := k_iconst C H (v := 0) dN_5 rfl (pc' := 6) rfl
    replace H := k_iaload C H A (i := 0) (by decide) (by decide) dN_6 (pc' := 7) rfl
    replace H := k_iloadN C H dN_7 rfl (pc' := 8) rfl
    by_cases hc8 : (f 0) = p2
    · replace H := k_icmpY C H dN_8 (teq hc8).1 (by decide) (pc' := 47) rfl
      replace H := k_iconst C H (v := 1) dN_47 rfl (pc' := 48) rfl
      replace H := k_goto C H dN_48 (by decide) (pc' := 52) rfl
      exact k_retZ C H dN_52 (by decide) (by decide) (by decide) ⟨by rw [own_inp, if_pos hc1, if_pos hc8], rfl⟩
    · replace H := k_icmpN C H dN_8 (feq hc8).1 (pc' := 11) rfl
      replace H := k_iloadN C H dN_11 rfl (pc' := 12) rfl
      replace H := k_iconst C H (v := 1) dN_12 rfl (pc' := 13) rfl
      by_cases hc13 : (1 : Int32) < p3
      · replace H := k_icmpN C H dN_13 (tlt hc13).2.2.2 (pc' := 16) rfl
        replace H := k_aloadN C H dN_16 rfl rfl (pc' := 17) rfl
        replace H := k_iconst C H (v := 1) dN_17 rfl (pc' := 18) rfl
        replace H := k_iaload C H A (i := 1) (by decide) (by decide) dN_18 (pc' := 19) rfl
        replace H := k_iloadN C H dN_19 rfl (pc' := 20) rfl
        by_cases hc20 : (f 1) = p2
        · replace H := k_icmpY C H dN_20 (teq hc20).1 (by decide) (pc' := 47) rfl
          replace H := k_iconst C H (v := 1) dN_47 rfl (pc' := 48) rfl
          replace H := k_goto C H dN_48 (by decide) (pc' := 52) rfl
          exact k_retZ C H dN_52 (by decide) (by decide) (by decide) ⟨by rw [own_inp, if_pos hc1, if_neg hc8, if_pos hc13, if_pos hc20], rfl⟩
        · replace H := k_icmpN C H dN_20 (feq hc20).1 (pc' := 23) rfl
          replace H := k_iloadN C H dN_23 rfl (pc' := 24) rfl
          replace H := k_iconst C H (v := 2) dN_24 rfl (pc' := 25) rfl
          by_cases hc25 : (2 : Int32) < p3
          · replace H := k_icmpN C H dN_25 (tlt hc25).2.2.2 (pc' := 28) rfl
            replace H := k_aloadN C H dN_28 rfl rfl (pc' := 29) rfl
            replace H := k_iconst C H (v := 2) dN_29 rfl (pc' := 30) rfl
            replace H := k_iaload C H A (i := 2) (by decide) (by decide) dN_30 (pc' := 31) rfl
            replace H := k_iloadN C H dN_31 rfl (pc' := 32) rfl
            by_cases hc32 : (f 2) = p2
            · replace H := k_icmpY C H dN_32 (teq hc32).1 (by decide) (pc' := 47) rfl
              replace H := k_iconst C H (v := 1) dN_47 rfl (pc' := 48) rfl
              replace H := k_goto C H dN_48 (by decide) (pc' := 52) rfl
              exact k_retZ C H dN_52 (by decide) (by decide) (by decide) ⟨by rw [own_inp, if_pos hc1, if_neg hc8, if_pos hc13, if_neg hc20, if_pos hc25, if_pos hc32], rfl⟩
            · replace H := k_icmpN C H dN_32 (feq hc32).1 (pc' := 35) rfl
              replace H := k_iloadN C H dN_35 rfl (pc' := 36) rfl
              replace H := k_iconst C H (v := 3) dN_36 rfl (pc' := 37) rfl
              by_cases hc37 : (3 : Int32) < p3
              · replace H := k_icmpN C H dN_37 (tlt hc37).2.2.2 (pc' := 40) rfl
                replace H := k_aloadN C H dN_40 rfl rfl (pc' := 41) rfl
                replace H := k_iconst C H (v := 3) dN_41 rfl (pc' := 42) rfl
                replace H := k_iaload C H A (i := 3) (by decide) (by decide) dN_42 (pc' := 43) rfl
                replace H := k_iloadN C H dN_43 rfl (pc' := 44) rfl
                by_cases hc44 : (f 3) = p2
                · replace H := k_icmpN C H dN_44 (teq hc44).2 (pc' := 47) rfl
                  replace H := k_iconst C H (v := 1) dN_47 rfl (pc' := 48) rfl
                  replace H := k_goto C H dN_48 (by decide) (pc' := 52) rfl
                  exact k_retZ C H dN_52 (by decide) (by decide) (by decide) ⟨by rw [own_inp, if_pos hc1, if_neg hc8, if_pos hc13, if_neg hc20, if_pos hc25, if_neg hc32, if_pos hc37, if_pos hc44], rfl⟩
                · replace H := k_icmpY C H dN_44 (feq hc44).2 (by decide) (pc' := 51) rfl
                  replace H := k_iconst C H (v := 0) dN_51 rfl (pc' := 52) rfl
                  exact k_retZ C H dN_52 (by decide) (by decide) (by decide) ⟨by rw [own_inp, if_pos hc1, if_neg hc8, if_pos hc13, if_neg hc20, if_pos hc25, if_neg hc32, if_pos hc37, if_neg hc44], rfl⟩
              · replace H := k_icmpY C H dN_37 (flt hc37).2.2.2 (by decide) (pc' := 51) rfl
                replace H := k_iconst C H (v := 0) dN_51 rfl (pc' := 52) rfl
                exact k_retZ C H dN_52 (by decide) (by decide) (by decide) ⟨by rw [own_inp, if_pos hc1, if_neg hc8, if_pos hc13, if_neg hc20, if_pos hc25, if_neg hc32, if_neg hc37], rfl⟩
          · replace H := k_icmpY C H dN_25 (flt hc25).2.2.2 (by decide) (pc' := 35) rfl
            replace H := k_iloadN C H dN_35 rfl (pc' := 36) rfl
            replace H := k_iconst C H (v := 3) dN_36 rfl (pc' := 37) rfl
            by_cases hc37 : (3 : Int32) < p3
            · replace H := k_icmpN C H dN_37 (tlt hc37).2.2.2 (pc' := 40) rfl
              replace H := k_aloadN C H dN_40 rfl rfl (pc' := 41) rfl
              replace H := k_iconst C H (v := 3) dN_41 rfl (pc' := 42) rfl
              replace H := k_iaload C H A (i := 3) (by decide) (by decide) dN_42 (pc' := 43) rfl
              replace H := k_iloadN C H dN_43 rfl (pc' := 44) rfl
              by_cases hc44 : (f 3) = p2
              · replace H := k_icmpN C H dN_44 (teq hc44).2 (pc' := 47) rfl
                replace H := k_iconst C H (v := 1) dN_47 rfl (pc' := 48) rfl
                replace H := k_goto C H dN_48 (by decide) (pc' := 52) rfl
                exact k_retZ C H dN_52 (by decide) (by decide) (by decide) ⟨by rw [own_inp, if_pos hc1, if_neg hc8, if_pos hc13, if_neg hc20, if_neg hc25, if_pos hc37, if_pos hc44], rfl⟩
              · replace H := k_icmpY C H dN_44 (feq hc44).2 (by decide) (pc' := 51) rfl
                replace H := k_iconst C H (v := 0) dN_51 rfl (pc' := 52) rfl
                exact k_retZ C H dN_52 (by decide) (by decide) (by decide) ⟨by rw [own_inp, if_pos hc1, if_neg hc8, if_pos hc13, if_neg hc20, if_neg hc25, if_pos hc37, if_neg hc44], rfl⟩
            · replace H := k_icmpY C H dN_37 (flt hc37).2.2.2 (by decide) (pc' := 51) rfl
              replace H := k_iconst C H (v := 0) dN_51 rfl (pc' := 52) rfl
              exact k_retZ C H dN_52 (by decide) (by decide) (by decide) ⟨by rw [own_inp, if_pos hc1, if_neg hc8, if_pos hc13, if_neg hc20, if_neg hc25, if_neg hc37], rfl⟩
      · replace H := k_icmpY C H dN_13 (flt hc13).2.2.2 (by decide) (pc' := 23) rfl
        replace H := k_iloadN C H dN_23 rfl (pc' := 24) rfl
        replace H := k_iconst C H (v := 2) dN_24 rfl (pc' := 25) rfl
        by_cases hc25 : (2 : Int32) < p3
        · replace H := k_icmpN C H dN_25 (tlt hc25).2.2.2 (pc' := 28) rfl
          replace H := k_aloadN C H dN_28 rfl rfl (pc' := 29) rfl
          replace H := k_iconst C H (v := 2) dN_29 rfl (pc' := 30) rfl
          replace H := k_iaload C H A (i := 2) (by decide) (by decide) dN_30 (pc' := 31) rfl
          replace H := k_iloadN C H dN_31 rfl (pc' := 32) rfl
          by_cases hc32 : (f 2) = p2
          · replace H := k_icmpY C H dN_32 (teq hc32).1 (by decide) (pc' := 47) rfl
            replace H := k_iconst C H (v := 1) dN_47 rfl (pc' := 48) rfl
            replace H := k_goto C H dN_48 (by decide) (pc' := 52) rfl
            exact k_retZ C H dN_52 (by decide) (by decide) (by decide) ⟨by rw [own_inp, if_pos hc1, if_neg hc8, if_neg hc13, if_pos hc25, if_pos hc32], rfl⟩
          · replace H := k_icmpN C H dN_32 (feq hc32).1 (pc' := 35) rfl
            replace H := k_iloadN C H dN_35 rfl (pc' := 36) rfl
            replace H := k_iconst C H (v := 3) dN_36 rfl (pc' := 37) rfl
            by_cases hc37 : (3 : Int32) < p3
            · replace H := k_icmpN C H dN_37 (tlt hc37).2.2.2 (pc' := 40) rfl
              replace H := k_aloadN C H dN_40 rfl rfl (pc' := 41) rfl
              replace H := k_iconst C H (v := 3) dN_41 rfl (pc' := 42) rfl
              replace H := k_iaload C H A (i := 3) (by decide) (by decide) dN_42 (pc' := 43) rfl
              replace H := k_iloadN C H dN_43 rfl (pc' := 44) rfl
              by_cases hc44 : (f 3) = p2
              · replace H := k_icmpN C H dN_44 (teq hc44).2 (pc' := 47) rfl
                replace H := k_iconst C H (v := 1) dN_47 rfl (pc' := 48) rfl
                replace H := k_goto C H dN_48 (by decide) (pc' := 52) rfl
                exact k_retZ C H dN_52 (by decide) (by decide) (by decide) ⟨by rw [own_inp, if_pos hc1, if_neg hc8, if_neg hc13, if_pos hc25, if_neg hc32, if_pos hc37, if_pos hc44], rfl⟩
              · replace H := k_icmpY C H dN_44 (feq hc44).2 (by decide) (pc' := 51) rfl
                replace H := k_iconst C H (v := 0) dN_51 rfl (pc' := 52) rfl
                exact k_retZ C H dN_52 (by decide) (by decide) (by decide) ⟨by rw [own_inp, if_pos hc1, if_neg hc8, if_neg hc13, if_pos hc25, if_neg hc32, if_pos hc37, if_neg hc44], rfl⟩
            · replace H := k_icmpY C H dN_37 (flt hc37).2.2.2 (by decide) (pc' := 51) rfl
              replace H := k_iconst C H (v := 0) dN_51 rfl (pc' := 52) rfl
              exact k_retZ C H dN_52 (by decide) (by decide) (by decide) ⟨by rw [own_inp, if_pos hc1, if_neg hc8, if_neg hc13, if_pos hc25, if_neg hc32, if_neg hc37], rfl⟩
        · replace H := k_icmpY C H dN_25 (flt hc25).2.2.2 (by decide) (pc' := 35) rfl
          replace H := k_iloadN C H dN_35 rfl (pc' := 36) rfl
          replace H := k_iconst C H (v := 3) dN_36 rfl (pc' := 37) rfl
          by_cases hc37 : (3 : Int32) < p3
          · replace H := k_icmpN C H dN_37 (tlt hc37).2.2.2 (pc' := 40) rfl
            replace H := k_aloadN C H dN_40 rfl rfl (pc' := 41) rfl
            replace H := k_iconst C H (v := 3) dN_41 rfl (pc' := 42) rfl
            replace H := k_iaload C H A (i := 3) (by decide) (by decide) dN_42 (pc' := 43) rfl
            replace H := k_iloadN C H dN_43 rfl (pc' := 44) rfl
            by_cases hc44 : (f 3) = p2
            · replace H := k_icmpN C H dN_44 (teq hc44).2 (pc' := 47) rfl
              replace H := k_iconst C H (v := 1) dN_47 rfl (pc' := 48) rfl
              replace H := k_goto C H dN_48 (by decide) (pc' := 52) rfl
              exact k_retZ C H dN_52 (by decide) (by decide) (by decide) ⟨by rw [own_inp, if_pos hc1, if_neg hc8, if_neg hc13, if_neg hc25, if_pos hc37, if_pos hc44], rfl⟩
            · replace H := k_icmpY C H dN_44 (feq hc44).2 (by decide) (pc' := 51) rfl
              replace H := k_iconst C H (v := 0) dN_51 rfl (pc' := 52) rfl
              exact k_retZ C H dN_52 (by decide) (by decide) (by decide) ⟨by rw [own_inp, if_pos hc1, if_neg hc8, if_neg hc13, if_neg hc25, if_pos hc37, if_neg hc44], rfl⟩
          · replace H := k_icmpY C H dN_37 (flt hc37).2.2.2 (by decide) (pc' := 51) rfl
            replace H := k_iconst C H (v := 0) dN_51 rfl (pc' := 52) rfl
            exact k_retZ C H dN_52 (by decide) (by decide) (by decide) ⟨by rw [own_inp, if_pos hc1, if_neg hc8, if_neg hc13, if_neg hc25, if_neg hc37], rfl⟩
  · replace H := k_ifcY C H dN_1 (flt hc1).2.2.2 (by decide) (pc' := 11) rfl
    replace H := k_iloadN C H dN_11 rfl (pc' := 12) rfl
    replace H := k_iconst C H (v := 1) dN_12 rfl (pc' := 13) rfl
    by_cases hc13 : (1 : Int32) < p3
    · replace H := k_icmpN C H dN_13 (tlt hc13).2.2.2 (pc' := 16) rfl
      replace H := k_aloadN C H dN_16 rfl rfl (pc' := 17) rfl
      replace H := k_iconst C H (v := 1) dN_17 rfl (pc' := 18) rfl
      replace H := k_iaload C H A (i := 1) (by decide) (by decide) dN_18 (pc' := 19) rfl
      replace H := k_iloadN C H dN_19 rfl (pc' := 20) rfl
      by_cases hc20 : (f 1) = p2
      · replace H := k_icmpY C H dN_20 (teq hc20).1 (by decide) (pc' := 47) rfl
        replace H := k_iconst C H (v := 1) dN_47 rfl (pc' := 48) rfl
        replace H := k_goto C H dN_48 (by decide) (pc' := 52) rfl
        exact k_retZ C H dN_52 (by decide) (by decide) (by decide) ⟨by rw [own_inp, if_neg hc1, if_pos hc13, if_pos hc20], rfl⟩
      · replace H := k_icmpN C H dN_20 (feq hc20).1 (pc' := 23) rfl
        replace H := k_iloadN C H dN_23 rfl (pc' := 24) rfl
        replace H := k_iconst C H (v := 2) dN_24 rfl (pc' := 25) rfl
        by_cases hc25 : (2 : Int32) < p3
        · replace H := k_icmpN C H dN_25 (tlt hc25).2.2.2 (pc' := 28) rfl
          replace H := k_aloadN C H dN_28 rfl rfl (pc' := 29) rfl
          replace H := k_iconst C H (v := 2) dN_29 rfl (pc' := 30) rfl
          replace H := k_iaload C H A (i := 2) (by decide) (by decide) dN_30 (pc' := 31) rfl
          replace H := k_iloadN C H dN_31 rfl (pc' := 32) rfl
          by_cases hc32 : (f 2) = p2
          · replace H := k_icmpY C H dN_32 (teq hc32).1 (by decide) (pc' := 47) rfl
            replace H := k_iconst C H (v := 1) dN_47 rfl (pc' := 48) rfl
            replace H := k_goto C H dN_48 (by decide) (pc' := 52) rfl
            exact k_retZ C H dN_52 (by decide) (by decide) (by decide) ⟨by rw [own_inp, if_neg hc1, if_pos hc13, if_neg hc20, if_pos hc25, if_pos hc32], rfl⟩
          · replace H := k_icmpN C H dN_32 (feq hc32).1 (pc' := 35) rfl
            replace H := k_iloadN C H dN_35 rfl (pc' := 36) rfl
            replace H := k_iconst C H (v := 3) dN_36 rfl (pc' := 37) rfl
            by_cases hc37 : (3 : Int32) < p3
            · replace H := k_icmpN C H dN_37 (tlt hc37).2.2.2 (pc' := 40) rfl
              replace H := k_aloadN C H dN_40 rfl rfl (pc' := 41) rfl
              replace H := k_iconst C H (v := 3) dN_41 rfl (pc' := 42) rfl
              replace H := k_iaload C H A (i := 3) (by decide) (by decide) dN_42 (pc' := 43) rfl
              replace H := k_iloadN C H dN_43 rfl (pc' := 44) rfl
              by_cases hc44 : (f 3) = p2
              · replace H := k_icmpN C H dN_44 (teq hc44).2 (pc' := 47) rfl
                replace H := k_iconst C H (v := 1) dN_47 rfl (pc' := 48) rfl
                replace H := k_goto C H dN_48 (by decide) (pc' := 52) rfl
                exact k_retZ C H dN_52 (by decide) (by decide) (by decide) ⟨by rw [own_inp, if_neg hc1, if_pos hc13, if_neg hc20, if_pos hc25, if_neg hc32, if_pos hc37, if_pos hc44], rfl⟩
              · replace H := k_icmpY C H dN_44 (feq hc44).2 (by decide) (pc' := 51) rfl
                replace H := k_iconst C H (v := 0) dN_51 rfl (pc' := 52) rfl
                exact k_retZ C H dN_52 (by decide) (by decide) (by decide) ⟨by rw [own_inp, if_neg hc1, if_pos hc13, if_neg hc20, if_pos hc25, if_neg hc32, if_pos hc37, if_neg hc44], rfl⟩
            · replace H := k_icmpY C H dN_37 (flt hc37).2.2.2 (by decide) (pc' := 51) rfl
              replace H := k_iconst C H (v := 0) dN_51 rfl (pc' := 52) rfl
              exact k_retZ C H dN_52 (by decide) (by decide) (by decide) ⟨by rw [own_inp, if_neg hc1, if_pos hc13, if_neg hc20, if_pos hc25, if_neg hc32, if_neg hc37], rfl⟩
        · replace H := k_icmpY C H dN_25 (flt hc25).2.2.2 (by decide) (pc' := 35) rfl
          replace H := k_iloadN C H dN_35 rfl (pc' := 36) rfl
          replace H := k_iconst C H (v := 3) dN_36 rfl (pc' := 37) rfl
          by_cases hc37 : (3 : Int32) < p3
          · replace H := k_icmpN C H dN_37 (tlt hc37).2.2.2 (pc' := 40) rfl
            replace H := k_aloadN C H dN_40 rfl rfl (pc' := 41) rfl
            replace H := k_iconst C H (v := 3) dN_41 rfl (pc' := 42) rfl
            replace H := k_iaload C H A (i := 3) (by decide) (by decide) dN_42 (pc' := 43) rfl
            replace H := k_iloadN C H dN_43 rfl (pc' := 44) rfl
            by_cases hc44 : (f 3) = p2
            · replace H := k_icmpN C H dN_44 (teq hc44).2 (pc' := 47) rfl
              replace H := k_iconst C H (v := 1) dN_47 rfl (pc' := 48) rfl
              replace H := k_goto C H dN_48 (by decide) (pc' := 52) rfl
              exact k_retZ C H dN_52 (by decide) (by decide) (by decide) ⟨by rw [own_inp, if_neg hc1, if_pos hc13, if_neg hc20, if_neg hc25, if_pos hc37, if_pos hc44], rfl⟩
            · replace H := k_icmpY C H dN_44 (feq hc44).2 (by decide) (pc' := 51) rfl
              replace H := k_iconst C H (v := 0) dN_51 rfl (pc' := 52) rfl
              exact k_retZ C H dN_52 (by decide) (by decide) (by decide) ⟨by rw [own_inp, if_neg hc1, if_pos hc13, if_neg hc20, if_neg hc25, if_pos hc37, if_neg hc44], rfl⟩
          · replace H := k_icmpY C H dN_37 (flt hc37).2.2.2 (by decide) (pc' := 51) rfl
            replace H := k_iconst C H (v := 0) dN_51 rfl (pc' := 52) rfl
            exact k_retZ C H dN_52 (by decide) (by decide) (by decide) ⟨by rw [own_inp, if_neg hc1, if_pos hc13, if_neg hc20, if_neg hc25, if_neg hc37], rfl⟩
    · replace H := k_icmpY C H dN_13 (flt hc13).2.2.2 (by decide) (pc' := 23) rfl
      replace H := k_iloadN C H dN_23 rfl (pc' := 24) rfl
      replace H := k_iconst C H (v := 2) dN_24 rfl (pc' := 25) rfl
      by_cases hc25 : (2 : Int32) < p3
      · replace H := k_icmpN C H dN_25 (tlt hc25).2.2.2 (pc' := 28) rfl
        replace H := k_aloadN C H dN_28 rfl rfl (pc' := 29) rfl
        replace H := k_iconst C H (v := 2) dN_29 rfl (pc' := 30) rfl
        replace H := k_iaload C H A (i := 2) (by decide) (by decide) dN_30 (pc' := 31) rfl
        replace H := k_iloadN C H dN_31 rfl (pc' := 32) rfl
        by_cases hc32 : (f 2) = p2
        · replace H := k_icmpY C H dN_32 (teq hc32).1 (by decide) (pc' := 47) rfl
          replace H := k_iconst C H (v := 1) dN_47 rfl (pc' := 48) rfl
          replace H := k_goto C H dN_48 (by decide) (pc' := 52) rfl
          exact k_retZ C H dN_52 (by decide) (by decide) (by decide) ⟨by rw [own_inp, if_neg hc1, if_neg hc13, if_pos hc25, if_pos hc32], rfl⟩
        · replace H := k_icmpN C H dN_32 (feq hc32).1 (pc' := 35) rfl
          replace H := k_iloadN C H dN_35 rfl (pc' := 36) rfl
          replace H := k_iconst C H (v := 3) dN_36 rfl (pc' := 37) rfl
          by_cases hc37 : (3 : Int32) < p3
          · replace H := k_icmpN C H dN_37 (tlt hc37).2.2.2 (pc' := 40) rfl
            replace H := k_aloadN C H dN_40 rfl rfl (pc' := 41) rfl
            replace H := k_iconst C H (v := 3) dN_41 rfl (pc' := 42) rfl
            replace H := k_iaload C H A (i := 3) (by decide) (by decide) dN_42 (pc' := 43) rfl
            replace H := k_iloadN C H dN_43 rfl (pc' := 44) rfl
            by_cases hc44 : (f 3) = p2
            · replace H := k_icmpN C H dN_44 (teq hc44).2 (pc' := 47) rfl
              replace H := k_iconst C H (v := 1) dN_47 rfl (pc' := 48) rfl
              replace H := k_goto C H dN_48 (by decide) (pc' := 52) rfl
              exact k_retZ C H dN_52 (by decide) (by decide) (by decide) ⟨by rw [own_inp, if_neg hc1, if_neg hc13, if_pos hc25, if_neg hc32, if_pos hc37, if_pos hc44], rfl⟩
            · replace H := k_icmpY C H dN_44 (feq hc44).2 (by decide) (pc' := 51) rfl
              replace H := k_iconst C H (v := 0) dN_51 rfl (pc' := 52) rfl
              exact k_retZ C H dN_52 (by decide) (by decide) (by decide) ⟨by rw [own_inp, if_neg hc1, if_neg hc13, if_pos hc25, if_neg hc32, if_pos hc37, if_neg hc44], rfl⟩
          · replace H := k_icmpY C H dN_37 (flt hc37).2.2.2 (by decide) (pc' := 51) rfl
            replace H := k_iconst C H (v := 0) dN_51 rfl (pc' := 52) rfl
            exact k_retZ C H dN_52 (by decide) (by decide) (by decide) ⟨by rw [own_inp, if_neg hc1, if_neg hc13, if_pos hc25, if_neg hc32, if_neg hc37], rfl⟩
      · replace H := k_icmpY C H dN_25 (flt hc25).2.2.2 (by decide) (pc' := 35) rfl
        replace H := k_iloadN C H dN_35 rfl (pc' := 36) rfl
        replace H := k_iconst C H (v := 3) dN_36 rfl (pc' := 37) rfl
        by_cases hc37 : (3 : Int32) < p3
        · replace H := k_icmpN C H dN_37 (tlt hc37).2.2.2 (pc' := 40) rfl
          replace H := k_aloadN C H dN_40 rfl rfl (pc' := 41) rfl
          replace H := k_iconst C H (v := 3) dN_41 rfl (pc' := 42) rfl
          replace H := k_iaload C H A (i := 3) (by decide) (by decide) dN_42 (pc' := 43) rfl
          replace H := k_iloadN C H dN_43 rfl (pc' := 44) rfl
          by_cases hc44 : (f 3) = p2
          · replace H := k_icmpN C H dN_44 (teq hc44).2 (pc' := 47) rfl
            replace H := k_iconst C H (v := 1) dN_47 rfl (pc' := 48) rfl
            replace H := k_goto C H dN_48 (by decide) (pc' := 52) rfl
            exact k_retZ C H dN_52 (by decide) (by decide) (by decide) ⟨by rw [own_inp, if_neg hc1, if_neg hc13, if_neg hc25, if_pos hc37, if_pos hc44], rfl⟩
          · replace H := k_icmpY C H dN_44 (feq hc44).2 (by decide) (pc' := 51) rfl
            replace H := k_iconst C H (v := 0) dN_51 rfl (pc' := 52) rfl
            exact k_retZ C H dN_52 (by decide) (by decide) (by decide) ⟨by rw [own_inp, if_neg hc1, if_neg hc13, if_neg hc25, if_pos hc37, if_neg hc44], rfl⟩
        · replace H := k_icmpY C H dN_37 (flt hc37).2.2.2 (by decide) (pc' := 51) rfl
          replace H := k_iconst C H (v := 0) dN_51 rfl (pc' := 52) rfl
          exact k_retZ C H dN_52 (by decide) (by decide) (by decide) ⟨by rw [own_inp, if_neg hc1, if_neg hc13, if_neg hc25, if_neg hc37], rfl⟩
def own_b (t0 t1 : Nat) : Nat → Nat := fun k => if k = 1 then t1 else if k = 0 then t0 else 0
theorem own_b_b (t0 t1 : Nat) (h0 : t0 < 4) (h1 : t1 < 4) : ∀ k, k < 4 → own_b t0 t1 k < 4 := by
  intro k _
  unfold own_b
  split
  · exact h1
  · split
    · exact h0
    · decide
def own_q (ln cn t0 t1 : Nat) : (Nat → Nat) × (Nat → Nat) := own_run (own_b t0 t1) cn 0 ln (fun k => k) (fun k => k)
def own_chk (ln cn t0 t1 x r : Nat) : Bool :=
  let f := own_n (own_q ln cn t0 t1).1
  let g := own_n (own_q ln cn t0 t1).2
  decide (own_has 0 f = 1) && decide (own_has 1 f = 1) && decide (own_has 2 f = 1) && decide (own_has 3 f = 1) && decide (ln ≤ 0 → f 0 = 0) && decide (ln ≤ 1 → f 1 = 1) && decide (ln ≤ 2 → f 2 = 2) && decide (ln ≤ 3 → f 3 = 3)
    && decide (cn = 1 → f (ln - 1) = Int32.ofNat t0) && decide (cn = 2 → (f (ln - 2) = Int32.ofNat t0 ∧ f (ln - 1) = Int32.ofNat t1) ∨ (f (ln - 2) = Int32.ofNat t1 ∧ f (ln - 1) = Int32.ofNat t0))
    && decide (own_ins (Int32.ofNat r) g x = own_inp (Int32.ofNat x) (Int32.ofNat r) f)
theorem own_all : ∀ (ln : Fin 5) (cn : Fin 3) (t0 t1 x : Fin 4) (r : Fin 5), cn.val ≤ ln.val → (1 ≤ ln.val → t0.val < ln.val) → (2 ≤ ln.val → t1.val < ln.val ∧ t1.val ≠ t0.val) → own_chk ln.val cn.val t0.val t1.val x.val r.val = true := by decide +kernel
theorem own_m5 (x : Int32) : ∃ n : Nat, ((x &&& (2147483647 : Int32)) % (5 : Int32)).toInt = n ∧ n < 5 := by
  have a := c_and x 2147483647 (by decide)
  have b := (c_irem (x &&& 2147483647) 5 5 (by decide)).1 a.1
  refine ⟨((x &&& (2147483647 : Int32)) % (5 : Int32)).toInt.toNat, ?_, ?_⟩ <;> omega
theorem own_m (x z : Int32) (zn : Nat) (e : z.toInt = zn) (h : 0 < zn) : ∃ n : Nat, ((x &&& (2147483647 : Int32)) % z).toInt = n ∧ n < zn := by
  have a := c_and x 2147483647 (by decide)
  have b := (c_iremV (x &&& 2147483647) z).1 a.1 (by omega)
  refine ⟨((x &&& (2147483647 : Int32)) % z).toInt.toNat, ?_, ?_⟩ <;> omega
theorem own_mx (x : Int32) : ∃ n : Nat, (x &&& (3 : Int32)).toInt = n ∧ n < 4 := by
  have a := c_and x 3 (by decide)
  have k : (3 : Int32).toInt = 3 := by decide
  exact ⟨(x &&& (3 : Int32)).toInt.toNat, by omega, by omega⟩
theorem own_mn (len : Int32) (ln : Nat) (e : len.toInt = ln) : ((own_min len (2 : Int32)) + (1 : Int32)).toInt = ((min ln 2 + 1 : Nat) : Int) := by
  have k : (2 : Int32).toInt = 2 := by decide
  have m : (own_min len 2).toInt = ((min ln 2 : Nat) : Int) := by
    rw [own_min]
    by_cases q : (2 : Int32) < len
    · rw [if_pos q]; rw [Int32.lt_iff_toInt_lt] at q; omega
    · rw [if_neg q]; rw [Int32.lt_iff_toInt_lt] at q; omega
  exact addN m (by decide : (1 : Int32).toInt = ((1 : Nat) : Int)) (by omega)
theorem own_ne0 {z : Int32} {n : Nat} (e : z.toInt = n) (h : 0 < n) : z ≠ 0 := fun q => by
  rw [q] at e
  have k : (0 : Int32).toInt = 0 := by decide
  omega
theorem own_45 {n : Nat} (h : n < 4) : n < 5 := by omega
theorem own_le4 {n c : Int32} {nn : Nat} (k : Nat) (h : ¬ c < n) (e : n.toInt = nn) (hc : c.toInt = k) : nn ≤ k := by rw [Int32.lt_iff_toInt_lt] at h; omega
theorem own_eqn {c z : Int32} {n : Nat} (m : Nat) (h : c = z) (e : c.toInt = n) (hz : z.toInt = m) : n = m := by subst h; omega
theorem own_s1 {n : Nat} (h : n < 5) : n - 1 < 4 := by omega
theorem own_s2 {n : Nat} (h : n < 5) : n - 2 < 4 := by omega
theorem own_tne {t0 t1 : Int32} {n0 n1 : Nat} (e0 : t0.toInt = n0) (e1 : t1.toInt = n1) (h : n1 ≠ n0) : ¬ t1 = t0 := fun q => h (by subst q; omega)
theorem own_ge {n c : Int32} {nn : Nat} (k : Nat) (h : ¬ n < c) (e : n.toInt = nn) (hc : c.toInt = k) : k ≤ nn := by rw [Int32.lt_iff_toInt_lt] at h; omega
theorem own_pre {len : Int32} {ln : Nat} (e : len.toInt = ln) (h : 1 ≤ ln) (l5 : ln < 5) : (len - (1 : Int32)).toInt = ((ln - 1 : Nat) : Int) := by
  have a := c_isub len 1
  have r := rng32 (len - 1)
  have k : (1 : Int32).toInt = 1 := by decide
  omega
theorem own_pre2 {len : Int32} {ln : Nat} (e : len.toInt = ln) (h : 2 ≤ ln) (l5 : ln < 5) : (len - (2 : Int32)).toInt = ((ln - 2 : Nat) : Int) := by
  have a := c_isub len 2
  have r := rng32 (len - 2)
  have k : (2 : Int32).toInt = 2 := by decide
  omega
theorem own_t0 (c len t0 : Int32) (ln : Nat) (e : len.toInt = ln) (l5 : ln < 5) (et : t0 = (if len < (1 : Int32) then (0 : Int32) else ((c &&& (2147483647 : Int32)) % len))) : ∃ n : Nat, t0.toInt = n ∧ n < 4 ∧ (1 ≤ ln → n < ln) := by
  have k : (1 : Int32).toInt = 1 := by decide
  by_cases q : len < (1 : Int32)
  · rw [if_pos q] at et; rw [Int32.lt_iff_toInt_lt] at q; subst et
    exact ⟨0, by decide, by decide, fun h => by omega⟩
  · rw [if_neg q] at et; rw [Int32.lt_iff_toInt_lt] at q; subst et
    obtain ⟨n, h1, h2⟩ := own_m c len ln e (by omega)
    exact ⟨n, h1, by omega, fun _ => h2⟩
theorem own_t1 (d len t0 t1 : Int32) (ln n0 : Nat) (e : len.toInt = ln) (l5 : ln < 5) (e0 : t0.toInt = n0) (l0 : 1 ≤ ln → n0 < ln) (et : t1 = (if len < (2 : Int32) then (0 : Int32) else (((t0 + (1 : Int32)) + ((d &&& (2147483647 : Int32)) % (len - (1 : Int32)))) % len))) : ∃ n : Nat, t1.toInt = n ∧ n < 4 ∧ (2 ≤ ln → n < ln ∧ n ≠ n0) := by
  have k : (2 : Int32).toInt = 2 := by decide
  by_cases q : len < (2 : Int32)
  · rw [if_pos q] at et; rw [Int32.lt_iff_toInt_lt] at q; subst et
    exact ⟨0, by decide, by decide, fun h => by omega⟩
  · rw [if_neg q] at et; rw [Int32.lt_iff_toInt_lt] at q
    have l2 : 2 ≤ ln := by omega
    have l0' := l0 (by omega)
    obtain ⟨m, h1, h2⟩ := own_m d (len - 1) (ln - 1) (own_pre e (by omega) l5) (by omega)
    have s1 : (t0 + (1 : Int32)).toInt = ((n0 + 1 : Nat) : Int) := addN e0 (by decide : (1 : Int32).toInt = ((1 : Nat) : Int)) (by omega)
    have s2 := addN s1 h1 (by omega)
    generalize (t0 + (1 : Int32)) + ((d &&& (2147483647 : Int32)) % (len - (1 : Int32))) = y at *
    have b := (c_iremV y len).1 (by omega) (by omega)
    subst et
    refine ⟨(y % len).toInt.toNat, by omega, by omega, fun _ => ?_⟩
    rcases Nat.lt_or_ge (n0 + 1 + m) ln with z | z
    · have := b.2.2.2.1 (by omega); omega
    · have := b.2.2.2.2 (by omega) (by omega); omega
theorem own_ofn {z : Int32} {n : Nat} (e : z.toInt = n) (h : n < 5) : z = Int32.ofNat n := Int32.toInt_inj.mp (by rw [e, Int32.toInt_ofNat_of_lt (by omega)])
theorem own_rem {v len cnt : Int32} {ln cn : Nat} (hv : v.toInt = ((ln - cn : Nat) : Int)) (e1 : len.toInt = ln) (e2 : cnt.toInt = cn) (h : cn ≤ ln) (l5 : ln < 5) : v = len - cnt := by
  apply Int32.toInt_inj.mp
  have a := c_isub len cnt
  have r := rng32 (len - cnt)
  omega
theorem pd0_0 : parseMethodDescriptor "(II)I" = some ⟨[.int, .int], some .int⟩ := by decide +kernel
theorem pd0_1 : parseMethodDescriptor "([I[I[[II)V" = some ⟨[(.array .int), (.array .int), (.array (.array .int)), .int], none⟩ := by decide +kernel
theorem pd0_2 : parseMethodDescriptor "(Lcom/example/equilibrate/equilibrate/model/ParityGame;)V" = some ⟨[(.object "com/example/equilibrate/equilibrate/model/ParityGame")], none⟩ := by decide +kernel
theorem pd0_3 : parseMethodDescriptor "(Lcom/example/equilibrate/equilibrate/model/ParityGame;Lcom/example/equilibrate/equilibrate/solver/Predecessors;)V" = some ⟨[(.object "com/example/equilibrate/equilibrate/model/ParityGame"), (.object "com/example/equilibrate/equilibrate/solver/Predecessors")], none⟩ := by decide +kernel
theorem pd0_4 : parseMethodDescriptor "(II)V" = some ⟨[.int, .int], none⟩ := by decide +kernel
theorem pd0_5 : parseMethodDescriptor "(I)I" = some ⟨[.int], some .int⟩ := by decide +kernel
theorem pd0_6 : parseMethodDescriptor "(II)Z" = some ⟨[.int, .int], some .boolean⟩ := by decide +kernel
theorem pd0_7 : parseMethodDescriptor "([II)Z" = some ⟨[(.array .int), .int], some .boolean⟩ := by decide +kernel
theorem pd0_8 : parseMethodDescriptor "([III)Z" = some ⟨[(.array .int), .int, .int], some .boolean⟩ := by decide +kernel
theorem pl_0 : plainFor x = true := plainFor_of_name (by first | (simp [plainName, overriddenIn]; done) | decide +kernel)
theorem ef_0 (mm : MethodId) (x0 : Int32) (x1 : Int32) (x2 : Int32) (x3 : Int32) (x4 : Int32) (x5 : Int32) : entryFrame mm #[(.int x0), (.int x1), (.int x2), (.int x3), (.int x4), (.int x5)] maxLocals = mkF mm 0 #[.val (.int x0), .val (.int x1), .val (.int x2), .val (.int x3), .val (.int x4), .val (.int x5), .unset, .unset, .unset, .unset, .unset, .unset, .unset, .unset, .unset, .unset, .unset, .unset] [] := by first | (simp [entryFrame, mkF, argsToLocals, Value.category, maxLocals]; done) | rfl
set_option maxRecDepth 65536 in
set_option maxHeartbeats 40000000 in
theorem rm0 (l : Launch) (Z : State) (a0 : Array Value) (hw : ∀ d ∈ tables_1, d.before a0 Z = true) (x0 : Int32) (x1 : Int32) (x2 : Int32) (x3 : Int32) (x4 : Int32) (x5 : Int32) (h0 : Heap) (n0 : Nat) (Z0 : n0 ≤ h0.size) :
    Con l x code maxLocals ret room_1 Z #[(.int x0), (.int x1), (.int x2), (.int x3), (.int x4), (.int x5)] h0 n0 (fun o h => o = some (.int 1)) := by
  refine Con.enter pl_0 (fun mm => ef_0 mm x0 x1 x2 x3 x4 x5) ?_
  intro K O C H
  replace H := k_iloadN C H at_0 rfl (pc' := 1) rfl
  replace H := k_ldcI C H (hw _ (List.mem_of_getElem? (i := 0) rfl)) at_1 (pc' := 3) rfl
  replace H := k_iand C H at_3 (pc' := 4) rfl
  replace H := k_iconst C H (v := 5) at_4 rfl (pc' := 5) rfl
  replace H := k_irem C H at_5 (by decide) (pc' := 6) rfl
  replace H := k_istore C H at_6 (L' := #[.val (.int x0), .val (.int x1), .val (.int x2), .val (.int x3), .val (.int x4), .val (.int x5), .val (.int ((x0 &&& (2147483647 : Int32)) % (5 : Int32))), .unset, .unset, .unset, .unset, .unset, .unset, .unset, .unset, .unset, .unset, .unset]) rfl (pc' := 8) rfl
  obtain ⟨len, e_len, H⟩ : ∃ len : Int32, len = ((x0 &&& (2147483647 : Int32)) % (5 : Int32)) ∧ K 8 #[.val (.int x0), .val (.int x1), .val (.int x2), .val (.int x3), .val (.int x4), .val (.int x5), .val (.int len), .unset, .unset, .unset, .unset, .unset, .unset, .unset, .unset, .unset, .unset, .unset] [] h0 0 0 := ⟨_, rfl, H⟩
  obtain ⟨ln, e_ln, l_ln⟩ := own_m5 x0
  rw [← e_len] at e_ln
  replace H := k_iloadN C H at_8 rfl (pc' := 9) rfl
  replace H := k_ldcI C H (hw _ (List.mem_of_getElem? (i := 0) rfl)) at_9 (pc' := 11) rfl
  replace H := k_iand C H at_11 (pc' := 12) rfl
  replace H := k_iload C H at_12 rfl (pc' := 14) rfl
  replace H := k_iconst C H (v := 2) at_14 rfl (pc' := 15) rfl
  replace H := k_callSta C H (rm1 l Z a0 hw len (2 : Int32) h0 n0) (hw _ (List.mem_of_getElem? (i := 1) rfl)) (hw _ (List.mem_of_getElem? (i := 2) rfl)) (hw _ (List.mem_of_getElem? (i := 3) rfl)) (hw _ (List.mem_of_getElem? (i := 4) rfl)) (by decide) at_15 rfl [(.int len), (.int (2 : Int32))] [(.int (x1 &&& (2147483647 : Int32)))] pd0_0 rfl rfl rfl 1 rfl (by decide) (by decide) (by decide) (by decide) (pc' := 18) rfl
  obtain ⟨_, _, ⟨rfl, rfl⟩, H⟩ := H
  replace H : K 18 #[.val (.int x0), .val (.int x1), .val (.int x2), .val (.int x3), .val (.int x4), .val (.int x5), .val (.int len), .unset, .unset, .unset, .unset, .unset, .unset, .unset, .unset, .unset, .unset, .unset] [(.int (own_min len (2 : Int32))), (.int (x1 &&& (2147483647 : Int32)))] h0 0 0 := H
  replace H := k_iconst C H (v := 1) at_18 rfl (pc' := 19) rfl
  replace H := k_iadd C H at_19 (pc' := 20) rfl
  replace H := k_irem C H at_20 (own_ne0 (own_mn len ln e_ln) (by omega)) (pc' := 21) rfl
  replace H := k_istore C H at_21 (L' := #[.val (.int x0), .val (.int x1), .val (.int x2), .val (.int x3), .val (.int x4), .val (.int x5), .val (.int len), .val (.int ((x1 &&& (2147483647 : Int32)) % ((own_min len (2 : Int32)) + (1 : Int32)))), .unset, .unset, .unset, .unset, .unset, .unset, .unset, .unset, .unset, .unset]) rfl (pc' := 23) rfl
  obtain ⟨cnt, e_cnt, H⟩ : ∃ cnt : Int32, cnt = ((x1 &&& (2147483647 : Int32)) % ((own_min len (2 : Int32)) + (1 : Int32))) ∧ K 23 #[.val (.int x0), .val (.int x1), .val (.int x2), .val (.int x3), .val (.int x4), .val (.int x5), .val (.int len), .val (.int cnt), .unset, .unset, .unset, .unset, .unset, .unset, .unset, .unset, .unset, .unset] [] h0 0 0 := ⟨_, rfl, H⟩
  obtain ⟨cn, e_cn, l_cn⟩ := own_m x1 _ _ (own_mn len ln e_ln) (by omega)
  rw [← e_cnt] at e_cn
  replace H := k_iconst C H (v := 0) at_23 rfl (pc' := 24) rfl
  replace H := k_istore C H at_24 (L' := #[.val (.int x0), .val (.int x1), .val (.int x2), .val (.int x3), .val (.int x4), .val (.int x5), .val (.int len), .val (.int cnt), .val (.int (0 : Int32)), .unset, .unset, .unset, .unset, .unset, .unset, .unset, .unset, .unset]) rfl (pc' := 26) rfl
  replace H := k_iconst C H (v := 0) at_26 rfl (pc' := 27) rfl
  replace H := k_istore C H at_27 (L' := #[.val (.int x0), .val (.int x1), .val (.int x2), .val (.int x3), .val (.int x4), .val (.int x5), .val (.int len), .val (.int cnt), .val (.int (0 : Int32)), .val (.int (0 : Int32)), .unset, .unset, .unset, .unset, .unset, .unset, .unset, .unset]) rfl (pc' := 29) rfl
  obtain ⟨t0, e_t0, H⟩ : ∃ t0 : Int32, t0 = (if len < (1 : Int32) then (0 : Int32) else ((x2 &&& (2147483647 : Int32)) % len)) ∧ K 44 #[.val (.int x0), .val (.int x1), .val (.int x2), .val (.int x3), .val (.int x4), .val (.int x5), .val (.int len), .val (.int cnt), .val (.int t0), .val (.int (0 : Int32)), .unset, .unset, .unset, .unset, .unset, .unset, .unset, .unset] [] h0 0 0 := by
    replace H := k_iload C H at_29 rfl (pc' := 31) rfl
    replace H := k_iconst C H (v := 1) at_31 rfl (pc' := 32) rfl
    by_cases hc32 : len < (1 : Int32)
    · replace H := k_icmpY C H at_32 (tlt hc32).1 (by decide) (pc' := 44) rfl
      exact ⟨(0 : Int32), by rw [if_pos hc32], H⟩
    · replace H := k_icmpN C H at_32 (flt hc32).1 (pc' := 35) rfl
      replace H := k_iloadN C H at_35 rfl (pc' := 36) rfl
      replace H := k_ldcI C H (hw _ (List.mem_of_getElem? (i := 0) rfl)) at_36 (pc' := 38) rfl
      replace H := k_iand C H at_38 (pc' := 39) rfl
      replace H := k_iload C H at_39 rfl (pc' := 41) rfl
      replace H := k_irem C H at_41 (own_ne0 e_ln (Nat.lt_of_lt_of_le (by decide) (own_ge 1 hc32 e_ln (by decide)))) (pc' := 42) rfl
      replace H := k_istore C H at_42 (L' := #[.val (.int x0), .val (.int x1), .val (.int x2), .val (.int x3), .val (.int x4), .val (.int x5), .val (.int len), .val (.int cnt), .val (.int ((x2 &&& (2147483647 : Int32)) % len)), .val (.int (0 : Int32)), .unset, .unset, .unset, .unset, .unset, .unset, .unset, .unset]) rfl (pc' := 44) rfl
      exact ⟨((x2 &&& (2147483647 : Int32)) % len), by rw [if_neg hc32], H⟩
  obtain ⟨n_0, e_n0, l_n0, k_n0⟩ := own_t0 x2 len t0 ln e_ln l_ln e_t0
  obtain ⟨t1, e_t1, H⟩ : ∃ t1 : Int32, t1 = (if len < (2 : Int32) then (0 : Int32) else (((t0 + (1 : Int32)) + ((x3 &&& (2147483647 : Int32)) % (len - (1 : Int32)))) % len)) ∧ K 69 #[.val (.int x0), .val (.int x1), .val (.int x2), .val (.int x3), .val (.int x4), .val (.int x5), .val (.int len), .val (.int cnt), .val (.int t0), .val (.int t1), .unset, .unset, .unset, .unset, .unset, .unset, .unset, .unset] [] h0 0 0 := by
    replace H := k_iload C H at_44 rfl (pc' := 46) rfl
    replace H := k_iconst C H (v := 2) at_46 rfl (pc' := 47) rfl
    by_cases hc47 : len < (2 : Int32)
    · replace H := k_icmpY C H at_47 (tlt hc47).1 (by decide) (pc' := 69) rfl
      exact ⟨(0 : Int32), by rw [if_pos hc47], H⟩
    · replace H := k_icmpN C H at_47 (flt hc47).1 (pc' := 50) rfl
      replace H := k_iload C H at_50 rfl (pc' := 52) rfl
      replace H := k_iconst C H (v := 1) at_52 rfl (pc' := 53) rfl
      replace H := k_iadd C H at_53 (pc' := 54) rfl
      replace H := k_iloadN C H at_54 rfl (pc' := 55) rfl
      replace H := k_ldcI C H (hw _ (List.mem_of_getElem? (i := 0) rfl)) at_55 (pc' := 57) rfl
      replace H := k_iand C H at_57 (pc' := 58) rfl
      replace H := k_iload C H at_58 rfl (pc' := 60) rfl
      replace H := k_iconst C H (v := 1) at_60 rfl (pc' := 61) rfl
      replace H := k_isub C H at_61 (pc' := 62) rfl
      replace H := k_irem C H at_62 (own_ne0 (own_pre e_ln (Nat.le_trans (by decide) (own_ge 2 hc47 e_ln (by decide))) l_ln) (by have := own_ge 2 hc47 e_ln (by decide); omega)) (pc' := 63) rfl
      replace H := k_iadd C H at_63 (pc' := 64) rfl
      replace H := k_iload C H at_64 rfl (pc' := 66) rfl
      replace H := k_irem C H at_66 (own_ne0 e_ln (Nat.lt_of_lt_of_le (by decide) (own_ge 2 hc47 e_ln (by decide)))) (pc' := 67) rfl
      replace H := k_istore C H at_67 (L' := #[.val (.int x0), .val (.int x1), .val (.int x2), .val (.int x3), .val (.int x4), .val (.int x5), .val (.int len), .val (.int cnt), .val (.int t0), .val (.int (((t0 + (1 : Int32)) + ((x3 &&& (2147483647 : Int32)) % (len - (1 : Int32)))) % len)), .unset, .unset, .unset, .unset, .unset, .unset, .unset, .unset]) rfl (pc' := 69) rfl
      exact ⟨(((t0 + (1 : Int32)) + ((x3 &&& (2147483647 : Int32)) % (len - (1 : Int32)))) % len), by rw [if_neg hc47], H⟩
  obtain ⟨n_1, e_n1, l_n1, k_n1⟩ := own_t1 x3 len t0 t1 ln n_0 e_ln l_ln e_n0 k_n0 e_t1
  replace H := k_iload C H at_69 rfl (pc' := 71) rfl
  replace H := k_iconst C H (v := 3) at_71 rfl (pc' := 72) rfl
  replace H := k_iand C H at_72 (pc' := 73) rfl
  replace H := k_istore C H at_73 (L' := #[.val (.int x0), .val (.int x1), .val (.int x2), .val (.int x3), .val (.int x4), .val (.int x5), .val (.int len), .val (.int cnt), .val (.int t0), .val (.int t1), .val (.int (x4 &&& (3 : Int32))), .unset, .unset, .unset, .unset, .unset, .unset, .unset]) rfl (pc' := 75) rfl
  obtain ⟨xx, e_xx, H⟩ : ∃ xx : Int32, xx = (x4 &&& (3 : Int32)) ∧ K 75 #[.val (.int x0), .val (.int x1), .val (.int x2), .val (.int x3), .val (.int x4), .val (.int x5), .val (.int len), .val (.int cnt), .val (.int t0), .val (.int t1), .val (.int xx), .unset, .unset, .unset, .unset, .unset, .unset, .unset] [] h0 0 0 := ⟨_, rfl, H⟩
  obtain ⟨xn, e_xn, l_xn⟩ := own_mx x4
  rw [← e_xx] at e_xn
  replace H := k_iload C H at_75 rfl (pc' := 77) rfl
  replace H := k_ldcI C H (hw _ (List.mem_of_getElem? (i := 0) rfl)) at_77 (pc' := 79) rfl
  replace H := k_iand C H at_79 (pc' := 80) rfl
  replace H := k_iconst C H (v := 5) at_80 rfl (pc' := 81) rfl
  replace H := k_irem C H at_81 (by decide) (pc' := 82) rfl
  replace H := k_istore C H at_82 (L' := #[.val (.int x0), .val (.int x1), .val (.int x2), .val (.int x3), .val (.int x4), .val (.int x5), .val (.int len), .val (.int cnt), .val (.int t0), .val (.int t1), .val (.int xx), .val (.int ((x5 &&& (2147483647 : Int32)) % (5 : Int32))), .unset, .unset, .unset, .unset, .unset, .unset]) rfl (pc' := 84) rfl
  obtain ⟨rr, e_rr, H⟩ : ∃ rr : Int32, rr = ((x5 &&& (2147483647 : Int32)) % (5 : Int32)) ∧ K 84 #[.val (.int x0), .val (.int x1), .val (.int x2), .val (.int x3), .val (.int x4), .val (.int x5), .val (.int len), .val (.int cnt), .val (.int t0), .val (.int t1), .val (.int xx), .val (.int rr), .unset, .unset, .unset, .unset, .unset, .unset] [] h0 0 0 := ⟨_, rfl, H⟩
  obtain ⟨rn, e_rn, l_rn⟩ := own_m5 x5
  rw [← e_rr] at e_rn
  have l_cl : cn ≤ ln := by omega
  have l_c3 : cn < 3 := by omega
  have l_4 : ln ≤ 4 := by omega
  replace H := k_newObj C H (hw _ (List.mem_of_getElem? (i := 5) rfl)) (hw _ (List.mem_of_getElem? (i := 6) rfl)) (hw _ (List.mem_of_getElem? (i := 7) rfl)) at_84 (by decide) (by decide) (pc' := 87) rfl
  obtain ⟨h_gm, gm, g_gm, E_gm, X_gm, D_gm, H⟩ := H
  replace H : K 87 #[.val (.int x0), .val (.int x1), .val (.int x2), .val (.int x3), .val (.int x4), .val (.int x5), .val (.int len), .val (.int cnt), .val (.int t0), .val (.int t1), .val (.int xx), .val (.int rr), .unset, .unset, .unset, .unset, .unset, .unset] [(.ref gm)] h_gm 1 2 := H
  have n_gm : n0 ≤ gm := Nat.le_trans Z0 (Nat.le_of_eq g_gm.symm)
  have Z_h_gm : n0 ≤ h_gm.size := Nat.le_trans Z0 E_gm.1
  have F_gm_arena : Fld Z h_gm gm "com/example/equilibrate/equilibrate/model/ParityGame" "arena" "Lcom/example/equilibrate/equilibrate/model/Arena;" .null := D_gm (Or.inr (hw _ (List.mem_of_getElem? (i := 60) rfl))) (ty := (.object "com/example/equilibrate/equilibrate/model/Arena")) (by decide)
  have F_gm_priorities : Fld Z h_gm gm "com/example/equilibrate/equilibrate/model/ParityGame" "priorities" "[I" .null := D_gm (Or.inr (hw _ (List.mem_of_getElem? (i := 64) rfl))) (ty := (.array .int)) (by decide)
  replace H := k_dup C H at_87 rfl (pc' := 88) rfl
  replace H := k_iconst C H (v := 4) at_88 rfl (pc' := 89) rfl
  replace H := k_newArrE C H (hw _ (List.mem_of_getElem? (i := 8) rfl)) at_89 (by decide) (cap := 4) (by decide) (by decide) (by decide) (by decide) (ad := "[I") (by decide) (pc' := 91) rfl
  obtain ⟨h_pa, pa, c_pa, g_pa, E_pa, A_pa, X_pa, H⟩ := H
  replace H : K 91 #[.val (.int x0), .val (.int x1), .val (.int x2), .val (.int x3), .val (.int x4), .val (.int x5), .val (.int len), .val (.int cnt), .val (.int t0), .val (.int t1), .val (.int xx), .val (.int rr), .unset, .unset, .unset, .unset, .unset, .unset] [(.ref pa), (.ref gm), (.ref gm)] h_pa 2 6 := H
  have ne_gm_pa : gm ≠ pa := Nat.ne_of_lt (Nat.lt_of_lt_of_le X_gm.lt (Nat.le_of_eq g_pa.symm))
  have n_pa : n0 ≤ pa := Nat.le_trans Z_h_gm (Nat.le_of_eq g_pa.symm)
  replace X_gm := X_gm.ext E_pa
  replace F_gm_arena := F_gm_arena.ext E_pa
  replace F_gm_priorities := F_gm_priorities.ext E_pa
  have Z_h_pa : n0 ≤ h_pa.size := Nat.le_trans Z_h_gm E_pa.1
  have V_pa : Ari Z h_pa pa .int 4 (lf [(0 : Int32), (0 : Int32), (0 : Int32), (0 : Int32)]) := (Ari.ofNew A_pa (by decide) rfl).congr (fun k hk => by match k, hk with | 0, _ => rfl | 1, _ => rfl | 2, _ => rfl | 3, _ => rfl)
  replace H := k_dup C H at_91 rfl (pc' := 92) rfl
  replace H := k_iconst C H (v := 0) at_92 rfl (pc' := 93) rfl
  replace H := k_iconst C H (v := 0) at_93 rfl (pc' := 94) rfl
  replace H := k_iastore C H V_pa (i := 0) (by decide) (by decide) n_pa at_94 (pc' := 95) rfl
  obtain ⟨q1, W_q1, V_pa, H⟩ := H
  replace V_pa : Ari Z q1 pa .int 4 (lf [(0 : Int32), (0 : Int32), (0 : Int32), (0 : Int32)]) := V_pa.congr (fun k _ => lf_set _ _ _ (Nat.le_of_ble_eq_true rfl) k)
  replace X_gm := X_gm.wr W_q1
  replace F_gm_arena := F_gm_arena.other W_q1 (Or.inl ne_gm_pa)
  replace F_gm_priorities := F_gm_priorities.other W_q1 (Or.inl ne_gm_pa)
  replace X_pa := X_pa.wr W_q1
  have Z_q1 : n0 ≤ q1.size := by rw [W_q1.size]; exact Z_h_pa
  replace H := k_dup C H at_95 rfl (pc' := 96) rfl
  replace H := k_iconst C H (v := 1) at_96 rfl (pc' := 97) rfl
  replace H := k_iconst C H (v := 0) at_97 rfl (pc' := 98) rfl
  replace H := k_iastore C H V_pa (i := 1) (by decide) (by decide) n_pa at_98 (pc' := 99) rfl
  obtain ⟨q2, W_q2, V_pa, H⟩ := H
  replace V_pa : Ari Z q2 pa .int 4 (lf [(0 : Int32), (0 : Int32), (0 : Int32), (0 : Int32)]) := V_pa.congr (fun k _ => lf_set _ _ _ (Nat.le_of_ble_eq_true rfl) k)
  replace X_gm := X_gm.wr W_q2
  replace F_gm_arena := F_gm_arena.other W_q2 (Or.inl ne_gm_pa)
  replace F_gm_priorities := F_gm_priorities.other W_q2 (Or.inl ne_gm_pa)
  replace X_pa := X_pa.wr W_q2
  have Z_q2 : n0 ≤ q2.size := by rw [W_q2.size]; exact Z_q1
  replace H := k_dup C H at_99 rfl (pc' := 100) rfl
  replace H := k_iconst C H (v := 2) at_100 rfl (pc' := 101) rfl
  replace H := k_iconst C H (v := 0) at_101 rfl (pc' := 102) rfl
  replace H := k_iastore C H V_pa (i := 2) (by decide) (by decide) n_pa at_102 (pc' := 103) rfl
  obtain ⟨q3, W_q3, V_pa, H⟩ := H
  replace V_pa : Ari Z q3 pa .int 4 (lf [(0 : Int32), (0 : Int32), (0 : Int32), (0 : Int32)]) := V_pa.congr (fun k _ => lf_set _ _ _ (Nat.le_of_ble_eq_true rfl) k)
  replace X_gm := X_gm.wr W_q3
  replace F_gm_arena := F_gm_arena.other W_q3 (Or.inl ne_gm_pa)
  replace F_gm_priorities := F_gm_priorities.other W_q3 (Or.inl ne_gm_pa)
  replace X_pa := X_pa.wr W_q3
  have Z_q3 : n0 ≤ q3.size := by rw [W_q3.size]; exact Z_q2
  replace H := k_dup C H at_103 rfl (pc' := 104) rfl
  replace H := k_iconst C H (v := 3) at_104 rfl (pc' := 105) rfl
  replace H := k_iconst C H (v := 0) at_105 rfl (pc' := 106) rfl
  replace H := k_iastore C H V_pa (i := 3) (by decide) (by decide) n_pa at_106 (pc' := 107) rfl
  obtain ⟨q4, W_q4, V_pa, H⟩ := H
  replace V_pa : Ari Z q4 pa .int 4 (lf [(0 : Int32), (0 : Int32), (0 : Int32), (0 : Int32)]) := V_pa.congr (fun k _ => lf_set _ _ _ (Nat.le_of_ble_eq_true rfl) k)
  replace X_gm := X_gm.wr W_q4
  replace F_gm_arena := F_gm_arena.other W_q4 (Or.inl ne_gm_pa)
  replace F_gm_priorities := F_gm_priorities.other W_q4 (Or.inl ne_gm_pa)
  replace X_pa := X_pa.wr W_q4
  have Z_q4 : n0 ≤ q4.size := by rw [W_q4.size]; exact Z_q3
  replace H := k_iconst C H (v := 4) at_107 rfl (pc' := 108) rfl
  replace H := k_newArrE C H (hw _ (List.mem_of_getElem? (i := 8) rfl)) at_108 (by decide) (cap := 4) (by decide) (by decide) (by decide) (by decide) (ad := "[I") (by decide) (pc' := 110) rfl
  obtain ⟨h_oa, oa, c_oa, g_oa, E_oa, A_oa, X_oa, H⟩ := H
  replace H : K 110 #[.val (.int x0), .val (.int x1), .val (.int x2), .val (.int x3), .val (.int x4), .val (.int x5), .val (.int len), .val (.int cnt), .val (.int t0), .val (.int t1), .val (.int xx), .val (.int rr), .unset, .unset, .unset, .unset, .unset, .unset] [(.ref oa), (.ref pa), (.ref gm), (.ref gm)] h_oa 3 10 := H
  have ne_gm_oa : gm ≠ oa := Nat.ne_of_lt (Nat.lt_of_lt_of_le X_gm.lt (Nat.le_of_eq g_oa.symm))
  have ne_pa_oa : pa ≠ oa := Nat.ne_of_lt (Nat.lt_of_lt_of_le V_pa.lt (Nat.le_of_eq g_oa.symm))
  have n_oa : n0 ≤ oa := Nat.le_trans Z_q4 (Nat.le_of_eq g_oa.symm)
  replace X_gm := X_gm.ext E_oa
  replace F_gm_arena := F_gm_arena.ext E_oa
  replace F_gm_priorities := F_gm_priorities.ext E_oa
  replace V_pa := V_pa.ext E_oa
  replace X_pa := X_pa.ext E_oa
  have Z_h_oa : n0 ≤ h_oa.size := Nat.le_trans Z_q4 E_oa.1
  have V_oa : Ari Z h_oa oa .int 4 (lf [(0 : Int32), (0 : Int32), (0 : Int32), (0 : Int32)]) := (Ari.ofNew A_oa (by decide) rfl).congr (fun k hk => by match k, hk with | 0, _ => rfl | 1, _ => rfl | 2, _ => rfl | 3, _ => rfl)
  replace H := k_dup C H at_110 rfl (pc' := 111) rfl
  replace H := k_iconst C H (v := 0) at_111 rfl (pc' := 112) rfl
  replace H := k_iconst C H (v := 0) at_112 rfl (pc' := 113) rfl
  replace H := k_iastore C H V_oa (i := 0) (by decide) (by decide) n_oa at_113 (pc' := 114) rfl
  obtain ⟨q5, W_q5, V_oa, H⟩ := H
  replace V_oa : Ari Z q5 oa .int 4 (lf [(0 : Int32), (0 : Int32), (0 : Int32), (0 : Int32)]) := V_oa.congr (fun k _ => lf_set _ _ _ (Nat.le_of_ble_eq_true rfl) k)
  replace X_gm := X_gm.wr W_q5
  replace F_gm_arena := F_gm_arena.other W_q5 (Or.inl ne_gm_oa)
  replace F_gm_priorities := F_gm_priorities.other W_q5 (Or.inl ne_gm_oa)
  replace V_pa := V_pa.other W_q5 ne_pa_oa
  replace X_pa := X_pa.wr W_q5
  replace X_oa := X_oa.wr W_q5
  have Z_q5 : n0 ≤ q5.size := by rw [W_q5.size]; exact Z_h_oa
  replace H := k_dup C H at_114 rfl (pc' := 115) rfl
  replace H := k_iconst C H (v := 1) at_115 rfl (pc' := 116) rfl
  replace H := k_iconst C H (v := 0) at_116 rfl (pc' := 117) rfl
  replace H := k_iastore C H V_oa (i := 1) (by decide) (by decide) n_oa at_117 (pc' := 118) rfl
  obtain ⟨q6, W_q6, V_oa, H⟩ := H
  replace V_oa : Ari Z q6 oa .int 4 (lf [(0 : Int32), (0 : Int32), (0 : Int32), (0 : Int32)]) := V_oa.congr (fun k _ => lf_set _ _ _ (Nat.le_of_ble_eq_true rfl) k)
  replace X_gm := X_gm.wr W_q6
  replace F_gm_arena := F_gm_arena.other W_q6 (Or.inl ne_gm_oa)
  replace F_gm_priorities := F_gm_priorities.other W_q6 (Or.inl ne_gm_oa)
  replace V_pa := V_pa.other W_q6 ne_pa_oa
  replace X_pa := X_pa.wr W_q6
  replace X_oa := X_oa.wr W_q6
  have Z_q6 : n0 ≤ q6.size := by rw [W_q6.size]; exact Z_q5
  replace H := k_dup C H at_118 rfl (pc' := 119) rfl
  replace H := k_iconst C H (v := 2) at_119 rfl (pc' := 120) rfl
  replace H := k_iconst C H (v := 0) at_120 rfl (pc' := 121) rfl
  replace H := k_iastore C H V_oa (i := 2) (by decide) (by decide) n_oa at_121 (pc' := 122) rfl
  obtain ⟨q7, W_q7, V_oa, H⟩ := H
  replace V_oa : Ari Z q7 oa .int 4 (lf [(0 : Int32), (0 : Int32), (0 : Int32), (0 : Int32)]) := V_oa.congr (fun k _ => lf_set _ _ _ (Nat.le_of_ble_eq_true rfl) k)
  replace X_gm := X_gm.wr W_q7
  replace F_gm_arena := F_gm_arena.other W_q7 (Or.inl ne_gm_oa)
  replace F_gm_priorities := F_gm_priorities.other W_q7 (Or.inl ne_gm_oa)
  replace V_pa := V_pa.other W_q7 ne_pa_oa
  replace X_pa := X_pa.wr W_q7
  replace X_oa := X_oa.wr W_q7
  have Z_q7 : n0 ≤ q7.size := by rw [W_q7.size]; exact Z_q6
  replace H := k_dup C H at_122 rfl (pc' := 123) rfl
  replace H := k_iconst C H (v := 3) at_123 rfl (pc' := 124) rfl
  replace H := k_iconst C H (v := 0) at_124 rfl (pc' := 125) rfl
  replace H := k_iastore C H V_oa (i := 3) (by decide) (by decide) n_oa at_125 (pc' := 126) rfl
  obtain ⟨q8, W_q8, V_oa, H⟩ := H
  replace V_oa : Ari Z q8 oa .int 4 (lf [(0 : Int32), (0 : Int32), (0 : Int32), (0 : Int32)]) := V_oa.congr (fun k _ => lf_set _ _ _ (Nat.le_of_ble_eq_true rfl) k)
  replace X_gm := X_gm.wr W_q8
  replace F_gm_arena := F_gm_arena.other W_q8 (Or.inl ne_gm_oa)
  replace F_gm_priorities := F_gm_priorities.other W_q8 (Or.inl ne_gm_oa)
  replace V_pa := V_pa.other W_q8 ne_pa_oa
  replace X_pa := X_pa.wr W_q8
  replace X_oa := X_oa.wr W_q8
  have Z_q8 : n0 ≤ q8.size := by rw [W_q8.size]; exact Z_q7
  replace H := k_iconst C H (v := 4) at_126 rfl (pc' := 127) rfl
  replace H := k_newRefA C H rfl (hw _ (List.mem_of_getElem? (i := 9) rfl)) (hw _ (List.mem_of_getElem? (i := 10) rfl)) at_127 (by decide) (cap := 4) (by decide) (by decide) (by decide) (by decide) (pc' := 130) rfl
  obtain ⟨h_gd, gd, kg, g_gd, E_gd, A_gd, O_gd, H⟩ := H
  replace H : K 130 #[.val (.int x0), .val (.int x1), .val (.int x2), .val (.int x3), .val (.int x4), .val (.int x5), .val (.int len), .val (.int cnt), .val (.int t0), .val (.int t1), .val (.int xx), .val (.int rr), .unset, .unset, .unset, .unset, .unset, .unset] [(.ref gd), (.ref oa), (.ref pa), (.ref gm), (.ref gm)] h_gd 4 14 := H
  have ne_gm_gd : gm ≠ gd := Nat.ne_of_lt (Nat.lt_of_lt_of_le X_gm.lt (Nat.le_of_eq g_gd.symm))
  have ne_pa_gd : pa ≠ gd := Nat.ne_of_lt (Nat.lt_of_lt_of_le V_pa.lt (Nat.le_of_eq g_gd.symm))
  have ne_oa_gd : oa ≠ gd := Nat.ne_of_lt (Nat.lt_of_lt_of_le V_oa.lt (Nat.le_of_eq g_gd.symm))
  have n_gd : n0 ≤ gd := Nat.le_trans Z_q8 (Nat.le_of_eq g_gd.symm)
  replace X_gm := X_gm.ext E_gd
  replace F_gm_arena := F_gm_arena.ext E_gd
  replace F_gm_priorities := F_gm_priorities.ext E_gd
  replace V_pa := V_pa.ext E_gd
  replace X_pa := X_pa.ext E_gd
  replace V_oa := V_oa.ext E_gd
  replace X_oa := X_oa.ext E_gd
  have Z_h_gd : n0 ≤ h_gd.size := Nat.le_trans Z_q8 E_gd.1
  have G : Arf Z h_gd gd kg (.array .int) 4 (fun _ => .null) := Arf.ofNew A_gd (by decide) rfl
  replace H := k_dup C H at_130 rfl (pc' := 131) rfl
  replace H := k_iconst C H (v := 0) at_131 rfl (pc' := 132) rfl
  replace H := k_iconst C H (v := 1) at_132 rfl (pc' := 133) rfl
  replace H := k_newArrE C H (hw _ (List.mem_of_getElem? (i := 8) rfl)) at_133 (by decide) (cap := 1) (by decide) (by decide) (by decide) (by decide) (ad := "[I") (by decide) (pc' := 135) rfl
  obtain ⟨h_r0, r0, c_r0, g_r0, E_r0, A_r0, X_r0, H⟩ := H
  replace H : K 135 #[.val (.int x0), .val (.int x1), .val (.int x2), .val (.int x3), .val (.int x4), .val (.int x5), .val (.int len), .val (.int cnt), .val (.int t0), .val (.int t1), .val (.int xx), .val (.int rr), .unset, .unset, .unset, .unset, .unset, .unset] [(.ref r0), (.int (0 : Int32)), (.ref gd), (.ref gd), (.ref oa), (.ref pa), (.ref gm), (.ref gm)] h_r0 5 15 := H
  have ne_gm_r0 : gm ≠ r0 := Nat.ne_of_lt (Nat.lt_of_lt_of_le X_gm.lt (Nat.le_of_eq g_r0.symm))
  have ne_pa_r0 : pa ≠ r0 := Nat.ne_of_lt (Nat.lt_of_lt_of_le V_pa.lt (Nat.le_of_eq g_r0.symm))
  have ne_oa_r0 : oa ≠ r0 := Nat.ne_of_lt (Nat.lt_of_lt_of_le V_oa.lt (Nat.le_of_eq g_r0.symm))
  have ne_gd_r0 : gd ≠ r0 := Nat.ne_of_lt (Nat.lt_of_lt_of_le G.lt (Nat.le_of_eq g_r0.symm))
  have n_r0 : n0 ≤ r0 := Nat.le_trans Z_h_gd (Nat.le_of_eq g_r0.symm)
  replace X_gm := X_gm.ext E_r0
  replace F_gm_arena := F_gm_arena.ext E_r0
  replace F_gm_priorities := F_gm_priorities.ext E_r0
  replace V_pa := V_pa.ext E_r0
  replace X_pa := X_pa.ext E_r0
  replace V_oa := V_oa.ext E_r0
  replace X_oa := X_oa.ext E_r0
  replace G := G.ext E_r0
  have Z_h_r0 : n0 ≤ h_r0.size := Nat.le_trans Z_h_gd E_r0.1
  have V_r0 : Ari Z h_r0 r0 .int 1 (lf [(0 : Int32)]) := (Ari.ofNew A_r0 (by decide) rfl).congr (fun k hk => by match k, hk with | 0, _ => rfl)
  replace H := k_dup C H at_135 rfl (pc' := 136) rfl
  replace H := k_iconst C H (v := 0) at_136 rfl (pc' := 137) rfl
  replace H := k_iconst C H (v := 0) at_137 rfl (pc' := 138) rfl
  replace H := k_iastore C H V_r0 (i := 0) (by decide) (by decide) n_r0 at_138 (pc' := 139) rfl
  obtain ⟨q9, W_q9, V_r0, H⟩ := H
  replace V_r0 : Ari Z q9 r0 .int 1 (lf [(0 : Int32)]) := V_r0.congr (fun k _ => lf_set _ _ _ (Nat.le_of_ble_eq_true rfl) k)
  replace X_gm := X_gm.wr W_q9
  replace F_gm_arena := F_gm_arena.other W_q9 (Or.inl ne_gm_r0)
  replace F_gm_priorities := F_gm_priorities.other W_q9 (Or.inl ne_gm_r0)
  replace V_pa := V_pa.other W_q9 ne_pa_r0
  replace X_pa := X_pa.wr W_q9
  replace V_oa := V_oa.other W_q9 ne_oa_r0
  replace X_oa := X_oa.wr W_q9
  replace G := G.other W_q9 ne_gd_r0
  replace X_r0 := X_r0.wr W_q9
  have Z_q9 : n0 ≤ q9.size := by rw [W_q9.size]; exact Z_h_r0
  replace H := k_aastore C H G rfl (Or.inr (Or.inr ⟨_, _, O_gd, r0, rfl, Ins.self X_r0⟩)) (i := 0) (by decide) (by decide) n_gd at_139 (pc' := 140) rfl
  obtain ⟨q10, W_q10, G, H⟩ := H
  replace X_gm := X_gm.wr W_q10
  replace F_gm_arena := F_gm_arena.other W_q10 (Or.inl ne_gm_gd)
  replace F_gm_priorities := F_gm_priorities.other W_q10 (Or.inl ne_gm_gd)
  replace V_pa := V_pa.other W_q10 ne_pa_gd
  replace X_pa := X_pa.wr W_q10
  replace V_oa := V_oa.other W_q10 ne_oa_gd
  replace X_oa := X_oa.wr W_q10
  replace V_r0 := V_r0.other W_q10 (Ne.symm ne_gd_r0)
  replace X_r0 := X_r0.wr W_q10
  have Z_q10 : n0 ≤ q10.size := by rw [W_q10.size]; exact Z_q9
  replace H := k_dup C H at_140 rfl (pc' := 141) rfl
  replace H := k_iconst C H (v := 1) at_141 rfl (pc' := 142) rfl
  replace H := k_iconst C H (v := 1) at_142 rfl (pc' := 143) rfl
  replace H := k_newArrE C H (hw _ (List.mem_of_getElem? (i := 8) rfl)) at_143 (by decide) (cap := 1) (by decide) (by decide) (by decide) (by decide) (ad := "[I") (by decide) (pc' := 145) rfl
  obtain ⟨h_r1, r1, c_r1, g_r1, E_r1, A_r1, X_r1, H⟩ := H
  replace H : K 145 #[.val (.int x0), .val (.int x1), .val (.int x2), .val (.int x3), .val (.int x4), .val (.int x5), .val (.int len), .val (.int cnt), .val (.int t0), .val (.int t1), .val (.int xx), .val (.int rr), .unset, .unset, .unset, .unset, .unset, .unset] [(.ref r1), (.int (1 : Int32)), (.ref gd), (.ref gd), (.ref oa), (.ref pa), (.ref gm), (.ref gm)] h_r1 6 16 := H
  have ne_gm_r1 : gm ≠ r1 := Nat.ne_of_lt (Nat.lt_of_lt_of_le X_gm.lt (Nat.le_of_eq g_r1.symm))
  have ne_pa_r1 : pa ≠ r1 := Nat.ne_of_lt (Nat.lt_of_lt_of_le V_pa.lt (Nat.le_of_eq g_r1.symm))
  have ne_oa_r1 : oa ≠ r1 := Nat.ne_of_lt (Nat.lt_of_lt_of_le V_oa.lt (Nat.le_of_eq g_r1.symm))
  have ne_gd_r1 : gd ≠ r1 := Nat.ne_of_lt (Nat.lt_of_lt_of_le G.lt (Nat.le_of_eq g_r1.symm))
  have ne_r0_r1 : r0 ≠ r1 := Nat.ne_of_lt (Nat.lt_of_lt_of_le V_r0.lt (Nat.le_of_eq g_r1.symm))
  have n_r1 : n0 ≤ r1 := Nat.le_trans Z_q10 (Nat.le_of_eq g_r1.symm)
  replace X_gm := X_gm.ext E_r1
  replace F_gm_arena := F_gm_arena.ext E_r1
  replace F_gm_priorities := F_gm_priorities.ext E_r1
  replace V_pa := V_pa.ext E_r1
  replace X_pa := X_pa.ext E_r1
  replace V_oa := V_oa.ext E_r1
  replace X_oa := X_oa.ext E_r1
  replace G := G.ext E_r1
  replace V_r0 := V_r0.ext E_r1
  replace X_r0 := X_r0.ext E_r1
  have Z_h_r1 : n0 ≤ h_r1.size := Nat.le_trans Z_q10 E_r1.1
  have V_r1 : Ari Z h_r1 r1 .int 1 (lf [(0 : Int32)]) := (Ari.ofNew A_r1 (by decide) rfl).congr (fun k hk => by match k, hk with | 0, _ => rfl)
  replace H := k_dup C H at_145 rfl (pc' := 146) rfl
  replace H := k_iconst C H (v := 0) at_146 rfl (pc' := 147) rfl
  replace H := k_iconst C H (v := 1) at_147 rfl (pc' := 148) rfl
  replace H := k_iastore C H V_r1 (i := 0) (by decide) (by decide) n_r1 at_148 (pc' := 149) rfl
  obtain ⟨q11, W_q11, V_r1, H⟩ := H
  replace V_r1 : Ari Z q11 r1 .int 1 (lf [(1 : Int32)]) := V_r1.congr (fun k _ => lf_set _ _ _ (Nat.le_of_ble_eq_true rfl) k)
  replace X_gm := X_gm.wr W_q11
  replace F_gm_arena := F_gm_arena.other W_q11 (Or.inl ne_gm_r1)
  replace F_gm_priorities := F_gm_priorities.other W_q11 (Or.inl ne_gm_r1)
  replace V_pa := V_pa.other W_q11 ne_pa_r1
  replace X_pa := X_pa.wr W_q11
  replace V_oa := V_oa.other W_q11 ne_oa_r1
  replace X_oa := X_oa.wr W_q11
  replace G := G.other W_q11 ne_gd_r1
  replace V_r0 := V_r0.other W_q11 ne_r0_r1
  replace X_r0 := X_r0.wr W_q11
  replace X_r1 := X_r1.wr W_q11
  have Z_q11 : n0 ≤ q11.size := by rw [W_q11.size]; exact Z_h_r1
  replace H := k_aastore C H G rfl (Or.inr (Or.inr ⟨_, _, O_gd, r1, rfl, Ins.self X_r1⟩)) (i := 1) (by decide) (by decide) n_gd at_149 (pc' := 150) rfl
  obtain ⟨q12, W_q12, G, H⟩ := H
  replace X_gm := X_gm.wr W_q12
  replace F_gm_arena := F_gm_arena.other W_q12 (Or.inl ne_gm_gd)
  replace F_gm_priorities := F_gm_priorities.other W_q12 (Or.inl ne_gm_gd)
  replace V_pa := V_pa.other W_q12 ne_pa_gd
  replace X_pa := X_pa.wr W_q12
  replace V_oa := V_oa.other W_q12 ne_oa_gd
  replace X_oa := X_oa.wr W_q12
  replace V_r0 := V_r0.other W_q12 (Ne.symm ne_gd_r0)
  replace X_r0 := X_r0.wr W_q12
  replace V_r1 := V_r1.other W_q12 (Ne.symm ne_gd_r1)
  replace X_r1 := X_r1.wr W_q12
  have Z_q12 : n0 ≤ q12.size := by rw [W_q12.size]; exact Z_q11
  replace H := k_dup C H at_150 rfl (pc' := 151) rfl
  replace H := k_iconst C H (v := 2) at_151 rfl (pc' := 152) rfl
  replace H := k_iconst C H (v := 1) at_152 rfl (pc' := 153) rfl
  replace H := k_newArrE C H (hw _ (List.mem_of_getElem? (i := 8) rfl)) at_153 (by decide) (cap := 1) (by decide) (by decide) (by decide) (by decide) (ad := "[I") (by decide) (pc' := 155) rfl
  obtain ⟨h_r2, r2, c_r2, g_r2, E_r2, A_r2, X_r2, H⟩ := H
  replace H : K 155 #[.val (.int x0), .val (.int x1), .val (.int x2), .val (.int x3), .val (.int x4), .val (.int x5), .val (.int len), .val (.int cnt), .val (.int t0), .val (.int t1), .val (.int xx), .val (.int rr), .unset, .unset, .unset, .unset, .unset, .unset] [(.ref r2), (.int (2 : Int32)), (.ref gd), (.ref gd), (.ref oa), (.ref pa), (.ref gm), (.ref gm)] h_r2 7 17 := H
  have ne_gm_r2 : gm ≠ r2 := Nat.ne_of_lt (Nat.lt_of_lt_of_le X_gm.lt (Nat.le_of_eq g_r2.symm))
  have ne_pa_r2 : pa ≠ r2 := Nat.ne_of_lt (Nat.lt_of_lt_of_le V_pa.lt (Nat.le_of_eq g_r2.symm))
  have ne_oa_r2 : oa ≠ r2 := Nat.ne_of_lt (Nat.lt_of_lt_of_le V_oa.lt (Nat.le_of_eq g_r2.symm))
  have ne_gd_r2 : gd ≠ r2 := Nat.ne_of_lt (Nat.lt_of_lt_of_le G.lt (Nat.le_of_eq g_r2.symm))
  have ne_r0_r2 : r0 ≠ r2 := Nat.ne_of_lt (Nat.lt_of_lt_of_le V_r0.lt (Nat.le_of_eq g_r2.symm))
  have ne_r1_r2 : r1 ≠ r2 := Nat.ne_of_lt (Nat.lt_of_lt_of_le V_r1.lt (Nat.le_of_eq g_r2.symm))
  have n_r2 : n0 ≤ r2 := Nat.le_trans Z_q12 (Nat.le_of_eq g_r2.symm)
  replace X_gm := X_gm.ext E_r2
  replace F_gm_arena := F_gm_arena.ext E_r2
  replace F_gm_priorities := F_gm_priorities.ext E_r2
  replace V_pa := V_pa.ext E_r2
  replace X_pa := X_pa.ext E_r2
  replace V_oa := V_oa.ext E_r2
  replace X_oa := X_oa.ext E_r2
  replace G := G.ext E_r2
  replace V_r0 := V_r0.ext E_r2
  replace X_r0 := X_r0.ext E_r2
  replace V_r1 := V_r1.ext E_r2
  replace X_r1 := X_r1.ext E_r2
  have Z_h_r2 : n0 ≤ h_r2.size := Nat.le_trans Z_q12 E_r2.1
  have V_r2 : Ari Z h_r2 r2 .int 1 (lf [(0 : Int32)]) := (Ari.ofNew A_r2 (by decide) rfl).congr (fun k hk => by match k, hk with | 0, _ => rfl)
  replace H := k_dup C H at_155 rfl (pc' := 156) rfl
  replace H := k_iconst C H (v := 0) at_156 rfl (pc' := 157) rfl
  replace H := k_iconst C H (v := 2) at_157 rfl (pc' := 158) rfl
  replace H := k_iastore C H V_r2 (i := 0) (by decide) (by decide) n_r2 at_158 (pc' := 159) rfl
  obtain ⟨q13, W_q13, V_r2, H⟩ := H
  replace V_r2 : Ari Z q13 r2 .int 1 (lf [(2 : Int32)]) := V_r2.congr (fun k _ => lf_set _ _ _ (Nat.le_of_ble_eq_true rfl) k)
  replace X_gm := X_gm.wr W_q13
  replace F_gm_arena := F_gm_arena.other W_q13 (Or.inl ne_gm_r2)
  replace F_gm_priorities := F_gm_priorities.other W_q13 (Or.inl ne_gm_r2)
  replace V_pa := V_pa.other W_q13 ne_pa_r2
  replace X_pa := X_pa.wr W_q13
  replace V_oa := V_oa.other W_q13 ne_oa_r2
  replace X_oa := X_oa.wr W_q13
  replace G := G.other W_q13 ne_gd_r2
  replace V_r0 := V_r0.other W_q13 ne_r0_r2
  replace X_r0 := X_r0.wr W_q13
  replace V_r1 := V_r1.other W_q13 ne_r1_r2
  replace X_r1 := X_r1.wr W_q13
  replace X_r2 := X_r2.wr W_q13
  have Z_q13 : n0 ≤ q13.size := by rw [W_q13.size]; exact Z_h_r2
  replace H := k_aastore C H G rfl (Or.inr (Or.inr ⟨_, _, O_gd, r2, rfl, Ins.self X_r2⟩)) (i := 2) (by decide) (by decide) n_gd at_159 (pc' := 160) rfl
  obtain ⟨q14, W_q14, G, H⟩ := H
  replace X_gm := X_gm.wr W_q14
  replace F_gm_arena := F_gm_arena.other W_q14 (Or.inl ne_gm_gd)
  replace F_gm_priorities := F_gm_priorities.other W_q14 (Or.inl ne_gm_gd)
  replace V_pa := V_pa.other W_q14 ne_pa_gd
  replace X_pa := X_pa.wr W_q14
  replace V_oa := V_oa.other W_q14 ne_oa_gd
  replace X_oa := X_oa.wr W_q14
  replace V_r0 := V_r0.other W_q14 (Ne.symm ne_gd_r0)
  replace X_r0 := X_r0.wr W_q14
  replace V_r1 := V_r1.other W_q14 (Ne.symm ne_gd_r1)
  replace X_r1 := X_r1.wr W_q14
  replace V_r2 := V_r2.other W_q14 (Ne.symm ne_gd_r2)
  replace X_r2 := X_r2.wr W_q14
  have Z_q14 : n0 ≤ q14.size := by rw [W_q14.size]; exact Z_q13
  replace H := k_dup C H at_160 rfl (pc' := 161) rfl
  replace H := k_iconst C H (v := 3) at_161 rfl (pc' := 162) rfl
  replace H := k_iconst C H (v := 1) at_162 rfl (pc' := 163) rfl
  replace H := k_newArrE C H (hw _ (List.mem_of_getElem? (i := 8) rfl)) at_163 (by decide) (cap := 1) (by decide) (by decide) (by decide) (by decide) (ad := "[I") (by decide) (pc' := 165) rfl
  obtain ⟨h_r3, r3, c_r3, g_r3, E_r3, A_r3, X_r3, H⟩ := H
  replace H : K 165 #[.val (.int x0), .val (.int x1), .val (.int x2), .val (.int x3), .val (.int x4), .val (.int x5), .val (.int len), .val (.int cnt), .val (.int t0), .val (.int t1), .val (.int xx), .val (.int rr), .unset, .unset, .unset, .unset, .unset, .unset] [(.ref r3), (.int (3 : Int32)), (.ref gd), (.ref gd), (.ref oa), (.ref pa), (.ref gm), (.ref gm)] h_r3 8 18 := H
  have ne_gm_r3 : gm ≠ r3 := Nat.ne_of_lt (Nat.lt_of_lt_of_le X_gm.lt (Nat.le_of_eq g_r3.symm))
  have ne_pa_r3 : pa ≠ r3 := Nat.ne_of_lt (Nat.lt_of_lt_of_le V_pa.lt (Nat.le_of_eq g_r3.symm))
  have ne_oa_r3 : oa ≠ r3 := Nat.ne_of_lt (Nat.lt_of_lt_of_le V_oa.lt (Nat.le_of_eq g_r3.symm))
  have ne_gd_r3 : gd ≠ r3 := Nat.ne_of_lt (Nat.lt_of_lt_of_le G.lt (Nat.le_of_eq g_r3.symm))
  have ne_r0_r3 : r0 ≠ r3 := Nat.ne_of_lt (Nat.lt_of_lt_of_le V_r0.lt (Nat.le_of_eq g_r3.symm))
  have ne_r1_r3 : r1 ≠ r3 := Nat.ne_of_lt (Nat.lt_of_lt_of_le V_r1.lt (Nat.le_of_eq g_r3.symm))
  have ne_r2_r3 : r2 ≠ r3 := Nat.ne_of_lt (Nat.lt_of_lt_of_le V_r2.lt (Nat.le_of_eq g_r3.symm))
  have n_r3 : n0 ≤ r3 := Nat.le_trans Z_q14 (Nat.le_of_eq g_r3.symm)
  replace X_gm := X_gm.ext E_r3
  replace F_gm_arena := F_gm_arena.ext E_r3
  replace F_gm_priorities := F_gm_priorities.ext E_r3
  replace V_pa := V_pa.ext E_r3
  replace X_pa := X_pa.ext E_r3
  replace V_oa := V_oa.ext E_r3
  replace X_oa := X_oa.ext E_r3
  replace G := G.ext E_r3
  replace V_r0 := V_r0.ext E_r3
  replace X_r0 := X_r0.ext E_r3
  replace V_r1 := V_r1.ext E_r3
  replace X_r1 := X_r1.ext E_r3
  replace V_r2 := V_r2.ext E_r3
  replace X_r2 := X_r2.ext E_r3
  have Z_h_r3 : n0 ≤ h_r3.size := Nat.le_trans Z_q14 E_r3.1
  have V_r3 : Ari Z h_r3 r3 .int 1 (lf [(0 : Int32)]) := (Ari.ofNew A_r3 (by decide) rfl).congr (fun k hk => by match k, hk with | 0, _ => rfl)
  replace H := k_dup C H at_165 rfl (pc' := 166) rfl
  replace H := k_iconst C H (v := 0) at_166 rfl (pc' := 167) rfl
  replace H := k_iconst C H (v := 3) at_167 rfl (pc' := 168) rfl
  replace H := k_iastore C H V_r3 (i := 0) (by decide) (by decide) n_r3 at_168 (pc' := 169) rfl
  obtain ⟨q15, W_q15, V_r3, H⟩ := H
  replace V_r3 : Ari Z q15 r3 .int 1 (lf [(3 : Int32)]) := V_r3.congr (fun k _ => lf_set _ _ _ (Nat.le_of_ble_eq_true rfl) k)
  replace X_gm := X_gm.wr W_q15
  replace F_gm_arena := F_gm_arena.other W_q15 (Or.inl ne_gm_r3)
  replace F_gm_priorities := F_gm_priorities.other W_q15 (Or.inl ne_gm_r3)
  replace V_pa := V_pa.other W_q15 ne_pa_r3
  replace X_pa := X_pa.wr W_q15
  replace V_oa := V_oa.other W_q15 ne_oa_r3
  replace X_oa := X_oa.wr W_q15
  replace G := G.other W_q15 ne_gd_r3
  replace V_r0 := V_r0.other W_q15 ne_r0_r3
  replace X_r0 := X_r0.wr W_q15
  replace V_r1 := V_r1.other W_q15 ne_r1_r3
  replace X_r1 := X_r1.wr W_q15
  replace V_r2 := V_r2.other W_q15 ne_r2_r3
  replace X_r2 := X_r2.wr W_q15
  replace X_r3 := X_r3.wr W_q15
  have Z_q15 : n0 ≤ q15.size := by rw [W_q15.size]; exact Z_h_r3
  replace H := k_aastore C H G rfl (Or.inr (Or.inr ⟨_, _, O_gd, r3, rfl, Ins.self X_r3⟩)) (i := 3) (by decide) (by decide) n_gd at_169 (pc' := 170) rfl
  obtain ⟨q16, W_q16, G, H⟩ := H
  replace X_gm := X_gm.wr W_q16
  replace F_gm_arena := F_gm_arena.other W_q16 (Or.inl ne_gm_gd)
  replace F_gm_priorities := F_gm_priorities.other W_q16 (Or.inl ne_gm_gd)
  replace V_pa := V_pa.other W_q16 ne_pa_gd
  replace X_pa := X_pa.wr W_q16
  replace V_oa := V_oa.other W_q16 ne_oa_gd
  replace X_oa := X_oa.wr W_q16
  replace V_r0 := V_r0.other W_q16 (Ne.symm ne_gd_r0)
  replace X_r0 := X_r0.wr W_q16
  replace V_r1 := V_r1.other W_q16 (Ne.symm ne_gd_r1)
  replace X_r1 := X_r1.wr W_q16
  replace V_r2 := V_r2.other W_q16 (Ne.symm ne_gd_r2)
  replace X_r2 := X_r2.wr W_q16
  replace V_r3 := V_r3.other W_q16 (Ne.symm ne_gd_r3)
  replace X_r3 := X_r3.wr W_q16
  have Z_q16 : n0 ≤ q16.size := by rw [W_q16.size]; exact Z_q15
  replace H := k_iconst C H (v := 0) at_170 rfl (pc' := 171) rfl
  have lt_gm : gm < q16.size := X_gm.lt
  have lt_pa : pa < q16.size := V_pa.lt
  have lt_oa : oa < q16.size := V_oa.lt
  have lt_gd : gd < q16.size := G.lt
  have lt_r0 : r0 < q16.size := V_r0.lt
  have lt_r1 : r1 < q16.size := V_r1.lt
  have lt_r2 : r2 < q16.size := V_r2.lt
  have lt_r3 : r3 < q16.size := V_r3.lt
  have nz := Z_q16
  replace H := k_callCon C H (rmG l Z a0 hw gm pa oa gd (0 : Int32) q16 n0 rfl Z_q16 _ _ X_gm F_gm_arena F_gm_priorities V_pa X_pa V_oa X_oa kg r0 r1 r2 r3 G V_r0 V_r1 V_r2 V_r3 n_gm) rfl (hw _ (List.mem_of_getElem? (i := 12) rfl)) (hw _ (List.mem_of_getElem? (i := 13) rfl)) (hw _ (List.mem_of_getElem? (i := 7) rfl)) (hw _ (List.mem_of_getElem? (i := 14) rfl)) (by decide) at_171 rfl gm [(.ref pa), (.ref oa), (.ref gd), (.int (0 : Int32))] [(.ref gm)] pd0_1 rfl rfl rfl 1 rfl (by decide) (by decide) (by decide) (by decide) (pc' := 174) rfl
  obtain ⟨_, hg, ⟨rfl, ar, pr, ss, sc, K_gm, g1, g2, g3, g4, FA, FP, AP, XA, FS, FC, BS, BC⟩, H⟩ := H
  replace H : K 174 #[.val (.int x0), .val (.int x1), .val (.int x2), .val (.int x3), .val (.int x4), .val (.int x5), .val (.int len), .val (.int cnt), .val (.int t0), .val (.int t1), .val (.int xx), .val (.int rr), .unset, .unset, .unset, .unset, .unset, .unset] [(.ref gm)] hg 13 39 := H
  replace X_gm := X_gm.keep K_gm
  replace V_pa := V_pa.keep K_gm (ninS (Ne.symm ne_gm_pa) nin0)
  replace X_pa := X_pa.keep K_gm
  replace V_oa := V_oa.keep K_gm (ninS (Ne.symm ne_gm_oa) nin0)
  replace X_oa := X_oa.keep K_gm
  replace G := G.keep K_gm (ninS (Ne.symm ne_gm_gd) nin0)
  replace V_r0 := V_r0.keep K_gm (ninS (Ne.symm ne_gm_r0) nin0)
  replace X_r0 := X_r0.keep K_gm
  replace V_r1 := V_r1.keep K_gm (ninS (Ne.symm ne_gm_r1) nin0)
  replace X_r1 := X_r1.keep K_gm
  replace V_r2 := V_r2.keep K_gm (ninS (Ne.symm ne_gm_r2) nin0)
  replace X_r2 := X_r2.keep K_gm
  replace V_r3 := V_r3.keep K_gm (ninS (Ne.symm ne_gm_r3) nin0)
  replace X_r3 := X_r3.keep K_gm
  have Z_hg : n0 ≤ hg.size := Nat.le_trans Z_q16 K_gm.1
  have ne_gm_ar : gm ≠ ar := Nat.ne_of_lt (Nat.lt_of_lt_of_le lt_gm g1)
  have ne_gm_pr : gm ≠ pr := Nat.ne_of_lt (Nat.lt_of_lt_of_le lt_gm g2)
  have ne_gm_ss : gm ≠ ss := Nat.ne_of_lt (Nat.lt_of_lt_of_le lt_gm g3)
  have ne_gm_sc : gm ≠ sc := Nat.ne_of_lt (Nat.lt_of_lt_of_le lt_gm g4)
  replace H := k_astore C H at_174 (L' := #[.val (.int x0), .val (.int x1), .val (.int x2), .val (.int x3), .val (.int x4), .val (.int x5), .val (.int len), .val (.int cnt), .val (.int t0), .val (.int t1), .val (.int xx), .val (.int rr), .val (.ref gm), .unset, .unset, .unset, .unset, .unset]) rfl rfl (pc' := 176) rfl
  replace H := k_newObj C H (hw _ (List.mem_of_getElem? (i := 65) rfl)) (hw _ (List.mem_of_getElem? (i := 66) rfl)) (hw _ (List.mem_of_getElem? (i := 67) rfl)) at_176 (by decide) (by decide) (pc' := 179) rfl
  obtain ⟨h_sg, sg, g_sg, E_sg, X_sg, D_sg, H⟩ := H
  replace H : K 179 #[.val (.int x0), .val (.int x1), .val (.int x2), .val (.int x3), .val (.int x4), .val (.int x5), .val (.int len), .val (.int cnt), .val (.int t0), .val (.int t1), .val (.int xx), .val (.int rr), .val (.ref gm), .unset, .unset, .unset, .unset, .unset] [(.ref sg)] h_sg 14 49 := H
  have ne_gm_sg : gm ≠ sg := Nat.ne_of_lt (Nat.lt_of_lt_of_le X_gm.lt (Nat.le_of_eq g_sg.symm))
  have ne_ar_sg : ar ≠ sg := Nat.ne_of_lt (Nat.lt_of_lt_of_le XA.lt (Nat.le_of_eq g_sg.symm))
  have ne_pr_sg : pr ≠ sg := Nat.ne_of_lt (Nat.lt_of_lt_of_le AP.lt (Nat.le_of_eq g_sg.symm))
  have ne_ss_sg : ss ≠ sg := Nat.ne_of_lt (Nat.lt_of_lt_of_le BS.lt (Nat.le_of_eq g_sg.symm))
  have ne_sc_sg : sc ≠ sg := Nat.ne_of_lt (Nat.lt_of_lt_of_le BC.lt (Nat.le_of_eq g_sg.symm))
  have n_sg : n0 ≤ sg := Nat.le_trans Z_hg (Nat.le_of_eq g_sg.symm)
  replace X_gm := X_gm.ext E_sg
  replace FA := FA.ext E_sg
  replace FP := FP.ext E_sg
  replace XA := XA.ext E_sg
  replace FS := FS.ext E_sg
  replace FC := FC.ext E_sg
  replace AP := AP.ext E_sg
  replace BS := BS.ext E_sg
  replace BC := BC.ext E_sg
  have Z_h_sg : n0 ≤ h_sg.size := Nat.le_trans Z_hg E_sg.1
  have F_sg_game : Fld Z h_sg sg "com/example/equilibrate/equilibrate/solver/Subgames" "game" "Lcom/example/equilibrate/equilibrate/model/ParityGame;" .null := D_sg (Or.inr (hw _ (List.mem_of_getElem? (i := 126) rfl))) (ty := (.object "com/example/equilibrate/equilibrate/model/ParityGame")) (by decide)
  have F_sg_predecessors : Fld Z h_sg sg "com/example/equilibrate/equilibrate/solver/Subgames" "predecessors" "Lcom/example/equilibrate/equilibrate/solver/Predecessors;" .null := D_sg (Or.inr (hw _ (List.mem_of_getElem? (i := 128) rfl))) (ty := (.object "com/example/equilibrate/equilibrate/solver/Predecessors")) (by decide)
  have F_sg_order : Fld Z h_sg sg "com/example/equilibrate/equilibrate/solver/Subgames" "order" "[I" .null := D_sg (Or.inr (hw _ (List.mem_of_getElem? (i := 130) rfl))) (ty := (.array .int)) (by decide)
  have F_sg_position : Fld Z h_sg sg "com/example/equilibrate/equilibrate/solver/Subgames" "position" "[I" .null := D_sg (Or.inr (hw _ (List.mem_of_getElem? (i := 132) rfl))) (ty := (.array .int)) (by decide)
  have F_sg_buffer : Fld Z h_sg sg "com/example/equilibrate/equilibrate/solver/Subgames" "buffer" "[I" .null := D_sg (Or.inr (hw _ (List.mem_of_getElem? (i := 134) rfl))) (ty := (.array .int)) (by decide)
  have F_sg_mark : Fld Z h_sg sg "com/example/equilibrate/equilibrate/solver/Subgames" "mark" "[I" .null := D_sg (Or.inr (hw _ (List.mem_of_getElem? (i := 136) rfl))) (ty := (.array .int)) (by decide)
  have F_sg_escapeStamp : Fld Z h_sg sg "com/example/equilibrate/equilibrate/solver/Subgames" "escapeStamp" "[I" .null := D_sg (Or.inr (hw _ (List.mem_of_getElem? (i := 138) rfl))) (ty := (.array .int)) (by decide)
  have F_sg_escapes : Fld Z h_sg sg "com/example/equilibrate/equilibrate/solver/Subgames" "escapes" "[I" .null := D_sg (Or.inr (hw _ (List.mem_of_getElem? (i := 140) rfl))) (ty := (.array .int)) (by decide)
  replace H := k_dup C H at_179 rfl (pc' := 180) rfl
  replace H := k_aload C H at_180 rfl rfl (pc' := 182) rfl
  replace H := k_newObj C H (hw _ (List.mem_of_getElem? (i := 68) rfl)) (hw _ (List.mem_of_getElem? (i := 69) rfl)) (hw _ (List.mem_of_getElem? (i := 70) rfl)) at_182 (by decide) (by decide) (pc' := 185) rfl
  obtain ⟨h_pd, pd, g_pd, E_pd, X_pd, D_pd, H⟩ := H
  replace H : K 185 #[.val (.int x0), .val (.int x1), .val (.int x2), .val (.int x3), .val (.int x4), .val (.int x5), .val (.int len), .val (.int cnt), .val (.int t0), .val (.int t1), .val (.int xx), .val (.int rr), .val (.ref gm), .unset, .unset, .unset, .unset, .unset] [(.ref pd), (.ref gm), (.ref sg), (.ref sg)] h_pd 15 51 := H
  have ne_gm_pd : gm ≠ pd := Nat.ne_of_lt (Nat.lt_of_lt_of_le X_gm.lt (Nat.le_of_eq g_pd.symm))
  have ne_ar_pd : ar ≠ pd := Nat.ne_of_lt (Nat.lt_of_lt_of_le XA.lt (Nat.le_of_eq g_pd.symm))
  have ne_pr_pd : pr ≠ pd := Nat.ne_of_lt (Nat.lt_of_lt_of_le AP.lt (Nat.le_of_eq g_pd.symm))
  have ne_ss_pd : ss ≠ pd := Nat.ne_of_lt (Nat.lt_of_lt_of_le BS.lt (Nat.le_of_eq g_pd.symm))
  have ne_sc_pd : sc ≠ pd := Nat.ne_of_lt (Nat.lt_of_lt_of_le BC.lt (Nat.le_of_eq g_pd.symm))
  have ne_sg_pd : sg ≠ pd := Nat.ne_of_lt (Nat.lt_of_lt_of_le X_sg.lt (Nat.le_of_eq g_pd.symm))
  have n_pd : n0 ≤ pd := Nat.le_trans Z_h_sg (Nat.le_of_eq g_pd.symm)
  replace X_gm := X_gm.ext E_pd
  replace FA := FA.ext E_pd
  replace FP := FP.ext E_pd
  replace XA := XA.ext E_pd
  replace FS := FS.ext E_pd
  replace FC := FC.ext E_pd
  replace AP := AP.ext E_pd
  replace BS := BS.ext E_pd
  replace BC := BC.ext E_pd
  replace X_sg := X_sg.ext E_pd
  replace F_sg_game := F_sg_game.ext E_pd
  replace F_sg_predecessors := F_sg_predecessors.ext E_pd
  replace F_sg_order := F_sg_order.ext E_pd
  replace F_sg_position := F_sg_position.ext E_pd
  replace F_sg_buffer := F_sg_buffer.ext E_pd
  replace F_sg_mark := F_sg_mark.ext E_pd
  replace F_sg_escapeStamp := F_sg_escapeStamp.ext E_pd
  replace F_sg_escapes := F_sg_escapes.ext E_pd
  have Z_h_pd : n0 ≤ h_pd.size := Nat.le_trans Z_h_sg E_pd.1
  have F_pd_start : Fld Z h_pd pd "com/example/equilibrate/equilibrate/solver/Predecessors" "start" "[I" .null := D_pd (Or.inr (hw _ (List.mem_of_getElem? (i := 81) rfl))) (ty := (.array .int)) (by decide)
  have F_pd_vertices : Fld Z h_pd pd "com/example/equilibrate/equilibrate/solver/Predecessors" "vertices" "[I" .null := D_pd (Or.inr (hw _ (List.mem_of_getElem? (i := 93) rfl))) (ty := (.array .int)) (by decide)
  replace H := k_dup C H at_185 rfl (pc' := 186) rfl
  replace H := k_aload C H at_186 rfl rfl (pc' := 188) rfl
  replace H := k_callCon C H (rmP l Z a0 hw pd gm h_pd n0 Z_h_pd _ _ X_pd F_pd_start F_pd_vertices X_gm ar pr ss sc FA FP AP XA FS FC BS BC n_pd) rfl (hw _ (List.mem_of_getElem? (i := 71) rfl)) (hw _ (List.mem_of_getElem? (i := 72) rfl)) (hw _ (List.mem_of_getElem? (i := 70) rfl)) (hw _ (List.mem_of_getElem? (i := 73) rfl)) (by decide) at_188 rfl pd [(.ref gm)] [(.ref pd), (.ref gm), (.ref sg), (.ref sg)] pd0_2 rfl rfl rfl 4 rfl (by decide) (by decide) (by decide) (by decide) (pc' := 191) rfl
  obtain ⟨_, hp, ⟨rfl, K_pd⟩, H⟩ := H
  replace H : K 191 #[.val (.int x0), .val (.int x1), .val (.int x2), .val (.int x3), .val (.int x4), .val (.int x5), .val (.int len), .val (.int cnt), .val (.int t0), .val (.int t1), .val (.int xx), .val (.int rr), .val (.ref gm), .unset, .unset, .unset, .unset, .unset] [(.ref pd), (.ref gm), (.ref sg), (.ref sg)] hp 18 64 := H
  replace X_gm := X_gm.keep K_pd
  replace FA := FA.keep K_pd (ninS ne_gm_pd nin0)
  replace FP := FP.keep K_pd (ninS ne_gm_pd nin0)
  replace XA := XA.keep K_pd
  replace FS := FS.keep K_pd (ninS ne_ar_pd nin0)
  replace FC := FC.keep K_pd (ninS ne_ar_pd nin0)
  replace AP := AP.keep K_pd (ninS ne_pr_pd nin0)
  replace BS := BS.keep K_pd (ninS ne_ss_pd nin0)
  replace BC := BC.keep K_pd (ninS ne_sc_pd nin0)
  replace X_sg := X_sg.keep K_pd
  replace F_sg_game := F_sg_game.keep K_pd (ninS ne_sg_pd nin0)
  replace F_sg_predecessors := F_sg_predecessors.keep K_pd (ninS ne_sg_pd nin0)
  replace F_sg_order := F_sg_order.keep K_pd (ninS ne_sg_pd nin0)
  replace F_sg_position := F_sg_position.keep K_pd (ninS ne_sg_pd nin0)
  replace F_sg_buffer := F_sg_buffer.keep K_pd (ninS ne_sg_pd nin0)
  replace F_sg_mark := F_sg_mark.keep K_pd (ninS ne_sg_pd nin0)
  replace F_sg_escapeStamp := F_sg_escapeStamp.keep K_pd (ninS ne_sg_pd nin0)
  replace F_sg_escapes := F_sg_escapes.keep K_pd (ninS ne_sg_pd nin0)
  replace X_pd := X_pd.keep K_pd
  have Z_hp : n0 ≤ hp.size := Nat.le_trans Z_h_pd K_pd.1
  have nz2 := Z_hp
  replace H := k_callCon C H (rmU l Z a0 hw sg gm pd hp n0 Z_hp _ _ _ _ _ _ _ _ X_sg F_sg_game F_sg_predecessors F_sg_order F_sg_position F_sg_buffer F_sg_mark F_sg_escapeStamp F_sg_escapes X_gm ar pr ss sc FA FP AP XA FS FC BS BC n_sg) rfl (hw _ (List.mem_of_getElem? (i := 120) rfl)) (hw _ (List.mem_of_getElem? (i := 121) rfl)) (hw _ (List.mem_of_getElem? (i := 67) rfl)) (hw _ (List.mem_of_getElem? (i := 122) rfl)) (by decide) at_191 rfl sg [(.ref gm), (.ref pd)] [(.ref sg)] pd0_3 rfl rfl rfl 1 rfl (by decide) (by decide) (by decide) (by decide) (pc' := 194) rfl
  obtain ⟨_, hs, ⟨rfl, od, ps, bf, K_sg, g5, g6, g7, d1, d2, d3, FO, FQ, FB, AO, AP2, AB⟩, H⟩ := H
  replace H : K 194 #[.val (.int x0), .val (.int x1), .val (.int x2), .val (.int x3), .val (.int x4), .val (.int x5), .val (.int len), .val (.int cnt), .val (.int t0), .val (.int t1), .val (.int xx), .val (.int rr), .val (.ref gm), .unset, .unset, .unset, .unset, .unset] [(.ref sg)] hs 24 88 := H
  replace X_gm := X_gm.keep K_sg
  replace FA := FA.keep K_sg (ninS ne_gm_sg nin0)
  replace FP := FP.keep K_sg (ninS ne_gm_sg nin0)
  replace XA := XA.keep K_sg
  replace FS := FS.keep K_sg (ninS ne_ar_sg nin0)
  replace FC := FC.keep K_sg (ninS ne_ar_sg nin0)
  replace AP := AP.keep K_sg (ninS ne_pr_sg nin0)
  replace BS := BS.keep K_sg (ninS ne_ss_sg nin0)
  replace BC := BC.keep K_sg (ninS ne_sc_sg nin0)
  replace X_sg := X_sg.keep K_sg
  replace X_pd := X_pd.keep K_sg
  have Z_hs : n0 ≤ hs.size := Nat.le_trans Z_hp K_sg.1
  have n_od : n0 ≤ od := Nat.le_trans nz2 g5
  have n_ps : n0 ≤ ps := Nat.le_trans nz2 g6
  have n_bf : n0 ≤ bf := Nat.le_trans nz2 g7
  have nX_od := AO.neX X_sg (hw _ (List.mem_of_getElem? (i := 66) rfl))
  have nX_ps := AP2.neX X_sg (hw _ (List.mem_of_getElem? (i := 66) rfl))
  have nX_bf := AB.neX X_sg (hw _ (List.mem_of_getElem? (i := 66) rfl))
  replace H := k_astore C H at_194 (L' := #[.val (.int x0), .val (.int x1), .val (.int x2), .val (.int x3), .val (.int x4), .val (.int x5), .val (.int len), .val (.int cnt), .val (.int t0), .val (.int t1), .val (.int xx), .val (.int rr), .val (.ref gm), .val (.ref sg), .unset, .unset, .unset, .unset]) rfl rfl (pc' := 196) rfl
  replace H := k_aload C H at_196 rfl rfl (pc' := 198) rfl
  replace H := k_iconst C H (v := 0) at_198 rfl (pc' := 199) rfl
  replace H := k_iload C H at_199 rfl (pc' := 201) rfl
  replace H := k_callVir C H (rmT l Z a0 hw sg (0 : Int32) t0 hs n0 bf _ 0 FB AB (by decide) (by decide) n_bf) X_sg (hw _ (List.mem_of_getElem? (i := 141) rfl)) (hw _ (List.mem_of_getElem? (i := 142) rfl)) (hw _ (List.mem_of_getElem? (i := 144) rfl)) (hw _ (List.mem_of_getElem? (i := 143) rfl)) (hw _ (List.mem_of_getElem? (i := 67) rfl)) (hw _ (List.mem_of_getElem? (i := 145) rfl)) (by decide) at_201 rfl [(.int (0 : Int32)), (.int t0)] [] pd0_4 rfl rfl rfl 0 rfl (by decide) (by decide) (by decide) (by decide) (pc' := 204) rfl
  obtain ⟨_, ht0, ⟨rfl, K_t0, AB'⟩, H⟩ := H
  replace H : K 204 #[.val (.int x0), .val (.int x1), .val (.int x2), .val (.int x3), .val (.int x4), .val (.int x5), .val (.int len), .val (.int cnt), .val (.int t0), .val (.int t1), .val (.int xx), .val (.int rr), .val (.ref gm), .val (.ref sg), .unset, .unset, .unset, .unset] [] ht0 24 88 := H
  replace X_sg := X_sg.keep K_t0
  replace FO := FO.keep K_t0 (ninS (Ne.symm nX_bf) nin0)
  replace FQ := FQ.keep K_t0 (ninS (Ne.symm nX_bf) nin0)
  replace FB := FB.keep K_t0 (ninS (Ne.symm nX_bf) nin0)
  replace AO := AO.keep K_t0 (ninS d2 nin0)
  replace AP2 := AP2.keep K_t0 (ninS d3 nin0)
  have Z_ht0 : n0 ≤ ht0.size := Nat.le_trans Z_hs K_t0.1
  replace AB := AB'
  clear AB'
  replace H := k_aload C H at_204 rfl rfl (pc' := 206) rfl
  replace H := k_iconst C H (v := 1) at_206 rfl (pc' := 207) rfl
  replace H := k_iload C H at_207 rfl (pc' := 209) rfl
  replace H := k_callVir C H (rmT l Z a0 hw sg (1 : Int32) t1 ht0 n0 bf _ 1 FB AB (by decide) (by decide) n_bf) X_sg (hw _ (List.mem_of_getElem? (i := 141) rfl)) (hw _ (List.mem_of_getElem? (i := 142) rfl)) (hw _ (List.mem_of_getElem? (i := 144) rfl)) (hw _ (List.mem_of_getElem? (i := 143) rfl)) (hw _ (List.mem_of_getElem? (i := 67) rfl)) (hw _ (List.mem_of_getElem? (i := 145) rfl)) (by decide) at_209 rfl [(.int (1 : Int32)), (.int t1)] [] pd0_4 rfl rfl rfl 0 rfl (by decide) (by decide) (by decide) (by decide) (pc' := 212) rfl
  obtain ⟨_, ht1, ⟨rfl, K_t1, AB'⟩, H⟩ := H
  replace H : K 212 #[.val (.int x0), .val (.int x1), .val (.int x2), .val (.int x3), .val (.int x4), .val (.int x5), .val (.int len), .val (.int cnt), .val (.int t0), .val (.int t1), .val (.int xx), .val (.int rr), .val (.ref gm), .val (.ref sg), .unset, .unset, .unset, .unset] [] ht1 24 88 := H
  replace X_sg := X_sg.keep K_t1
  replace FO := FO.keep K_t1 (ninS (Ne.symm nX_bf) nin0)
  replace FQ := FQ.keep K_t1 (ninS (Ne.symm nX_bf) nin0)
  replace FB := FB.keep K_t1 (ninS (Ne.symm nX_bf) nin0)
  replace AO := AO.keep K_t1 (ninS d2 nin0)
  replace AP2 := AP2.keep K_t1 (ninS d3 nin0)
  have Z_ht1 : n0 ≤ ht1.size := Nat.le_trans Z_ht0 K_t1.1
  replace AB := AB'
  clear AB'
  have z0 := own_ofn e_n0 (own_45 l_n0)
  have z1 := own_ofn e_n1 (own_45 l_n1)
  replace AB : Ari Z ht1 bf .int 4 (own_n (own_b n_0 n_1)) := AB.congr (fun k hk => by match k, hk with | 0, _ => exact z0 | 1, _ => exact z1 | 2, _ => rfl | 3, _ => rfl)
  replace AO : Ari Z ht1 od .int 4 (own_n (fun k => k)) := AO.congr (fun k hk => by match k, hk with | 0, _ => rfl | 1, _ => rfl | 2, _ => rfl | 3, _ => rfl)
  replace AP2 : Ari Z ht1 ps .int 4 (own_n (fun k => k)) := AP2.congr (fun k hk => by match k, hk with | 0, _ => rfl | 1, _ => rfl | 2, _ => rfl | 3, _ => rfl)
  have bb := own_b_b n_0 n_1 l_n0 l_n1
  replace H := k_aload C H at_212 rfl rfl (pc' := 214) rfl
  replace H := k_iload C H at_214 rfl (pc' := 216) rfl
  replace H := k_iload C H at_216 rfl (pc' := 218) rfl
  replace H := k_callVir C H (rmR l Z a0 hw sg cnt len ht1 n0 od ps bf (fun k => k) (fun k => k) (own_b n_0 n_1) FO FQ FB AO AP2 AB (fun _ h => h) (fun _ h => h) bb cn ln e_cn e_ln l_cl l_4 nX_od nX_ps d1 d2 d3 n_od n_ps) X_sg (hw _ (List.mem_of_getElem? (i := 146) rfl)) (hw _ (List.mem_of_getElem? (i := 147) rfl)) (hw _ (List.mem_of_getElem? (i := 149) rfl)) (hw _ (List.mem_of_getElem? (i := 148) rfl)) (hw _ (List.mem_of_getElem? (i := 67) rfl)) (hw _ (List.mem_of_getElem? (i := 150) rfl)) (by decide) at_218 rfl [(.int cnt), (.int len)] [] pd0_0 rfl rfl rfl 0 rfl (by decide) (by decide) (by decide) (by decide) (pc' := 221) rfl
  obtain ⟨_, hr, ⟨rv, rfl, e_rv, K_r, AO', AP'⟩, H⟩ := H
  replace H : K 221 #[.val (.int x0), .val (.int x1), .val (.int x2), .val (.int x3), .val (.int x4), .val (.int x5), .val (.int len), .val (.int cnt), .val (.int t0), .val (.int t1), .val (.int xx), .val (.int rr), .val (.ref gm), .val (.ref sg), .unset, .unset, .unset, .unset] [(.int rv)] hr 24 88 := H
  replace X_sg := X_sg.keep K_r
  replace FO := FO.keep K_r (ninS (Ne.symm nX_od) (ninS (Ne.symm nX_ps) nin0))
  replace FQ := FQ.keep K_r (ninS (Ne.symm nX_od) (ninS (Ne.symm nX_ps) nin0))
  replace FB := FB.keep K_r (ninS (Ne.symm nX_od) (ninS (Ne.symm nX_ps) nin0))
  have Z_hr : n0 ≤ hr.size := Nat.le_trans Z_ht1 K_r.1
  obtain ⟨qo, e_qo, AO⟩ : ∃ q, q = (own_q ln cn n_0 n_1).1 ∧ Ari Z hr od .int 4 (own_n q) := ⟨_, rfl, AO'⟩
  obtain ⟨qp, e_qp, AP2⟩ : ∃ q, q = (own_q ln cn n_0 n_1).2 ∧ Ari Z hr ps .int 4 (own_n q) := ⟨_, rfl, AP'⟩
  clear AO' AP'
  replace H := k_istore C H at_221 (L' := #[.val (.int x0), .val (.int x1), .val (.int x2), .val (.int x3), .val (.int x4), .val (.int x5), .val (.int len), .val (.int cnt), .val (.int t0), .val (.int t1), .val (.int xx), .val (.int rr), .val (.ref gm), .val (.ref sg), .val (.int rv), .unset, .unset, .unset]) rfl (pc' := 223) rfl
  replace H := k_iconst C H (v := 4) at_223 rfl (pc' := 224) rfl
  replace H := k_newArr C H (hw _ (List.mem_of_getElem? (i := 8) rfl)) at_224 (by decide) (cap := 4) (by decide) (by decide) (by decide) (by decide) (pc' := 226) rfl
  obtain ⟨h_oo, oo, c_oo, g_oo, E_oo, A_oo, H⟩ := H
  replace H : K 226 #[.val (.int x0), .val (.int x1), .val (.int x2), .val (.int x3), .val (.int x4), .val (.int x5), .val (.int len), .val (.int cnt), .val (.int t0), .val (.int t1), .val (.int xx), .val (.int rr), .val (.ref gm), .val (.ref sg), .val (.int rv), .unset, .unset, .unset] [(.ref oo)] h_oo 25 92 := H
  have ne_sg_oo : sg ≠ oo := Nat.ne_of_lt (Nat.lt_of_lt_of_le X_sg.lt (Nat.le_of_eq g_oo.symm))
  have ne_od_oo : od ≠ oo := Nat.ne_of_lt (Nat.lt_of_lt_of_le AO.lt (Nat.le_of_eq g_oo.symm))
  have ne_ps_oo : ps ≠ oo := Nat.ne_of_lt (Nat.lt_of_lt_of_le AP2.lt (Nat.le_of_eq g_oo.symm))
  have n_oo : n0 ≤ oo := Nat.le_trans Z_hr (Nat.le_of_eq g_oo.symm)
  replace X_sg := X_sg.ext E_oo
  replace FO := FO.ext E_oo
  replace FQ := FQ.ext E_oo
  replace FB := FB.ext E_oo
  replace AO := AO.ext E_oo
  replace AP2 := AP2.ext E_oo
  have Z_h_oo : n0 ≤ h_oo.size := Nat.le_trans Z_hr E_oo.1
  have V_oo : Ari Z h_oo oo .int 4 (lf [(0 : Int32), (0 : Int32), (0 : Int32), (0 : Int32)]) := (Ari.ofNew A_oo (by decide) rfl).congr (fun k hk => by match k, hk with | 0, _ => rfl | 1, _ => rfl | 2, _ => rfl | 3, _ => rfl)
  replace H := k_dup C H at_226 rfl (pc' := 227) rfl
  replace H := k_iconst C H (v := 0) at_227 rfl (pc' := 228) rfl
  replace H := k_aload C H at_228 rfl rfl (pc' := 230) rfl
  replace H := k_iconst C H (v := 0) at_230 rfl (pc' := 231) rfl
  replace H := k_callVir C H (rmX l Z a0 hw sg (0 : Int32) h_oo n0 od _ 0 FO AO (by decide) (by decide)) X_sg (hw _ (List.mem_of_getElem? (i := 151) rfl)) (hw _ (List.mem_of_getElem? (i := 152) rfl)) (hw _ (List.mem_of_getElem? (i := 154) rfl)) (hw _ (List.mem_of_getElem? (i := 153) rfl)) (hw _ (List.mem_of_getElem? (i := 67) rfl)) (hw _ (List.mem_of_getElem? (i := 155) rfl)) (by decide) at_231 rfl [(.int (0 : Int32))] [(.int (0 : Int32)), (.ref oo), (.ref oo)] pd0_5 rfl rfl rfl 3 rfl (by decide) (by decide) (by decide) (by decide) (pc' := 234) rfl
  obtain ⟨_, _, ⟨rfl, rfl⟩, H⟩ := H
  replace H : K 234 #[.val (.int x0), .val (.int x1), .val (.int x2), .val (.int x3), .val (.int x4), .val (.int x5), .val (.int len), .val (.int cnt), .val (.int t0), .val (.int t1), .val (.int xx), .val (.int rr), .val (.ref gm), .val (.ref sg), .val (.int rv), .unset, .unset, .unset] [(.int (own_n qo 0)), (.int (0 : Int32)), (.ref oo), (.ref oo)] h_oo 25 92 := H
  replace H := k_iastore C H V_oo (i := 0) (by decide) (by decide) n_oo at_234 (pc' := 235) rfl
  obtain ⟨q17, W_q17, V_oo, H⟩ := H
  replace V_oo : Ari Z q17 oo .int 4 (lf [(own_n qo 0), (0 : Int32), (0 : Int32), (0 : Int32)]) := V_oo.congr (fun k _ => lf_set _ _ _ (Nat.le_of_ble_eq_true rfl) k)
  replace X_sg := X_sg.wr W_q17
  replace FO := FO.other W_q17 (Or.inl ne_sg_oo)
  replace FQ := FQ.other W_q17 (Or.inl ne_sg_oo)
  replace FB := FB.other W_q17 (Or.inl ne_sg_oo)
  replace AO := AO.other W_q17 ne_od_oo
  replace AP2 := AP2.other W_q17 ne_ps_oo
  have Z_q17 : n0 ≤ q17.size := by rw [W_q17.size]; exact Z_h_oo
  replace H := k_dup C H at_235 rfl (pc' := 236) rfl
  replace H := k_iconst C H (v := 1) at_236 rfl (pc' := 237) rfl
  replace H := k_aload C H at_237 rfl rfl (pc' := 239) rfl
  replace H := k_iconst C H (v := 1) at_239 rfl (pc' := 240) rfl
  replace H := k_callVir C H (rmX l Z a0 hw sg (1 : Int32) q17 n0 od _ 1 FO AO (by decide) (by decide)) X_sg (hw _ (List.mem_of_getElem? (i := 151) rfl)) (hw _ (List.mem_of_getElem? (i := 152) rfl)) (hw _ (List.mem_of_getElem? (i := 154) rfl)) (hw _ (List.mem_of_getElem? (i := 153) rfl)) (hw _ (List.mem_of_getElem? (i := 67) rfl)) (hw _ (List.mem_of_getElem? (i := 155) rfl)) (by decide) at_240 rfl [(.int (1 : Int32))] [(.int (1 : Int32)), (.ref oo), (.ref oo)] pd0_5 rfl rfl rfl 3 rfl (by decide) (by decide) (by decide) (by decide) (pc' := 243) rfl
  obtain ⟨_, _, ⟨rfl, rfl⟩, H⟩ := H
  replace H : K 243 #[.val (.int x0), .val (.int x1), .val (.int x2), .val (.int x3), .val (.int x4), .val (.int x5), .val (.int len), .val (.int cnt), .val (.int t0), .val (.int t1), .val (.int xx), .val (.int rr), .val (.ref gm), .val (.ref sg), .val (.int rv), .unset, .unset, .unset] [(.int (own_n qo 1)), (.int (1 : Int32)), (.ref oo), (.ref oo)] q17 25 92 := H
  replace H := k_iastore C H V_oo (i := 1) (by decide) (by decide) n_oo at_243 (pc' := 244) rfl
  obtain ⟨q18, W_q18, V_oo, H⟩ := H
  replace V_oo : Ari Z q18 oo .int 4 (lf [(own_n qo 0), (own_n qo 1), (0 : Int32), (0 : Int32)]) := V_oo.congr (fun k _ => lf_set _ _ _ (Nat.le_of_ble_eq_true rfl) k)
  replace X_sg := X_sg.wr W_q18
  replace FO := FO.other W_q18 (Or.inl ne_sg_oo)
  replace FQ := FQ.other W_q18 (Or.inl ne_sg_oo)
  replace FB := FB.other W_q18 (Or.inl ne_sg_oo)
  replace AO := AO.other W_q18 ne_od_oo
  replace AP2 := AP2.other W_q18 ne_ps_oo
  have Z_q18 : n0 ≤ q18.size := by rw [W_q18.size]; exact Z_q17
  replace H := k_dup C H at_244 rfl (pc' := 245) rfl
  replace H := k_iconst C H (v := 2) at_245 rfl (pc' := 246) rfl
  replace H := k_aload C H at_246 rfl rfl (pc' := 248) rfl
  replace H := k_iconst C H (v := 2) at_248 rfl (pc' := 249) rfl
  replace H := k_callVir C H (rmX l Z a0 hw sg (2 : Int32) q18 n0 od _ 2 FO AO (by decide) (by decide)) X_sg (hw _ (List.mem_of_getElem? (i := 151) rfl)) (hw _ (List.mem_of_getElem? (i := 152) rfl)) (hw _ (List.mem_of_getElem? (i := 154) rfl)) (hw _ (List.mem_of_getElem? (i := 153) rfl)) (hw _ (List.mem_of_getElem? (i := 67) rfl)) (hw _ (List.mem_of_getElem? (i := 155) rfl)) (by decide) at_249 rfl [(.int (2 : Int32))] [(.int (2 : Int32)), (.ref oo), (.ref oo)] pd0_5 rfl rfl rfl 3 rfl (by decide) (by decide) (by decide) (by decide) (pc' := 252) rfl
  obtain ⟨_, _, ⟨rfl, rfl⟩, H⟩ := H
  replace H : K 252 #[.val (.int x0), .val (.int x1), .val (.int x2), .val (.int x3), .val (.int x4), .val (.int x5), .val (.int len), .val (.int cnt), .val (.int t0), .val (.int t1), .val (.int xx), .val (.int rr), .val (.ref gm), .val (.ref sg), .val (.int rv), .unset, .unset, .unset] [(.int (own_n qo 2)), (.int (2 : Int32)), (.ref oo), (.ref oo)] q18 25 92 := H
  replace H := k_iastore C H V_oo (i := 2) (by decide) (by decide) n_oo at_252 (pc' := 253) rfl
  obtain ⟨q19, W_q19, V_oo, H⟩ := H
  replace V_oo : Ari Z q19 oo .int 4 (lf [(own_n qo 0), (own_n qo 1), (own_n qo 2), (0 : Int32)]) := V_oo.congr (fun k _ => lf_set _ _ _ (Nat.le_of_ble_eq_true rfl) k)
  replace X_sg := X_sg.wr W_q19
  replace FO := FO.other W_q19 (Or.inl ne_sg_oo)
  replace FQ := FQ.other W_q19 (Or.inl ne_sg_oo)
  replace FB := FB.other W_q19 (Or.inl ne_sg_oo)
  replace AO := AO.other W_q19 ne_od_oo
  replace AP2 := AP2.other W_q19 ne_ps_oo
  have Z_q19 : n0 ≤ q19.size := by rw [W_q19.size]; exact Z_q18
  replace H := k_dup C H at_253 rfl (pc' := 254) rfl
  replace H := k_iconst C H (v := 3) at_254 rfl (pc' := 255) rfl
  replace H := k_aload C H at_255 rfl rfl (pc' := 257) rfl
  replace H := k_iconst C H (v := 3) at_257 rfl (pc' := 258) rfl
  replace H := k_callVir C H (rmX l Z a0 hw sg (3 : Int32) q19 n0 od _ 3 FO AO (by decide) (by decide)) X_sg (hw _ (List.mem_of_getElem? (i := 151) rfl)) (hw _ (List.mem_of_getElem? (i := 152) rfl)) (hw _ (List.mem_of_getElem? (i := 154) rfl)) (hw _ (List.mem_of_getElem? (i := 153) rfl)) (hw _ (List.mem_of_getElem? (i := 67) rfl)) (hw _ (List.mem_of_getElem? (i := 155) rfl)) (by decide) at_258 rfl [(.int (3 : Int32))] [(.int (3 : Int32)), (.ref oo), (.ref oo)] pd0_5 rfl rfl rfl 3 rfl (by decide) (by decide) (by decide) (by decide) (pc' := 261) rfl
  obtain ⟨_, _, ⟨rfl, rfl⟩, H⟩ := H
  replace H : K 261 #[.val (.int x0), .val (.int x1), .val (.int x2), .val (.int x3), .val (.int x4), .val (.int x5), .val (.int len), .val (.int cnt), .val (.int t0), .val (.int t1), .val (.int xx), .val (.int rr), .val (.ref gm), .val (.ref sg), .val (.int rv), .unset, .unset, .unset] [(.int (own_n qo 3)), (.int (3 : Int32)), (.ref oo), (.ref oo)] q19 25 92 := H
  replace H := k_iastore C H V_oo (i := 3) (by decide) (by decide) n_oo at_261 (pc' := 262) rfl
  obtain ⟨q20, W_q20, V_oo, H⟩ := H
  replace V_oo : Ari Z q20 oo .int 4 (lf [(own_n qo 0), (own_n qo 1), (own_n qo 2), (own_n qo 3)]) := V_oo.congr (fun k _ => lf_set _ _ _ (Nat.le_of_ble_eq_true rfl) k)
  replace X_sg := X_sg.wr W_q20
  replace FO := FO.other W_q20 (Or.inl ne_sg_oo)
  replace FQ := FQ.other W_q20 (Or.inl ne_sg_oo)
  replace FB := FB.other W_q20 (Or.inl ne_sg_oo)
  replace AO := AO.other W_q20 ne_od_oo
  replace AP2 := AP2.other W_q20 ne_ps_oo
  have Z_q20 : n0 ≤ q20.size := by rw [W_q20.size]; exact Z_q19
  replace V_oo : Ari Z q20 oo .int 4 (own_n qo) := V_oo.congr (fun k hk => by match k, hk with | 0, _ => rfl | 1, _ => rfl | 2, _ => rfl | 3, _ => rfl)
  replace H := k_astore C H at_262 (L' := #[.val (.int x0), .val (.int x1), .val (.int x2), .val (.int x3), .val (.int x4), .val (.int x5), .val (.int len), .val (.int cnt), .val (.int t0), .val (.int t1), .val (.int xx), .val (.int rr), .val (.ref gm), .val (.ref sg), .val (.int rv), .val (.ref oo), .unset, .unset]) rfl rfl (pc' := 264) rfl
  replace H := k_aload C H at_264 rfl rfl (pc' := 266) rfl
  replace H := k_iload C H at_266 rfl (pc' := 268) rfl
  replace H := k_iload C H at_268 rfl (pc' := 270) rfl
  replace H := k_callVir C H (rmI l Z a0 hw sg xx rr q20 n0 ps (own_n qp) xn FQ AP2 e_xn l_xn) X_sg (hw _ (List.mem_of_getElem? (i := 156) rfl)) (hw _ (List.mem_of_getElem? (i := 157) rfl)) (hw _ (List.mem_of_getElem? (i := 159) rfl)) (hw _ (List.mem_of_getElem? (i := 158) rfl)) (hw _ (List.mem_of_getElem? (i := 67) rfl)) (hw _ (List.mem_of_getElem? (i := 160) rfl)) (by decide) at_270 rfl [(.int xx), (.int rr)] [] pd0_6 rfl rfl rfl 0 rfl (by decide) (by decide) (by decide) (by decide) (pc' := 273) rfl
  obtain ⟨_, _, ⟨rfl, rfl⟩, H⟩ := H
  replace H : K 273 #[.val (.int x0), .val (.int x1), .val (.int x2), .val (.int x3), .val (.int x4), .val (.int x5), .val (.int len), .val (.int cnt), .val (.int t0), .val (.int t1), .val (.int xx), .val (.int rr), .val (.ref gm), .val (.ref sg), .val (.int rv), .val (.ref oo), .unset, .unset] [(.int (own_ins rr (own_n qp) xn))] q20 25 92 := H
  have chk := own_all ⟨ln, l_ln⟩ ⟨cn, l_c3⟩ ⟨n_0, l_n0⟩ ⟨n_1, l_n1⟩ ⟨xn, l_xn⟩ ⟨rn, l_rn⟩ l_cl k_n0 k_n1
  simp only [own_chk, ← e_qo, ← e_qp, Bool.and_eq_true, decide_eq_true_eq] at chk
  obtain ⟨⟨⟨⟨⟨⟨⟨⟨⟨⟨c0, c1⟩, c2⟩, c3⟩, c4⟩, c5⟩, c6⟩, c7⟩, c8⟩, c9⟩, c10⟩ := chk
  replace H := k_istore C H at_273 (L' := #[.val (.int x0), .val (.int x1), .val (.int x2), .val (.int x3), .val (.int x4), .val (.int x5), .val (.int len), .val (.int cnt), .val (.int t0), .val (.int t1), .val (.int xx), .val (.int rr), .val (.ref gm), .val (.ref sg), .val (.int rv), .val (.ref oo), .val (.int (own_ins rr (own_n qp) xn)), .unset]) rfl (pc' := 275) rfl
  replace H := k_iload C H at_275 rfl (pc' := 277) rfl
  replace H := k_iload C H at_277 rfl (pc' := 279) rfl
  replace H := k_iload C H at_279 rfl (pc' := 281) rfl
  replace H := k_isub C H at_281 (pc' := 282) rfl
  replace H := k_icmpY C H at_282 (teq (own_rem e_rv e_ln e_cn l_cl l_ln)).1 (by decide) (pc' := 287) rfl
  replace H := k_aload C H at_287 rfl rfl (pc' := 289) rfl
  replace H := k_iconst C H (v := 0) at_289 rfl (pc' := 290) rfl
  replace H := k_callSta C H (rmH l Z a0 hw oo (0 : Int32) q20 n0 (own_n qo) V_oo) (hw _ (List.mem_of_getElem? (i := 161) rfl)) (hw _ (List.mem_of_getElem? (i := 162) rfl)) (hw _ (List.mem_of_getElem? (i := 163) rfl)) (hw _ (List.mem_of_getElem? (i := 164) rfl)) (by decide) at_290 rfl [(.ref oo), (.int (0 : Int32))] [] pd0_7 rfl rfl rfl 0 rfl (by decide) (by decide) (by decide) (by decide) (pc' := 293) rfl
  obtain ⟨_, _, ⟨rfl, rfl⟩, H⟩ := H
  replace H : K 293 #[.val (.int x0), .val (.int x1), .val (.int x2), .val (.int x3), .val (.int x4), .val (.int x5), .val (.int len), .val (.int cnt), .val (.int t0), .val (.int t1), .val (.int xx), .val (.int rr), .val (.ref gm), .val (.ref sg), .val (.int rv), .val (.ref oo), .val (.int (own_ins rr (own_n qp) xn)), .unset] [(.int (own_has (0 : Int32) (own_n qo)))] q20 25 92 := H
  replace H := k_ifcN C H at_293 (feq (by rw [c0]; decide : ¬ own_has (0 : Int32) (own_n qo) = 0)).1 (pc' := 296) rfl
  replace H := k_aload C H at_296 rfl rfl (pc' := 298) rfl
  replace H := k_iconst C H (v := 1) at_298 rfl (pc' := 299) rfl
  replace H := k_callSta C H (rmH l Z a0 hw oo (1 : Int32) q20 n0 (own_n qo) V_oo) (hw _ (List.mem_of_getElem? (i := 161) rfl)) (hw _ (List.mem_of_getElem? (i := 162) rfl)) (hw _ (List.mem_of_getElem? (i := 163) rfl)) (hw _ (List.mem_of_getElem? (i := 164) rfl)) (by decide) at_299 rfl [(.ref oo), (.int (1 : Int32))] [] pd0_7 rfl rfl rfl 0 rfl (by decide) (by decide) (by decide) (by decide) (pc' := 302) rfl
  obtain ⟨_, _, ⟨rfl, rfl⟩, H⟩ := H
  replace H : K 302 #[.val (.int x0), .val (.int x1), .val (.int x2), .val (.int x3), .val (.int x4), .val (.int x5), .val (.int len), .val (.int cnt), .val (.int t0), .val (.int t1), .val (.int xx), .val (.int rr), .val (.ref gm), .val (.ref sg), .val (.int rv), .val (.ref oo), .val (.int (own_ins rr (own_n qp) xn)), .unset] [(.int (own_has (1 : Int32) (own_n qo)))] q20 25 92 := H
  replace H := k_ifcN C H at_302 (feq (by rw [c1]; decide : ¬ own_has (1 : Int32) (own_n qo) = 0)).1 (pc' := 305) rfl
  replace H := k_aload C H at_305 rfl rfl (pc' := 307) rfl
  replace H := k_iconst C H (v := 2) at_307 rfl (pc' := 308) rfl
  replace H := k_callSta C H (rmH l Z a0 hw oo (2 : Int32) q20 n0 (own_n qo) V_oo) (hw _ (List.mem_of_getElem? (i := 161) rfl)) (hw _ (List.mem_of_getElem? (i := 162) rfl)) (hw _ (List.mem_of_getElem? (i := 163) rfl)) (hw _ (List.mem_of_getElem? (i := 164) rfl)) (by decide) at_308 rfl [(.ref oo), (.int (2 : Int32))] [] pd0_7 rfl rfl rfl 0 rfl (by decide) (by decide) (by decide) (by decide) (pc' := 311) rfl
  obtain ⟨_, _, ⟨rfl, rfl⟩, H⟩ := H
  replace H : K 311 #[.val (.int x0), .val (.int x1), .val (.int x2), .val (.int x3), .val (.int x4), .val (.int x5), .val (.int len), .val (.int cnt), .val (.int t0), .val (.int t1), .val (.int xx), .val (.int rr), .val (.ref gm), .val (.ref sg), .val (.int rv), .val (.ref oo), .val (.int (own_ins rr (own_n qp) xn)), .unset] [(.int (own_has (2 : Int32) (own_n qo)))] q20 25 92 := H
  replace H := k_ifcN C H at_311 (feq (by rw [c2]; decide : ¬ own_has (2 : Int32) (own_n qo) = 0)).1 (pc' := 314) rfl
  replace H := k_aload C H at_314 rfl rfl (pc' := 316) rfl
  replace H := k_iconst C H (v := 3) at_316 rfl (pc' := 317) rfl
  replace H := k_callSta C H (rmH l Z a0 hw oo (3 : Int32) q20 n0 (own_n qo) V_oo) (hw _ (List.mem_of_getElem? (i := 161) rfl)) (hw _ (List.mem_of_getElem? (i := 162) rfl)) (hw _ (List.mem_of_getElem? (i := 163) rfl)) (hw _ (List.mem_of_getElem? (i := 164) rfl)) (by decide) at_317 rfl [(.ref oo), (.int (3 : Int32))] [] pd0_7 rfl rfl rfl 0 rfl (by decide) (by decide) (by decide) (by decide) (pc' := 320) rfl
  obtain ⟨_, _, ⟨rfl, rfl⟩, H⟩ := H
  replace H : K 320 #[.val (.int x0), .val (.int x1), .val (.int x2), .val (.int x3), .val (.int x4), .val (.int x5), .val (.int len), .val (.int cnt), .val (.int t0), .val (.int t1), .val (.int xx), .val (.int rr), .val (.ref gm), .val (.ref sg), .val (.int rv), .val (.ref oo), .val (.int (own_ins rr (own_n qp) xn)), .unset] [(.int (own_has (3 : Int32) (own_n qo)))] q20 25 92 := H
  replace H := k_ifcY C H at_320 (feq (by rw [c3]; decide : ¬ own_has (3 : Int32) (own_n qo) = 0)).2 (by decide) (pc' := 325) rfl
  replace H : K 339 #[.val (.int x0), .val (.int x1), .val (.int x2), .val (.int x3), .val (.int x4), .val (.int x5), .val (.int len), .val (.int cnt), .val (.int t0), .val (.int t1), .val (.int xx), .val (.int rr), .val (.ref gm), .val (.ref sg), .val (.int rv), .val (.ref oo), .val (.int (own_ins rr (own_n qp) xn)), .unset] [] q20 25 92 := by
    replace H := k_iload C H at_325 rfl (pc' := 327) rfl
    by_cases hc327 : (0 : Int32) < len
    · replace H := k_ifcY C H at_327 (tlt hc327).2.2.1 (by decide) (pc' := 339) rfl
      exact H
    · replace H := k_ifcN C H at_327 (flt hc327).2.2.1 (pc' := 330) rfl
      replace H := k_aload C H at_330 rfl rfl (pc' := 332) rfl
      replace H := k_iconst C H (v := 0) at_332 rfl (pc' := 333) rfl
      replace H := k_iaload C H V_oo (i := 0) (by decide) (by decide) at_333 (pc' := 334) rfl
      replace H := k_ifcY C H at_334 (teq (c4 (own_le4 0 hc327 e_ln (by decide)))).1 (by decide) (pc' := 339) rfl
      exact H
  replace H : K 355 #[.val (.int x0), .val (.int x1), .val (.int x2), .val (.int x3), .val (.int x4), .val (.int x5), .val (.int len), .val (.int cnt), .val (.int t0), .val (.int t1), .val (.int xx), .val (.int rr), .val (.ref gm), .val (.ref sg), .val (.int rv), .val (.ref oo), .val (.int (own_ins rr (own_n qp) xn)), .unset] [] q20 25 92 := by
    replace H := k_iload C H at_339 rfl (pc' := 341) rfl
    replace H := k_iconst C H (v := 1) at_341 rfl (pc' := 342) rfl
    by_cases hc342 : (1 : Int32) < len
    · replace H := k_icmpY C H at_342 (tlt hc342).2.2.1 (by decide) (pc' := 355) rfl
      exact H
    · replace H := k_icmpN C H at_342 (flt hc342).2.2.1 (pc' := 345) rfl
      replace H := k_aload C H at_345 rfl rfl (pc' := 347) rfl
      replace H := k_iconst C H (v := 1) at_347 rfl (pc' := 348) rfl
      replace H := k_iaload C H V_oo (i := 1) (by decide) (by decide) at_348 (pc' := 349) rfl
      replace H := k_iconst C H (v := 1) at_349 rfl (pc' := 350) rfl
      replace H := k_icmpY C H at_350 (teq (c5 (own_le4 1 hc342 e_ln (by decide)))).1 (by decide) (pc' := 355) rfl
      exact H
  replace H : K 371 #[.val (.int x0), .val (.int x1), .val (.int x2), .val (.int x3), .val (.int x4), .val (.int x5), .val (.int len), .val (.int cnt), .val (.int t0), .val (.int t1), .val (.int xx), .val (.int rr), .val (.ref gm), .val (.ref sg), .val (.int rv), .val (.ref oo), .val (.int (own_ins rr (own_n qp) xn)), .unset] [] q20 25 92 := by
    replace H := k_iload C H at_355 rfl (pc' := 357) rfl
    replace H := k_iconst C H (v := 2) at_357 rfl (pc' := 358) rfl
    by_cases hc358 : (2 : Int32) < len
    · replace H := k_icmpY C H at_358 (tlt hc358).2.2.1 (by decide) (pc' := 371) rfl
      exact H
    · replace H := k_icmpN C H at_358 (flt hc358).2.2.1 (pc' := 361) rfl
      replace H := k_aload C H at_361 rfl rfl (pc' := 363) rfl
      replace H := k_iconst C H (v := 2) at_363 rfl (pc' := 364) rfl
      replace H := k_iaload C H V_oo (i := 2) (by decide) (by decide) at_364 (pc' := 365) rfl
      replace H := k_iconst C H (v := 2) at_365 rfl (pc' := 366) rfl
      replace H := k_icmpY C H at_366 (teq (c6 (own_le4 2 hc358 e_ln (by decide)))).1 (by decide) (pc' := 371) rfl
      exact H
  replace H : K 387 #[.val (.int x0), .val (.int x1), .val (.int x2), .val (.int x3), .val (.int x4), .val (.int x5), .val (.int len), .val (.int cnt), .val (.int t0), .val (.int t1), .val (.int xx), .val (.int rr), .val (.ref gm), .val (.ref sg), .val (.int rv), .val (.ref oo), .val (.int (own_ins rr (own_n qp) xn)), .unset] [] q20 25 92 := by
    replace H := k_iload C H at_371 rfl (pc' := 373) rfl
    replace H := k_iconst C H (v := 3) at_373 rfl (pc' := 374) rfl
    by_cases hc374 : (3 : Int32) < len
    · replace H := k_icmpY C H at_374 (tlt hc374).2.2.1 (by decide) (pc' := 387) rfl
      exact H
    · replace H := k_icmpN C H at_374 (flt hc374).2.2.1 (pc' := 377) rfl
      replace H := k_aload C H at_377 rfl rfl (pc' := 379) rfl
      replace H := k_iconst C H (v := 3) at_379 rfl (pc' := 380) rfl
      replace H := k_iaload C H V_oo (i := 3) (by decide) (by decide) at_380 (pc' := 381) rfl
      replace H := k_iconst C H (v := 3) at_381 rfl (pc' := 382) rfl
      replace H := k_icmpY C H at_382 (teq (c7 (own_le4 3 hc374 e_ln (by decide)))).1 (by decide) (pc' := 387) rfl
      exact H
  replace H : K 407 #[.val (.int x0), .val (.int x1), .val (.int x2), .val (.int x3), .val (.int x4), .val (.int x5), .val (.int len), .val (.int cnt), .val (.int t0), .val (.int t1), .val (.int xx), .val (.int rr), .val (.ref gm), .val (.ref sg), .val (.int rv), .val (.ref oo), .val (.int (own_ins rr (own_n qp) xn)), .unset] [] q20 25 92 := by
    replace H := k_iload C H at_387 rfl (pc' := 389) rfl
    replace H := k_iconst C H (v := 1) at_389 rfl (pc' := 390) rfl
    by_cases hc390 : cnt = (1 : Int32)
    · replace H := k_icmpN C H at_390 (teq hc390).2 (pc' := 393) rfl
      replace H := k_aload C H at_393 rfl rfl (pc' := 395) rfl
      replace H := k_iload C H at_395 rfl (pc' := 397) rfl
      replace H := k_iconst C H (v := 1) at_397 rfl (pc' := 398) rfl
      replace H := k_isub C H at_398 (pc' := 399) rfl
      replace H := k_iaload C H V_oo (i := ln - 1) (own_pre e_ln (own_eqn 1 hc390 e_cn (by decide) ▸ l_cl) l_ln) (own_s1 l_ln) at_399 (pc' := 400) rfl
      replace H := k_iload C H at_400 rfl (pc' := 402) rfl
      replace H := k_icmpY C H at_402 (teq ((c8 (own_eqn 1 hc390 e_cn (by decide))).trans z0.symm)).1 (by decide) (pc' := 407) rfl
      exact H
    · replace H := k_icmpY C H at_390 (feq hc390).2 (by decide) (pc' := 407) rfl
      exact H
  have c11 : own_ins rr (own_n qp) xn = own_inp xx rr (own_n qo) := by rw [own_ofn e_rn l_rn, own_ofn e_xn (own_45 l_xn)]; exact c10
  replace H := k_iload C H at_407 rfl (pc' := 409) rfl
  replace H := k_iconst C H (v := 2) at_409 rfl (pc' := 410) rfl
  by_cases hc410 : cnt = (2 : Int32)
  · replace H := k_icmpN C H at_410 (teq hc410).2 (pc' := 413) rfl
    have cn2 : cn = 2 := own_eqn 2 hc410 e_cn (by decide)
    have l2 : 2 ≤ ln := cn2 ▸ l_cl
    have tne : ¬ t1 = t0 := own_tne e_n0 e_n1 (k_n1 l2).2
    rcases c9 cn2 with ⟨y1, y2⟩ | ⟨y1, y2⟩
    · replace H := k_aload C H at_413 rfl rfl (pc' := 415) rfl
      replace H := k_iload C H at_415 rfl (pc' := 417) rfl
      replace H := k_iconst C H (v := 2) at_417 rfl (pc' := 418) rfl
      replace H := k_isub C H at_418 (pc' := 419) rfl
      replace H := k_iaload C H V_oo (i := ln - 2) (own_pre2 e_ln l2 l_ln) (own_s2 l_ln) at_419 (pc' := 420) rfl
      replace H := k_iload C H at_420 rfl (pc' := 422) rfl
      replace H := k_icmpN C H at_422 (teq (y1.trans z0.symm)).2 (pc' := 425) rfl
      replace H := k_aload C H at_425 rfl rfl (pc' := 427) rfl
      replace H := k_iload C H at_427 rfl (pc' := 429) rfl
      replace H := k_iconst C H (v := 1) at_429 rfl (pc' := 430) rfl
      replace H := k_isub C H at_430 (pc' := 431) rfl
      replace H := k_iaload C H V_oo (i := ln - 1) (own_pre e_ln (Nat.le_trans (by decide) l2) l_ln) (own_s1 l_ln) at_431 (pc' := 432) rfl
      replace H := k_iload C H at_432 rfl (pc' := 434) rfl
      replace H := k_icmpY C H at_434 (teq (y2.trans z1.symm)).1 (by decide) (pc' := 461) rfl
      replace H := k_iconst C H (v := 1) at_461 rfl (pc' := 462) rfl
      replace H := k_goto C H at_462 (by decide) (pc' := 466) rfl
      replace H := k_istore C H at_466 (L' := #[.val (.int x0), .val (.int x1), .val (.int x2), .val (.int x3), .val (.int x4), .val (.int x5), .val (.int len), .val (.int cnt), .val (.int t0), .val (.int t1), .val (.int xx), .val (.int rr), .val (.ref gm), .val (.ref sg), .val (.int rv), .val (.ref oo), .val (.int (own_ins rr (own_n qp) xn)), .val (.int (1 : Int32))]) rfl (pc' := 468) rfl
      replace H := k_iload C H at_468 rfl (pc' := 470) rfl
      replace H := k_ifcY C H at_470 (feq (by decide : ¬ (1 : Int32) = 0)).2 (by decide) (pc' := 475) rfl
      replace H := k_iload C H at_475 rfl (pc' := 477) rfl
      replace H := k_aload C H at_477 rfl rfl (pc' := 479) rfl
      replace H := k_iload C H at_479 rfl (pc' := 481) rfl
      replace H := k_iload C H at_481 rfl (pc' := 483) rfl
      replace H := k_callSta C H (rmN l Z a0 hw oo xx rr q20 n0 (own_n qo) V_oo) (hw _ (List.mem_of_getElem? (i := 165) rfl)) (hw _ (List.mem_of_getElem? (i := 166) rfl)) (hw _ (List.mem_of_getElem? (i := 163) rfl)) (hw _ (List.mem_of_getElem? (i := 167) rfl)) (by decide) at_483 rfl [(.ref oo), (.int xx), (.int rr)] [(.int (own_ins rr (own_n qp) xn))] pd0_8 rfl rfl rfl 1 rfl (by decide) (by decide) (by decide) (by decide) (pc' := 486) rfl
      obtain ⟨_, _, ⟨rfl, rfl⟩, H⟩ := H
      replace H : K 486 #[.val (.int x0), .val (.int x1), .val (.int x2), .val (.int x3), .val (.int x4), .val (.int x5), .val (.int len), .val (.int cnt), .val (.int t0), .val (.int t1), .val (.int xx), .val (.int rr), .val (.ref gm), .val (.ref sg), .val (.int rv), .val (.ref oo), .val (.int (own_ins rr (own_n qp) xn)), .val (.int (1 : Int32))] [(.int (own_inp xx rr (own_n qo))), (.int (own_ins rr (own_n qp) xn))] q20 25 92 := H
      replace H := k_icmpN C H at_486 (teq c11).2 (pc' := 489) rfl
      replace H := k_iconst C H (v := 1) at_489 rfl (pc' := 490) rfl
      replace H := k_goto C H at_490 (by decide) (pc' := 494) rfl
      exact k_retZ C H at_494 (by decide) (by decide) (by decide) rfl
    · replace H := k_aload C H at_413 rfl rfl (pc' := 415) rfl
      replace H := k_iload C H at_415 rfl (pc' := 417) rfl
      replace H := k_iconst C H (v := 2) at_417 rfl (pc' := 418) rfl
      replace H := k_isub C H at_418 (pc' := 419) rfl
      replace H := k_iaload C H V_oo (i := ln - 2) (own_pre2 e_ln l2 l_ln) (own_s2 l_ln) at_419 (pc' := 420) rfl
      replace H := k_iload C H at_420 rfl (pc' := 422) rfl
      replace H := k_icmpY C H at_422 (feq (fun q => tne ((y1.trans z1.symm).symm.trans q))).2 (by decide) (pc' := 437) rfl
      replace H := k_aload C H at_437 rfl rfl (pc' := 439) rfl
      replace H := k_iload C H at_439 rfl (pc' := 441) rfl
      replace H := k_iconst C H (v := 2) at_441 rfl (pc' := 442) rfl
      replace H := k_isub C H at_442 (pc' := 443) rfl
      replace H := k_iaload C H V_oo (i := ln - 2) (own_pre2 e_ln l2 l_ln) (own_s2 l_ln) at_443 (pc' := 444) rfl
      replace H := k_iload C H at_444 rfl (pc' := 446) rfl
      replace H := k_icmpN C H at_446 (teq (y1.trans z1.symm)).2 (pc' := 449) rfl
      replace H := k_aload C H at_449 rfl rfl (pc' := 451) rfl
      replace H := k_iload C H at_451 rfl (pc' := 453) rfl
      replace H := k_iconst C H (v := 1) at_453 rfl (pc' := 454) rfl
      replace H := k_isub C H at_454 (pc' := 455) rfl
      replace H := k_iaload C H V_oo (i := ln - 1) (own_pre e_ln (Nat.le_trans (by decide) l2) l_ln) (own_s1 l_ln) at_455 (pc' := 456) rfl
      replace H := k_iload C H at_456 rfl (pc' := 458) rfl
      replace H := k_icmpN C H at_458 (teq (y2.trans z0.symm)).2 (pc' := 461) rfl
      replace H := k_iconst C H (v := 1) at_461 rfl (pc' := 462) rfl
      replace H := k_goto C H at_462 (by decide) (pc' := 466) rfl
      replace H := k_istore C H at_466 (L' := #[.val (.int x0), .val (.int x1), .val (.int x2), .val (.int x3), .val (.int x4), .val (.int x5), .val (.int len), .val (.int cnt), .val (.int t0), .val (.int t1), .val (.int xx), .val (.int rr), .val (.ref gm), .val (.ref sg), .val (.int rv), .val (.ref oo), .val (.int (own_ins rr (own_n qp) xn)), .val (.int (1 : Int32))]) rfl (pc' := 468) rfl
      replace H := k_iload C H at_468 rfl (pc' := 470) rfl
      replace H := k_ifcY C H at_470 (feq (by decide : ¬ (1 : Int32) = 0)).2 (by decide) (pc' := 475) rfl
      replace H := k_iload C H at_475 rfl (pc' := 477) rfl
      replace H := k_aload C H at_477 rfl rfl (pc' := 479) rfl
      replace H := k_iload C H at_479 rfl (pc' := 481) rfl
      replace H := k_iload C H at_481 rfl (pc' := 483) rfl
      replace H := k_callSta C H (rmN l Z a0 hw oo xx rr q20 n0 (own_n qo) V_oo) (hw _ (List.mem_of_getElem? (i := 165) rfl)) (hw _ (List.mem_of_getElem? (i := 166) rfl)) (hw _ (List.mem_of_getElem? (i := 163) rfl)) (hw _ (List.mem_of_getElem? (i := 167) rfl)) (by decide) at_483 rfl [(.ref oo), (.int xx), (.int rr)] [(.int (own_ins rr (own_n qp) xn))] pd0_8 rfl rfl rfl 1 rfl (by decide) (by decide) (by decide) (by decide) (pc' := 486) rfl
      obtain ⟨_, _, ⟨rfl, rfl⟩, H⟩ := H
      replace H : K 486 #[.val (.int x0), .val (.int x1), .val (.int x2), .val (.int x3), .val (.int x4), .val (.int x5), .val (.int len), .val (.int cnt), .val (.int t0), .val (.int t1), .val (.int xx), .val (.int rr), .val (.ref gm), .val (.ref sg), .val (.int rv), .val (.ref oo), .val (.int (own_ins rr (own_n qp) xn)), .val (.int (1 : Int32))] [(.int (own_inp xx rr (own_n qo))), (.int (own_ins rr (own_n qp) xn))] q20 25 92 := H
      replace H := k_icmpN C H at_486 (teq c11).2 (pc' := 489) rfl
      replace H := k_iconst C H (v := 1) at_489 rfl (pc' := 490) rfl
      replace H := k_goto C H at_490 (by decide) (pc' := 494) rfl
      exact k_retZ C H at_494 (by decide) (by decide) (by decide) rfl
  · replace H := k_icmpY C H at_410 (feq hc410).2 (by decide) (pc' := 475) rfl
    replace H := k_iload C H at_475 rfl (pc' := 477) rfl
    replace H := k_aload C H at_477 rfl rfl (pc' := 479) rfl
    replace H := k_iload C H at_479 rfl (pc' := 481) rfl
    replace H := k_iload C H at_481 rfl (pc' := 483) rfl
    replace H := k_callSta C H (rmN l Z a0 hw oo xx rr q20 n0 (own_n qo) V_oo) (hw _ (List.mem_of_getElem? (i := 165) rfl)) (hw _ (List.mem_of_getElem? (i := 166) rfl)) (hw _ (List.mem_of_getElem? (i := 163) rfl)) (hw _ (List.mem_of_getElem? (i := 167) rfl)) (by decide) at_483 rfl [(.ref oo), (.int xx), (.int rr)] [(.int (own_ins rr (own_n qp) xn))] pd0_8 rfl rfl rfl 1 rfl (by decide) (by decide) (by decide) (by decide) (pc' := 486) rfl
    obtain ⟨_, _, ⟨rfl, rfl⟩, H⟩ := H
    replace H : K 486 #[.val (.int x0), .val (.int x1), .val (.int x2), .val (.int x3), .val (.int x4), .val (.int x5), .val (.int len), .val (.int cnt), .val (.int t0), .val (.int t1), .val (.int xx), .val (.int rr), .val (.ref gm), .val (.ref sg), .val (.int rv), .val (.ref oo), .val (.int (own_ins rr (own_n qp) xn)), .unset] [(.int (own_inp xx rr (own_n qo))), (.int (own_ins rr (own_n qp) xn))] q20 25 92 := H
    replace H := k_icmpN C H at_486 (teq c11).2 (pc' := 489) rfl
    replace H := k_iconst C H (v := 1) at_489 rfl (pc' := 490) rfl
    replace H := k_goto C H at_490 (by decide) (pc' := 494) rfl
    exact k_retZ C H at_494 (by decide) (by decide) (by decide) rfl
set_option maxRecDepth 65536 in
set_option maxHeartbeats 40000000 in
theorem comes_1 {Post : Tables → Env → Array Value → State → Outcome → State → Prop} (hpost : ∀ tb e args s v u, (limb_1_1.after args s (.returned v) u = true ∧ limb_1_2.after args s (.returned v) u = true) → FrameEnd s (.returned v) u (Jvm.fieldLocs frame_1_writes args s ++ Jvm.arrayLocs frame_1_arrays args s ++ Jvm.staticLocs frame_1_statics s) 64 256 → Post tb e args s (.returned v) u) :
    ArmFor flags0 classFile x code maxLocals ret World_1 tables_1 room_1 Calls_1 rest_1 Pre_1 Post := by
  intro l hfl _ _ p e ha hc hk s m args below hf hA hF happ hP
  obtain ⟨hcalls, hrest, hpre⟩ := hP
  obtain ⟨-, -, -, hnamed, -, -, -, hat⟩ := (Spec.applies_iff hf).mp happ
  obtain ⟨hg, hn⟩ := and_e (Cond.before_iff.mp (show (Jvm.Cond.and given_1 narrow_1).before args s = true from hpre))
  obtain ⟨g0, r0⟩ := and_e hg
  obtain ⟨g1, r1⟩ := and_e r0
  obtain ⟨g2, r2⟩ := and_e r1
  obtain ⟨g3, r3⟩ := and_e r2
  obtain ⟨g4, r4⟩ := and_e r3
  obtain ⟨g5, r5⟩ := and_e r4
  obtain ⟨w0, w1, w2, w3, w4, w5, rfl⟩ : ∃ w0 w1 w2 w3 w4 w5 : Value, args = #[w0, w1, w2, w3, w4, w5] := by
    have hs : args.size = 6 := by simpa [Cond.value, given_1] using g0
    obtain ⟨L⟩ := args
    match L, hs with
    | [w0, w1, w2, w3, w4, w5], _ => exact ⟨w0, w1, w2, w3, w4, w5, rfl⟩
  have hw := fun d (hd : d ∈ tables_1) => atoms_spec (ws := Jvm.Cond.code x code maxLocals ret :: tables_1) hat d (List.mem_cons_of_mem _ hd)
  obtain ⟨i0, ei0⟩ := is_v g1
  obtain rfl : w0 = (.int i0) := Option.some.inj ei0
  obtain ⟨i1, ei1⟩ := is_v g2
  obtain rfl : w1 = (.int i1) := Option.some.inj ei1
  obtain ⟨i2, ei2⟩ := is_v g3
  obtain rfl : w2 = (.int i2) := Option.some.inj ei2
  obtain ⟨i3, ei3⟩ := is_v g4
  obtain rfl : w3 = (.int i3) := Option.some.inj ei3
  obtain ⟨i4, ei4⟩ := is_v g5
  obtain rfl : w4 = (.int i4) := Option.some.inj ei4
  obtain ⟨i5, ei5⟩ := is_v r5
  obtain rfl : w5 = (.int i5) := Option.some.inj ei5
  obtain ⟨n, o, h1, h2, h3, _, L, rfl, ⟨rfl, N⟩, hq⟩ := rm0 l s _ hw i0 i1 i2 i3 i4 i5 s.heap s.heap.size (Nat.le_refl _) tables_1 p e ha hc hk s m _ below hf ((Spec.applies_iff_loose hf).mp happ).1 ⟨rfl, State.Warmed39.refl s, rfl⟩ trivial
  refine ⟨n, _, h1, h2, h3, hpost _ _ _ _ _ _ ⟨Cond.after_iff.mpr rfl, Cond.after_iff.mpr (eq_i res_at (Term.int_eval (1)) rfl)⟩ ⟨hq.1, hq.2.1, (hq.2.2.sift fun y hy => Or.inr (N y hy)).mono (by decide) (by decide)⟩⟩
theorem main_1_1 : Claimed_1_1 := comes_1 fun _ _ _ _ _ _ h hF => ⟨h.1, hF⟩
theorem main_1_2 : Claimed_1_2 := comes_1 fun _ _ _ _ _ _ h hF => ⟨h.2, hF⟩
end Jvm.Pilot.@@N@@
namespace Jvm.Pilot.@@N@@
open Jvm Jvm.ClassFile Sem Op Lib Jvm.Free Jvm.Stand Jvm.Pilot.@@N@@.Jvm.D
/-! MADE BY PROGRAM (witnessworld.py) out of the Statement's table words and the real class files: 15 classes; the members and pool entries that the words name. The judged class is class 1, her method 1. -/
namespace start1
open Jvm.ClassFile
def u (s : String) : CpInfo := .utf8 (stringToUtf16 s)
/-- a pool by its gaps: so many unusable entries, then the entry; so many at the end -/
def gap : Nat → List CpInfo → List CpInfo
  | 0, r => r
  | n + 1, r => .unusable :: gap n r
def poolList (es : List (Nat × CpInfo)) (last : Nat) : List CpInfo := es.foldr (fun e r => gap e.1 (e.2 :: r)) (gap last [])
def pool (es : List (Nat × CpInfo)) (last : Nat) : Array CpInfo := ⟨poolList es last⟩
def fileOf (pool : Array CpInfo) (this : Nat) (attrs : Array Attribute := #[]) (ms : Array MethodInfo := #[]) (fl : Nat := 33) (sup : Nat := 0) (ifs : Array Nat := #[]) (fds : Array FieldInfo := #[]) : ClassFile where
  minorVersion := 0
  majorVersion := 65
  constantPool := pool
  accessFlags := fl
  thisClass := this
  superClass := sup
  interfaces := ifs
  fields := fds
  methods := ms
  attributes := attrs
def plain (name : String) (sup : Option ClassId) : Class where
  name := name
  kind := .ordinary
  loader := none
  accessFlags := 33
  super := sup
  interfaces := #[]
  cf := none
  fields := #[]
  methods := #[]
  instanceTypes := #[]
  staticTypes := #[]
  resolved := #[]
  callSites := []
  init := .initialized
  statics := none
  mirror := none

def pool0 : Array CpInfo := pool [(5, u "<init>"), (0, u "()V"), (1, .class_ 10), (1, u "java/lang/Object"), (85, u "clone"), (0, u "()Ljava/lang/Object;")] 26

def k0c0 : Code := { maxStack := 0, maxLocals := 1, code := object_method_1_code, exceptionTable := #[], attributes := #[] }
def k0m0 : Method := { name := "<init>", desc := "()V", sig := { parameters := [], returnType := none }, accessFlags := 1, code := some k0c0 }
def k0m1 : Method := { name := "clone", desc := "()Ljava/lang/Object;", sig := { parameters := [], returnType := some (.object "java/lang/Object") }, accessFlags := 260, code := none }
/-- java/lang/Object -/
def k0 : Class := { plain "java/lang/Object" none with
  accessFlags := 33
  interfaces := #[]
  cf := some (fileOf pool0 8 #[] #[{ accessFlags := 1, nameIndex := 5, descriptorIndex := 6, attributes := #[] }, { accessFlags := 260, nameIndex := 96, descriptorIndex := 97, attributes := #[] }] 33 0 #[] #[])
  fields := #[]
  methods := #[k0m0, k0m1]
  instanceTypes := #[]
  staticTypes := #[]
  resolved := Array.replicate 124 none
  statics := none }

def pool1 : Array CpInfo := pool [(2, .class_ 4), (1, u "java/lang/Object"), (0, u "<init>"), (0, u "()V"), (0, .integer 2147483647), (0, .methodref 9 10), (0, .class_ 11), (0, .nameAndType 12 13), (0, u "java/lang/Math"), (0, u "min"), (0, u "(II)I"), (0, .class_ 15), (0, u "com/example/equilibrate/equilibrate/model/ParityGame"), (0, .class_ 17), (0, u "[I"), (0, .methodref 14 19), (0, .nameAndType 5 20), (0, u "([I[I[[II)V"), (0, .class_ 22), (0, u "com/example/equilibrate/equilibrate/solver/Subgames"), (0, .class_ 24), (0, u "com/example/equilibrate/equilibrate/solver/Predecessors"), (0, .methodref 23 26), (0, .nameAndType 5 27), (0, u "(Lcom/example/equilibrate/equilibrate/model/ParityGame;)V"), (0, .methodref 21 29), (0, .nameAndType 5 30), (0, u "(Lcom/example/equilibrate/equilibrate/model/ParityGame;Lcom/example/equilibrate/equilibrate/solver/Predecessors;)V"), (0, .methodref 21 32), (0, .nameAndType 33 34), (0, u "setTarget"), (0, u "(II)V"), (0, .methodref 21 36), (0, .nameAndType 37 13), (0, u "remove"), (0, .methodref 21 39), (0, .nameAndType 40 41), (0, u "vertexAt"), (0, u "(I)I"), (0, .methodref 21 43), (0, .nameAndType 44 45), (0, u "isInside"), (0, u "(II)Z"), (0, .methodref 47 48), (0, .class_ 49), (0, .nameAndType 50 51), (0, u "com/example/equilibrate/equilibrate/solver/SubgamesRemovePinLaw"), (0, u "has"), (0, u "([II)Z"), (0, .methodref 47 53), (0, .nameAndType 54 55), (0, u "inPrefix"), (0, u "([III)Z"), (2, u "law"), (0, u "(IIIIII)Z")] 3

def k1m0 : Method := { name := "<init>", desc := "()V", sig := { parameters := [], returnType := none }, accessFlags := 1, code := none }
def k1c1 : Code := { maxStack := 11, maxLocals := 18, code := code, exceptionTable := #[], attributes := #[] }
def k1m1 : Method := { name := "law", desc := "(IIIIII)Z", sig := { parameters := [.int, .int, .int, .int, .int, .int], returnType := some .boolean }, accessFlags := 9, code := some k1c1 }
def k1c2 : Code := { maxStack := 2, maxLocals := 2, code := method_3_code, exceptionTable := #[], attributes := #[] }
def k1m2 : Method := { name := "has", desc := "([II)Z", sig := { parameters := [(.array .int), .int], returnType := some .boolean }, accessFlags := 10, code := some k1c2 }
def k1c3 : Code := { maxStack := 2, maxLocals := 3, code := method_4_code, exceptionTable := #[], attributes := #[] }
def k1m3 : Method := { name := "inPrefix", desc := "([III)Z", sig := { parameters := [(.array .int), .int, .int], returnType := some .boolean }, accessFlags := 10, code := some k1c3 }
/-- com/example/equilibrate/equilibrate/solver/SubgamesRemovePinLaw -/
def k1 : Class := { plain "com/example/equilibrate/equilibrate/solver/SubgamesRemovePinLaw" (some 0) with
  accessFlags := 49
  interfaces := #[]
  cf := some (fileOf pool1 47 #[] #[{ accessFlags := 1, nameIndex := 5, descriptorIndex := 6, attributes := #[] }, { accessFlags := 9, nameIndex := 58, descriptorIndex := 59, attributes := #[] }, { accessFlags := 10, nameIndex := 50, descriptorIndex := 51, attributes := #[] }, { accessFlags := 10, nameIndex := 54, descriptorIndex := 55, attributes := #[] }] 49 2 #[] #[])
  fields := #[]
  methods := #[k1m0, k1m1, k1m2, k1m3]
  instanceTypes := #[]
  staticTypes := #[]
  resolved := Array.replicate 63 none
  statics := none }

def pool2 : Array CpInfo := pool [(1, .class_ 2), (0, u "java/lang/Math"), (1, .class_ 6), (1, u "java/lang/Object"), (0, u "<init>"), (0, u "()V"), (89, .class_ 100), (1, u "java/lang/Math$RandomNumberGeneratorHolder"), (71, u "negativeZeroFloatBits"), (0, u "J"), (2, u "negativeZeroDoubleBits"), (24, u "min"), (43, u "$assertionsDisabled"), (0, u "Z"), (88, u "(II)I"), (2, u "twoToTheDoubleScaleDown"), (0, u "D"), (4, u "twoToTheDoubleScaleUp"), (9, u "E"), (3, u "PI"), (2, u "TAU"), (2, u "DEGREES_TO_RADIANS"), (0, u "RADIANS_TO_DEGREES")] 94

def k2m0 : Method := { name := "<init>", desc := "()V", sig := { parameters := [], returnType := none }, accessFlags := 2, code := none }
def k2c1 : Code := { maxStack := 2, maxLocals := 2, code := jdk_29_method_69_code, exceptionTable := #[], attributes := #[] }
def k2m1 : Method := { name := "min", desc := "(II)I", sig := { parameters := [.int, .int], returnType := some .int }, accessFlags := 9, code := some k2c1 }
/-- java/lang/Math -/
def k2 : Class := { plain "java/lang/Math" (some 0) with
  accessFlags := 49
  interfaces := #[]
  cf := some (fileOf pool2 1 #[.nestMembers #[98]] #[{ accessFlags := 2, nameIndex := 7, descriptorIndex := 8, attributes := #[] }, { accessFlags := 9, nameIndex := 201, descriptorIndex := 335, attributes := #[] }] 49 4 #[] #[{ accessFlags := 25, nameIndex := 354, descriptorIndex := 339, attributes := #[] }, { accessFlags := 25, nameIndex := 358, descriptorIndex := 339, attributes := #[] }, { accessFlags := 25, nameIndex := 361, descriptorIndex := 339, attributes := #[] }, { accessFlags := 26, nameIndex := 364, descriptorIndex := 339, attributes := #[] }, { accessFlags := 26, nameIndex := 365, descriptorIndex := 339, attributes := #[] }, { accessFlags := 26, nameIndex := 172, descriptorIndex := 173, attributes := #[] }, { accessFlags := 26, nameIndex := 176, descriptorIndex := 173, attributes := #[] }, { accessFlags := 8, nameIndex := 344, descriptorIndex := 339, attributes := #[] }, { accessFlags := 8, nameIndex := 338, descriptorIndex := 339, attributes := #[] }, { accessFlags := 4120, nameIndex := 245, descriptorIndex := 246, attributes := #[] }])
  fields := #[{ name := "E", type := .double, accessFlags := 25, slot := 0, constantValue := 0 }, { name := "PI", type := .double, accessFlags := 25, slot := 1, constantValue := 0 }, { name := "TAU", type := .double, accessFlags := 25, slot := 2, constantValue := 0 }, { name := "DEGREES_TO_RADIANS", type := .double, accessFlags := 26, slot := 3, constantValue := 0 }, { name := "RADIANS_TO_DEGREES", type := .double, accessFlags := 26, slot := 4, constantValue := 0 }, { name := "negativeZeroFloatBits", type := .long, accessFlags := 26, slot := 5, constantValue := 0 }, { name := "negativeZeroDoubleBits", type := .long, accessFlags := 26, slot := 6, constantValue := 0 }, { name := "twoToTheDoubleScaleUp", type := .double, accessFlags := 8, slot := 7, constantValue := 0 }, { name := "twoToTheDoubleScaleDown", type := .double, accessFlags := 8, slot := 8, constantValue := 0 }, { name := "$assertionsDisabled", type := .boolean, accessFlags := 4120, slot := 9, constantValue := 0 }]
  methods := #[k2m0, k2m1]
  instanceTypes := #[]
  staticTypes := #[.double, .double, .double, .double, .double, .long, .long, .double, .double, .boolean]
  resolved := Array.replicate 460 none
  statics := none }

def pool3 : Array CpInfo := pool [(1, .methodref 2 3), (0, .class_ 4), (0, .nameAndType 5 6), (0, u "java/lang/Object"), (0, u "<init>"), (0, u "()V"), (9, .methodref 17 18), (0, .class_ 19), (0, .nameAndType 20 21), (0, u "com/example/equilibrate/equilibrate/model/ParityGame"), (0, u "checkVertices"), (0, u "([I[I)V"), (0, .class_ 23), (0, u "com/example/equilibrate/equilibrate/model/Arena"), (0, .methodref 22 25), (0, .nameAndType 5 26), (0, u "([I[[II)V"), (0, .fieldref 17 28), (0, .nameAndType 29 30), (0, u "arena"), (0, u "Lcom/example/equilibrate/equilibrate/model/Arena;"), (0, .methodref 32 33), (0, .class_ 34), (0, .nameAndType 35 36), (0, u "[I"), (0, u "clone"), (0, u "()Ljava/lang/Object;"), (0, .fieldref 17 38), (0, .nameAndType 39 34), (0, u "priorities"), (3, .methodref 22 44), (0, .nameAndType 45 46), (0, u "getEdgeCount"), (0, u "()I"), (3, u "(I)I"), (0, .methodref 22 52), (0, .nameAndType 53 50), (0, u "getSuccessorCount"), (0, .methodref 22 55), (0, .nameAndType 56 57), (0, u "getSuccessor"), (0, u "(II)I"), (10, u "([I[I[[II)V"), (8, u "getVertexCount")] 26

def k3c0 : Code := { maxStack := 6, maxLocals := 5, code := prog_53_method_1_code, exceptionTable := #[], attributes := #[] }
def k3m0 : Method := { name := "<init>", desc := "([I[I[[II)V", sig := { parameters := [(.array .int), (.array .int), (.array (.array .int)), .int], returnType := none }, accessFlags := 1, code := some k3c0 }
def k3c1 : Code := { maxStack := 1, maxLocals := 1, code := prog_53_method_4_code, exceptionTable := #[], attributes := #[] }
def k3m1 : Method := { name := "getVertexCount", desc := "()I", sig := { parameters := [], returnType := some .int }, accessFlags := 1, code := some k3c1 }
def k3c2 : Code := { maxStack := 1, maxLocals := 1, code := prog_53_method_5_code, exceptionTable := #[], attributes := #[] }
def k3m2 : Method := { name := "getEdgeCount", desc := "()I", sig := { parameters := [], returnType := some .int }, accessFlags := 1, code := some k3c2 }
def k3c3 : Code := { maxStack := 2, maxLocals := 2, code := prog_53_method_9_code, exceptionTable := #[], attributes := #[] }
def k3m3 : Method := { name := "getSuccessorCount", desc := "(I)I", sig := { parameters := [.int], returnType := some .int }, accessFlags := 1, code := some k3c3 }
def k3c4 : Code := { maxStack := 3, maxLocals := 3, code := prog_53_method_10_code, exceptionTable := #[], attributes := #[] }
def k3m4 : Method := { name := "getSuccessor", desc := "(II)I", sig := { parameters := [.int, .int], returnType := some .int }, accessFlags := 1, code := some k3c4 }
def k3c5 : Code := { maxStack := 5, maxLocals := 3, code := prog_53_method_12_code, exceptionTable := #[], attributes := #[] }
def k3m5 : Method := { name := "checkVertices", desc := "([I[I)V", sig := { parameters := [(.array .int), (.array .int)], returnType := none }, accessFlags := 10, code := some k3c5 }
/-- com/example/equilibrate/equilibrate/model/ParityGame -/
def k3 : Class := { plain "com/example/equilibrate/equilibrate/model/ParityGame" (some 0) with
  accessFlags := 33
  interfaces := #[]
  cf := some (fileOf pool3 17 #[] #[{ accessFlags := 1, nameIndex := 5, descriptorIndex := 68, attributes := #[] }, { accessFlags := 1, nameIndex := 77, descriptorIndex := 46, attributes := #[] }, { accessFlags := 1, nameIndex := 45, descriptorIndex := 46, attributes := #[] }, { accessFlags := 1, nameIndex := 53, descriptorIndex := 50, attributes := #[] }, { accessFlags := 1, nameIndex := 56, descriptorIndex := 57, attributes := #[] }, { accessFlags := 10, nameIndex := 20, descriptorIndex := 21, attributes := #[] }] 33 2 #[] #[{ accessFlags := 18, nameIndex := 29, descriptorIndex := 30, attributes := #[] }, { accessFlags := 18, nameIndex := 39, descriptorIndex := 34, attributes := #[] }])
  fields := #[{ name := "arena", type := (.object "com/example/equilibrate/equilibrate/model/Arena"), accessFlags := 18, slot := 0, constantValue := 0 }, { name := "priorities", type := (.array .int), accessFlags := 18, slot := 1, constantValue := 0 }]
  methods := #[k3m0, k3m1, k3m2, k3m3, k3m4, k3m5]
  instanceTypes := #[(.object "com/example/equilibrate/equilibrate/model/Arena"), (.array .int)]
  staticTypes := #[]
  resolved := Array.replicate 104 none
  statics := none }

def pool4 : Array CpInfo := pool [(1, .methodref 2 3), (0, .class_ 4), (0, .nameAndType 5 6), (0, u "java/lang/Object"), (0, u "<init>"), (0, u "()V"), (0, .methodref 8 9), (0, .class_ 10), (0, .nameAndType 11 12), (0, u "[I"), (0, u "clone"), (0, u "()Ljava/lang/Object;"), (0, .fieldref 14 15), (0, .class_ 16), (0, .nameAndType 17 10), (0, u "com/example/equilibrate/equilibrate/model/Arena"), (0, u "owners"), (0, .methodref 14 19), (0, .nameAndType 20 21), (0, u "successorStarts"), (0, u "(I[[I)[I"), (0, .fieldref 14 23), (0, .nameAndType 24 10), (0, u "successorStart"), (0, .methodref 14 26), (0, .nameAndType 27 28), (0, u "joined"), (0, u "([[II)[I"), (0, .fieldref 14 30), (0, .nameAndType 31 10), (0, u "successors"), (0, .fieldref 14 33), (0, .nameAndType 34 35), (0, u "startVertex"), (0, u "I"), (0, .methodref 14 37), (0, .nameAndType 38 6), (0, u "checkWellFormed"), (11, u "getSuccessorCount"), (0, u "(I)I"), (2, u "getSuccessor"), (0, u "(II)I"), (23, .long 2147483647), (3, .methodref 84 85), (0, .class_ 86), (0, .nameAndType 87 88), (0, u "java/lang/System"), (0, u "arraycopy"), (0, u "(Ljava/lang/Object;ILjava/lang/Object;II)V"), (3, u "([I[[II)V"), (7, u "()I"), (0, u "getEdgeCount")] 35

def k4c0 : Code := { maxStack := 4, maxLocals := 4, code := prog_41_method_1_code, exceptionTable := #[], attributes := #[] }
def k4m0 : Method := { name := "<init>", desc := "([I[[II)V", sig := { parameters := [(.array .int), (.array (.array .int)), .int], returnType := none }, accessFlags := 1, code := some k4c0 }
def k4c1 : Code := { maxStack := 1, maxLocals := 1, code := prog_41_method_6_code, exceptionTable := #[], attributes := #[] }
def k4m1 : Method := { name := "getEdgeCount", desc := "()I", sig := { parameters := [], returnType := some .int }, accessFlags := 1, code := some k4c1 }
def k4c2 : Code := { maxStack := 3, maxLocals := 2, code := prog_41_method_8_code, exceptionTable := #[], attributes := #[] }
def k4m2 : Method := { name := "getSuccessorCount", desc := "(I)I", sig := { parameters := [.int], returnType := some .int }, accessFlags := 1, code := some k4c2 }
def k4c3 : Code := { maxStack := 3, maxLocals := 3, code := prog_41_method_9_code, exceptionTable := #[], attributes := #[] }
def k4m3 : Method := { name := "getSuccessor", desc := "(II)I", sig := { parameters := [.int, .int], returnType := some .int }, accessFlags := 1, code := some k4c3 }
def k4c4 : Code := { maxStack := 5, maxLocals := 4, code := prog_41_method_13_code, exceptionTable := #[], attributes := #[] }
def k4m4 : Method := { name := "checkWellFormed", desc := "()V", sig := { parameters := [], returnType := none }, accessFlags := 2, code := some k4c4 }
def k4c5 : Code := { maxStack := 4, maxLocals := 6, code := prog_41_method_14_code, exceptionTable := #[], attributes := #[] }
def k4m5 : Method := { name := "successorStarts", desc := "(I[[I)[I", sig := { parameters := [.int, (.array (.array .int))], returnType := some (.array .int) }, accessFlags := 10, code := some k4c5 }
def k4c6 : Code := { maxStack := 5, maxLocals := 8, code := prog_41_method_15_code, exceptionTable := #[], attributes := #[] }
def k4m6 : Method := { name := "joined", desc := "([[II)[I", sig := { parameters := [(.array (.array .int)), .int], returnType := some (.array .int) }, accessFlags := 10, code := some k4c6 }
/-- com/example/equilibrate/equilibrate/model/Arena -/
def k4 : Class := { plain "com/example/equilibrate/equilibrate/model/Arena" (some 0) with
  accessFlags := 33
  interfaces := #[]
  cf := some (fileOf pool4 14 #[] #[{ accessFlags := 1, nameIndex := 5, descriptorIndex := 92, attributes := #[] }, { accessFlags := 1, nameIndex := 101, descriptorIndex := 100, attributes := #[] }, { accessFlags := 1, nameIndex := 50, descriptorIndex := 51, attributes := #[] }, { accessFlags := 1, nameIndex := 54, descriptorIndex := 55, attributes := #[] }, { accessFlags := 2, nameIndex := 38, descriptorIndex := 6, attributes := #[] }, { accessFlags := 10, nameIndex := 20, descriptorIndex := 21, attributes := #[] }, { accessFlags := 10, nameIndex := 27, descriptorIndex := 28, attributes := #[] }] 33 2 #[] #[{ accessFlags := 18, nameIndex := 17, descriptorIndex := 10, attributes := #[] }, { accessFlags := 18, nameIndex := 24, descriptorIndex := 10, attributes := #[] }, { accessFlags := 18, nameIndex := 31, descriptorIndex := 10, attributes := #[] }, { accessFlags := 18, nameIndex := 34, descriptorIndex := 35, attributes := #[] }])
  fields := #[{ name := "owners", type := (.array .int), accessFlags := 18, slot := 0, constantValue := 0 }, { name := "successorStart", type := (.array .int), accessFlags := 18, slot := 1, constantValue := 0 }, { name := "successors", type := (.array .int), accessFlags := 18, slot := 2, constantValue := 0 }, { name := "startVertex", type := .int, accessFlags := 18, slot := 3, constantValue := 0 }]
  methods := #[k4m0, k4m1, k4m2, k4m3, k4m4, k4m5, k4m6]
  instanceTypes := #[(.array .int), (.array .int), (.array .int), .int]
  staticTypes := #[]
  resolved := Array.replicate 137 none
  statics := none }

def pool5 : Array CpInfo := pool [(1, .class_ 2), (0, u "java/lang/Cloneable"), (0, .class_ 4), (0, u "java/lang/Object")] 2

/-- java/lang/Cloneable -/
def k5 : Class := { plain "java/lang/Cloneable" (some 0) with
  accessFlags := 1537
  interfaces := #[]
  cf := some (fileOf pool5 1 #[] #[] 1537 3 #[] #[])
  fields := #[]
  methods := #[]
  instanceTypes := #[]
  staticTypes := #[]
  resolved := Array.replicate 7 none
  statics := none }

def pool6 : Array CpInfo := pool [(2, .class_ 4), (1, u "java/lang/Object"), (0, u "<init>"), (0, u "()V"), (1, .class_ 10), (1, u "java/lang/System"), (0, u "allowSecurityManager"), (0, u "I"), (16, u "cons"), (0, u "Ljava/io/Console;"), (77, .class_ 110), (1, u "java/lang/System$CallersHolder"), (43, u "initialErrStream"), (0, u "Ljava/io/PrintStream;"), (19, u "security"), (0, u "Ljava/lang/SecurityManager;"), (31, .class_ 209), (0, u "java/lang/System$1"), (7, u "props"), (0, u "Ljava/util/Properties;"), (2, u "lineSeparator"), (0, u "Ljava/lang/String;"), (96, .class_ 321), (1, u "java/lang/System$LoggerFinder"), (5, .class_ 328), (0, u "java/lang/System$Logger"), (67, u "err"), (2, u "out"), (91, u "notSupportedJnuEncoding"), (15, u "in"), (17, u "initialIn"), (0, u "Ljava/io/InputStream;"), (35, u "bootLayer"), (0, u "Ljava/lang/ModuleLayer;"), (99, .class_ 664), (0, u "java/lang/System$2"), (9, u "NEVER"), (2, u "MAYBE"), (49, u "arraycopy"), (0, u "(Ljava/lang/Object;ILjava/lang/Object;II)V"), (72, .class_ 802), (0, u "java/lang/System$Logger$Level")] 31

def k6m0 : Method := { name := "<init>", desc := "()V", sig := { parameters := [], returnType := none }, accessFlags := 2, code := none }
def k6m1 : Method := { name := "arraycopy", desc := "(Ljava/lang/Object;ILjava/lang/Object;II)V", sig := { parameters := [(.object "java/lang/Object"), .int, (.object "java/lang/Object"), .int, .int], returnType := none }, accessFlags := 265, code := none }
/-- java/lang/System -/
def k6 : Class := { plain "java/lang/System" (some 0) with
  accessFlags := 49
  interfaces := #[]
  cf := some (fileOf pool6 8 #[.nestMembers #[319, 327, 801, 108, 663, 208]] #[{ accessFlags := 2, nameIndex := 5, descriptorIndex := 6, attributes := #[] }, { accessFlags := 265, nameIndex := 727, descriptorIndex := 728, attributes := #[] }] 49 2 #[] #[{ accessFlags := 25, nameIndex := 507, descriptorIndex := 526, attributes := #[] }, { accessFlags := 25, nameIndex := 399, descriptorIndex := 155, attributes := #[] }, { accessFlags := 25, nameIndex := 396, descriptorIndex := 155, attributes := #[] }, { accessFlags := 10, nameIndex := 525, descriptorIndex := 526, attributes := #[] }, { accessFlags := 26, nameIndex := 674, descriptorIndex := 12, attributes := #[] }, { accessFlags := 26, nameIndex := 677, descriptorIndex := 12, attributes := #[] }, { accessFlags := 10, nameIndex := 11, descriptorIndex := 12, attributes := #[] }, { accessFlags := 74, nameIndex := 175, descriptorIndex := 176, attributes := #[] }, { accessFlags := 10, nameIndex := 491, descriptorIndex := 222, attributes := #[] }, { accessFlags := 74, nameIndex := 29, descriptorIndex := 30, attributes := #[] }, { accessFlags := 74, nameIndex := 154, descriptorIndex := 155, attributes := #[] }, { accessFlags := 10, nameIndex := 217, descriptorIndex := 218, attributes := #[] }, { accessFlags := 10, nameIndex := 221, descriptorIndex := 222, attributes := #[] }, { accessFlags := 8, nameIndex := 562, descriptorIndex := 563, attributes := #[] }])
  fields := #[{ name := "in", type := (.object "java/io/InputStream"), accessFlags := 25, slot := 0, constantValue := 0 }, { name := "out", type := (.object "java/io/PrintStream"), accessFlags := 25, slot := 1, constantValue := 0 }, { name := "err", type := (.object "java/io/PrintStream"), accessFlags := 25, slot := 2, constantValue := 0 }, { name := "initialIn", type := (.object "java/io/InputStream"), accessFlags := 10, slot := 3, constantValue := 0 }, { name := "NEVER", type := .int, accessFlags := 26, slot := 4, constantValue := 0 }, { name := "MAYBE", type := .int, accessFlags := 26, slot := 5, constantValue := 0 }, { name := "allowSecurityManager", type := .int, accessFlags := 10, slot := 6, constantValue := 0 }, { name := "security", type := (.object "java/lang/SecurityManager"), accessFlags := 74, slot := 7, constantValue := 0 }, { name := "notSupportedJnuEncoding", type := (.object "java/lang/String"), accessFlags := 10, slot := 8, constantValue := 0 }, { name := "cons", type := (.object "java/io/Console"), accessFlags := 74, slot := 9, constantValue := 0 }, { name := "initialErrStream", type := (.object "java/io/PrintStream"), accessFlags := 74, slot := 10, constantValue := 0 }, { name := "props", type := (.object "java/util/Properties"), accessFlags := 10, slot := 11, constantValue := 0 }, { name := "lineSeparator", type := (.object "java/lang/String"), accessFlags := 10, slot := 12, constantValue := 0 }, { name := "bootLayer", type := (.object "java/lang/ModuleLayer"), accessFlags := 8, slot := 13, constantValue := 0 }]
  methods := #[k6m0, k6m1]
  instanceTypes := #[]
  staticTypes := #[(.object "java/io/InputStream"), (.object "java/io/PrintStream"), (.object "java/io/PrintStream"), (.object "java/io/InputStream"), .int, .int, .int, (.object "java/lang/SecurityManager"), (.object "java/lang/String"), (.object "java/io/Console"), (.object "java/io/PrintStream"), (.object "java/util/Properties"), (.object "java/lang/String"), (.object "java/lang/ModuleLayer")]
  resolved := Array.replicate 834 none
  statics := none }

def pool7 : Array CpInfo := pool [(1, .methodref 2 3), (0, .class_ 4), (0, .nameAndType 5 6), (0, u "java/lang/Object"), (0, u "<init>"), (0, u "()V"), (0, .methodref 8 9), (0, .class_ 10), (0, .nameAndType 11 12), (0, u "com/example/equilibrate/equilibrate/model/ParityGame"), (0, u "getVertexCount"), (0, u "()I"), (0, .fieldref 14 15), (0, .class_ 16), (0, .nameAndType 17 18), (0, u "com/example/equilibrate/equilibrate/solver/Subgames"), (0, u "game"), (0, u "Lcom/example/equilibrate/equilibrate/model/ParityGame;"), (0, .fieldref 14 20), (0, .nameAndType 21 22), (0, u "predecessors"), (0, u "Lcom/example/equilibrate/equilibrate/solver/Predecessors;"), (0, .fieldref 14 24), (0, .nameAndType 25 26), (0, u "order"), (0, u "[I"), (0, .fieldref 14 28), (0, .nameAndType 29 26), (0, u "position"), (0, .fieldref 14 31), (0, .nameAndType 32 26), (0, u "buffer"), (0, .fieldref 14 34), (0, .nameAndType 35 26), (0, u "mark"), (0, .fieldref 14 37), (0, .nameAndType 38 26), (0, u "escapeStamp"), (0, .fieldref 14 40), (0, .nameAndType 41 26), (0, u "escapes"), (2, u "work"), (0, u "J"), (5, u "stamp"), (0, u "I"), (5, u "(I)I"), (9, u "(II)I"), (24, u "(Lcom/example/equilibrate/equilibrate/model/ParityGame;Lcom/example/equilibrate/equilibrate/solver/Predecessors;)V"), (6, u "vertexAt"), (0, u "isInside"), (0, u "(II)Z"), (0, u "setTarget"), (0, u "(II)V"), (3, u "remove")] 18

def k7c0 : Code := { maxStack := 3, maxLocals := 5, code := prog_61_method_1_code, exceptionTable := #[], attributes := #[] }
def k7m0 : Method := { name := "<init>", desc := "(Lcom/example/equilibrate/equilibrate/model/ParityGame;Lcom/example/equilibrate/equilibrate/solver/Predecessors;)V", sig := { parameters := [(.object "com/example/equilibrate/equilibrate/model/ParityGame"), (.object "com/example/equilibrate/equilibrate/solver/Predecessors")], returnType := none }, accessFlags := 0, code := some k7c0 }
def k7c1 : Code := { maxStack := 2, maxLocals := 2, code := prog_61_method_4_code, exceptionTable := #[], attributes := #[] }
def k7m1 : Method := { name := "vertexAt", desc := "(I)I", sig := { parameters := [.int], returnType := some .int }, accessFlags := 0, code := some k7c1 }
def k7c2 : Code := { maxStack := 2, maxLocals := 3, code := prog_61_method_5_code, exceptionTable := #[], attributes := #[] }
def k7m2 : Method := { name := "isInside", desc := "(II)Z", sig := { parameters := [.int, .int], returnType := some .boolean }, accessFlags := 0, code := some k7c2 }
def k7c3 : Code := { maxStack := 3, maxLocals := 3, code := prog_61_method_6_code, exceptionTable := #[], attributes := #[] }
def k7m3 : Method := { name := "setTarget", desc := "(II)V", sig := { parameters := [.int, .int], returnType := none }, accessFlags := 0, code := some k7c3 }
def k7c4 : Code := { maxStack := 4, maxLocals := 7, code := prog_61_method_9_code, exceptionTable := #[], attributes := #[] }
def k7m4 : Method := { name := "remove", desc := "(II)I", sig := { parameters := [.int, .int], returnType := some .int }, accessFlags := 0, code := some k7c4 }
/-- com/example/equilibrate/equilibrate/solver/Subgames -/
def k7 : Class := { plain "com/example/equilibrate/equilibrate/solver/Subgames" (some 0) with
  accessFlags := 32
  interfaces := #[]
  cf := some (fileOf pool7 14 #[] #[{ accessFlags := 0, nameIndex := 5, descriptorIndex := 93, attributes := #[] }, { accessFlags := 0, nameIndex := 100, descriptorIndex := 58, attributes := #[] }, { accessFlags := 0, nameIndex := 101, descriptorIndex := 102, attributes := #[] }, { accessFlags := 0, nameIndex := 103, descriptorIndex := 104, attributes := #[] }, { accessFlags := 0, nameIndex := 108, descriptorIndex := 68, attributes := #[] }] 32 2 #[] #[{ accessFlags := 18, nameIndex := 17, descriptorIndex := 18, attributes := #[] }, { accessFlags := 18, nameIndex := 21, descriptorIndex := 22, attributes := #[] }, { accessFlags := 18, nameIndex := 25, descriptorIndex := 26, attributes := #[] }, { accessFlags := 18, nameIndex := 29, descriptorIndex := 26, attributes := #[] }, { accessFlags := 18, nameIndex := 32, descriptorIndex := 26, attributes := #[] }, { accessFlags := 18, nameIndex := 35, descriptorIndex := 26, attributes := #[] }, { accessFlags := 18, nameIndex := 38, descriptorIndex := 26, attributes := #[] }, { accessFlags := 18, nameIndex := 41, descriptorIndex := 26, attributes := #[] }, { accessFlags := 2, nameIndex := 51, descriptorIndex := 52, attributes := #[] }, { accessFlags := 2, nameIndex := 44, descriptorIndex := 45, attributes := #[] }])
  fields := #[{ name := "game", type := (.object "com/example/equilibrate/equilibrate/model/ParityGame"), accessFlags := 18, slot := 0, constantValue := 0 }, { name := "predecessors", type := (.object "com/example/equilibrate/equilibrate/solver/Predecessors"), accessFlags := 18, slot := 1, constantValue := 0 }, { name := "order", type := (.array .int), accessFlags := 18, slot := 2, constantValue := 0 }, { name := "position", type := (.array .int), accessFlags := 18, slot := 3, constantValue := 0 }, { name := "buffer", type := (.array .int), accessFlags := 18, slot := 4, constantValue := 0 }, { name := "mark", type := (.array .int), accessFlags := 18, slot := 5, constantValue := 0 }, { name := "escapeStamp", type := (.array .int), accessFlags := 18, slot := 6, constantValue := 0 }, { name := "escapes", type := (.array .int), accessFlags := 18, slot := 7, constantValue := 0 }, { name := "stamp", type := .int, accessFlags := 2, slot := 8, constantValue := 0 }, { name := "work", type := .long, accessFlags := 2, slot := 9, constantValue := 0 }]
  methods := #[k7m0, k7m1, k7m2, k7m3, k7m4]
  instanceTypes := #[(.object "com/example/equilibrate/equilibrate/model/ParityGame"), (.object "com/example/equilibrate/equilibrate/solver/Predecessors"), (.array .int), (.array .int), (.array .int), (.array .int), (.array .int), (.array .int), .int, .long]
  staticTypes := #[]
  resolved := Array.replicate 127 none
  statics := none }

def pool8 : Array CpInfo := pool [(1, .methodref 2 3), (0, .class_ 4), (0, .nameAndType 5 6), (0, u "java/lang/Object"), (0, u "<init>"), (0, u "()V"), (0, .methodref 8 9), (0, .class_ 10), (0, .nameAndType 11 12), (0, u "com/example/equilibrate/equilibrate/model/ParityGame"), (0, u "getVertexCount"), (0, u "()I"), (0, .fieldref 14 15), (0, .class_ 16), (0, .nameAndType 17 18), (0, u "com/example/equilibrate/equilibrate/solver/Predecessors"), (0, u "start"), (0, u "[I"), (0, .methodref 8 20), (0, .nameAndType 21 12), (0, u "getEdgeCount"), (0, .fieldref 14 23), (0, .nameAndType 24 18), (0, u "vertices"), (0, .methodref 8 26), (0, .nameAndType 27 28), (0, u "getSuccessorCount"), (0, u "(I)I"), (0, .methodref 8 30), (0, .nameAndType 31 32), (0, u "getSuccessor"), (0, u "(II)I"), (0, .methodref 34 35), (0, .class_ 36), (0, .nameAndType 37 38), (0, u "java/util/Arrays"), (0, u "copyOf"), (0, u "([II)[I"), (0, u "(Lcom/example/equilibrate/equilibrate/model/ParityGame;)V")] 7

def k8c0 : Code := { maxStack := 6, maxLocals := 6, code := prog_56_method_1_code, exceptionTable := #[], attributes := #[] }
def k8m0 : Method := { name := "<init>", desc := "(Lcom/example/equilibrate/equilibrate/model/ParityGame;)V", sig := { parameters := [(.object "com/example/equilibrate/equilibrate/model/ParityGame")], returnType := none }, accessFlags := 0, code := some k8c0 }
/-- com/example/equilibrate/equilibrate/solver/Predecessors -/
def k8 : Class := { plain "com/example/equilibrate/equilibrate/solver/Predecessors" (some 0) with
  accessFlags := 32
  interfaces := #[]
  cf := some (fileOf pool8 14 #[] #[{ accessFlags := 0, nameIndex := 5, descriptorIndex := 39, attributes := #[] }] 32 2 #[] #[{ accessFlags := 18, nameIndex := 17, descriptorIndex := 18, attributes := #[] }, { accessFlags := 18, nameIndex := 24, descriptorIndex := 18, attributes := #[] }])
  fields := #[{ name := "start", type := (.array .int), accessFlags := 18, slot := 0, constantValue := 0 }, { name := "vertices", type := (.array .int), accessFlags := 18, slot := 1, constantValue := 0 }]
  methods := #[k8m0]
  instanceTypes := #[(.array .int), (.array .int)]
  staticTypes := #[]
  resolved := Array.replicate 47 none
  statics := none }

def pool9 : Array CpInfo := pool [(2, .class_ 4), (1, u "java/lang/Object"), (0, u "<init>"), (0, u "()V"), (7, .class_ 16), (1, u "java/util/Arrays"), (57, .class_ 76), (1, u "java/util/Arrays$NaturalOrder"), (36, .class_ 115), (1, u "java/util/Arrays$LegacyMergeSort"), (1, u "Z"), (32, .methodref 151 152), (0, .class_ 153), (0, .nameAndType 154 155), (0, u "java/lang/System"), (0, u "arraycopy"), (0, u "(Ljava/lang/Object;ILjava/lang/Object;II)V"), (146, u "copyOf"), (1, .methodref 305 306), (0, .class_ 307), (0, .nameAndType 308 309), (0, u "java/lang/Math"), (0, u "min"), (0, u "(II)I"), (65, .class_ 376), (0, u "java/util/Arrays$ArrayList"), (68, u "$assertionsDisabled"), (269, u "MIN_ARRAY_SORT_GRAN"), (0, u "I"), (2, u "INSERTIONSORT_THRESHOLD"), (151, u "([II)[I"), (103, .class_ 976), (0, u "java/util/Arrays$ArrayItr")] 52

def k9m0 : Method := { name := "<init>", desc := "()V", sig := { parameters := [], returnType := none }, accessFlags := 2, code := none }
def k9c1 : Code := { maxStack := 6, maxLocals := 3, code := jdk_65_method_123_code, exceptionTable := #[], attributes := #[] }
def k9m1 : Method := { name := "copyOf", desc := "([II)[I", sig := { parameters := [(.array .int), .int], returnType := some (.array .int) }, accessFlags := 9, code := some k9c1 }
/-- java/util/Arrays -/
def k9 : Class := { plain "java/util/Arrays" (some 0) with
  accessFlags := 49
  interfaces := #[]
  cf := some (fileOf pool9 14 #[.nestMembers #[975, 375, 113, 74]] #[{ accessFlags := 2, nameIndex := 5, descriptorIndex := 6, attributes := #[] }, { accessFlags := 9, nameIndex := 302, descriptorIndex := 871, attributes := #[] }] 49 2 #[] #[{ accessFlags := 26, nameIndex := 715, descriptorIndex := 716, attributes := #[] }, { accessFlags := 26, nameIndex := 719, descriptorIndex := 716, attributes := #[] }, { accessFlags := 4120, nameIndex := 445, descriptorIndex := 117, attributes := #[] }])
  fields := #[{ name := "MIN_ARRAY_SORT_GRAN", type := .int, accessFlags := 26, slot := 0, constantValue := 0 }, { name := "INSERTIONSORT_THRESHOLD", type := .int, accessFlags := 26, slot := 1, constantValue := 0 }, { name := "$assertionsDisabled", type := .boolean, accessFlags := 4120, slot := 2, constantValue := 0 }]
  methods := #[k9m0, k9m1]
  instanceTypes := #[]
  staticTypes := #[.int, .int, .boolean]
  resolved := Array.replicate 1029 none
  statics := none }

def pool10 : Array CpInfo := pool [(1, u "java/io/Serializable"), (0, .class_ 1), (0, u "java/lang/Object"), (0, .class_ 3)] 3

/-- java/io/Serializable -/
def k10 : Class := { plain "java/io/Serializable" (some 0) with
  accessFlags := 1537
  interfaces := #[]
  cf := some (fileOf pool10 2 #[] #[] 1537 4 #[] #[])
  fields := #[]
  methods := #[]
  instanceTypes := #[]
  staticTypes := #[]
  resolved := Array.replicate 8 none
  statics := none }

/-- the primitive byte -/
def k11 : Class := { plain "byte" none with kind := .primitive 'B', accessFlags := 0x411 }
/-- [B -/
def k12 : Class := { plain "[B" (some 0) with kind := .array 11 .byte, interfaces := #[5, 10], accessFlags := 1041 }

/-- the primitive int -/
def k13 : Class := { plain "int" none with kind := .primitive 'I', accessFlags := 0x411 }
/-- [I -/
def k14 : Class := { plain "[I" (some 0) with kind := .array 13 .int, interfaces := #[5, 10], accessFlags := 1041 }

def heap : Heap := #[]
def k15 : Class := { plain "[[I" (some 0) with kind := .array 14 (.array .int), interfaces := #[5, 10], accessFlags := 1041 }
def classes : Array Class := #[k0, k1, k2, k3, k4, k5, k6, k7, k8, k9, k10, k11, k12, k13, k14, k15]
def interned : List (Array UInt16 × Addr) := []
def slotsUsed : Nat := 0
def theMethod : MethodId := ⟨1, 1⟩
def args0 : Array Value := #[.int 1, .int 1, .int 1, .int 1, .int 1, .int 1]
def aboutOver (below : List Frame) : State where
  vm := { classes := classes, interned := interned.toArray }
  heap := heap
  slotsUsed := slotsUsed
  threads := #[{ frames := .invoking theMethod args0 :: below }]
def below0 : List Frame := [.native { method := ⟨0, 0⟩, args := #[] }]
def about1 : State := aboutOver below0
def p0 : Program := .bare "" "" ""
def e0 : Env := launch0.env 0 0 0
theorem w_frames : about1.frames = Frame.invoking theMethod args0 :: below0 := rfl
set_option maxRecDepth 65536 in
theorem w_args : argsFit about1.vm theMethod args0 = true := by decide +kernel
set_option maxRecDepth 65536 in
theorem w_heap : heapFits about1 = true := by decide +kernel
set_option maxRecDepth 65536 in
theorem w_runnable : about1.curStatus? = some .runnable := by decide +kernel
set_option maxRecDepth 65536 in
theorem w_alone : about1.alone = true := by decide +kernel
set_option maxRecDepth 65536 in
theorem w_named : about1.methodNamed? x = some theMethod := by decide +kernel
set_option maxRecDepth 65536 in
theorem w_hears : about1.hears theMethod below0 = true := by decide +kernel
set_option maxRecDepth 65536 in
theorem w_ripe : about1.ripe theMethod args0 below0 = true := by decide +kernel
theorem w_running : about1.status = .running := rfl
set_option maxRecDepth 65536 in
theorem w_room : about1.hasRoom e0.platform room_1 = true :=
  launch0.hasRoom_least _ room_1 (by decide +kernel) (by decide +kernel) (by decide +kernel) (by decide +kernel) (by decide +kernel) (by decide +kernel)
theorem allAtoms_all (ts : List Jvm.Cond) (a : Array Jvm.Value) (st : Jvm.State) : (allAtoms ts).before a st = ts.all (fun c => c.before a st) := by
  induction ts with
  | nil => rfl
  | cons c t ih =>
    show (Jvm.Cond.and c (allAtoms t)).before a st = _
    rw [Jvm.Cond.before_and, ih, List.all_cons]
def words1 : List Jvm.Cond := Jvm.Cond.code x code maxLocals ret :: tables_1
/-- a 'code' word, met by the world's own term for the bytes: nothing is compared byte by byte -/
theorem code_word {y : MethodName} {bytes : ByteArray} {mx : Nat} {rt : Option FieldType} {a : Array Value} {s : State} {m : MethodId} {meth : Method} {c : Code} (h1 : s.methodNamed? y = some m) (h2 : s.vm.method? m = some meth) (h3 : meth.code = some c) (h4 : c.code = bytes)
    (h5 : (c.maxLocals == mx && c.exceptionTable.isEmpty && decide (c.maxStack ≤ mostOperands) && decide (meth.sig.returnType = rt) && !meth.locks && decide (parseMethodDescriptor y.desc = some meth.sig)) = true) : (Jvm.Cond.code y bytes mx rt).before a s = true := by
  simp only [Bool.and_eq_true, beq_iff_eq, Bool.not_eq_true', decide_eq_true_eq] at h5
  obtain ⟨⟨⟨⟨⟨g1, g2⟩, g3⟩, g4⟩, g5⟩, g6⟩ := h5
  simp [Cond.before, Cond.holds, Cond.value, h1, h2, h3, h4, g1, g2, g3, g4, g5, g6]
def isCode : Jvm.Cond → Bool
  | .code _ _ _ _ => true
  | _ => false
theorem all_split {L : List Jvm.Cond} {P : Jvm.Cond → Bool} (h1 : L.all (fun c => isCode c || P c) = true) (h2 : ∀ c ∈ L.filter isCode, P c = true) : L.all P = true := by
  refine List.all_eq_true.mpr fun c hc => ?_
  have h := List.all_eq_true.mp h1 c hc
  rcases Bool.eq_false_or_eq_true (isCode c) with hi | hi
  · exact h2 c (List.mem_filter.mpr ⟨hc, hi⟩)
  · simpa [hi] using h
set_option maxRecDepth 65536 in
theorem w_c0 : (Jvm.Cond.code x code maxLocals ret).before args0 about1 = true := code_word (m := ⟨1, 1⟩) (meth := k1m1) (c := k1c1) (by decide +kernel) rfl rfl rfl (by decide +kernel)
set_option maxRecDepth 65536 in
theorem w_c1 : (Jvm.Cond.code ({ cls := "java/lang/Math", name := "min", desc := "(II)I" } : Jvm.MethodName) jdk_29_method_69_code (2 : Nat) (Option.some Jvm.ClassFile.FieldType.int)).before args0 about1 = true := code_word (m := ⟨2, 1⟩) (meth := k2m1) (c := k2c1) (by decide +kernel) rfl rfl rfl (by decide +kernel)
set_option maxRecDepth 65536 in
theorem w_c2 : (Jvm.Cond.code ({ cls := "com/example/equilibrate/equilibrate/model/ParityGame", name := "<init>", desc := "([I[I[[II)V" } : Jvm.MethodName) prog_53_method_1_code (5 : Nat) (Option.none : Option Jvm.ClassFile.FieldType)).before args0 about1 = true := code_word (m := ⟨3, 0⟩) (meth := k3m0) (c := k3c0) (by decide +kernel) rfl rfl rfl (by decide +kernel)
set_option maxRecDepth 65536 in
theorem w_c3 : (Jvm.Cond.code ({ cls := "java/lang/Object", name := "<init>", desc := "()V" } : Jvm.MethodName) object_method_1_code (1 : Nat) (Option.none : Option Jvm.ClassFile.FieldType)).before args0 about1 = true := code_word (m := ⟨0, 0⟩) (meth := k0m0) (c := k0c0) (by decide +kernel) rfl rfl rfl (by decide +kernel)
set_option maxRecDepth 65536 in
theorem w_c4 : (Jvm.Cond.code ({ cls := "com/example/equilibrate/equilibrate/model/ParityGame", name := "checkVertices", desc := "([I[I)V" } : Jvm.MethodName) prog_53_method_12_code (3 : Nat) (Option.none : Option Jvm.ClassFile.FieldType)).before args0 about1 = true := code_word (m := ⟨3, 5⟩) (meth := k3m5) (c := k3c5) (by decide +kernel) rfl rfl rfl (by decide +kernel)
set_option maxRecDepth 65536 in
theorem w_c5 : (Jvm.Cond.code ({ cls := "com/example/equilibrate/equilibrate/model/Arena", name := "<init>", desc := "([I[[II)V" } : Jvm.MethodName) prog_41_method_1_code (4 : Nat) (Option.none : Option Jvm.ClassFile.FieldType)).before args0 about1 = true := code_word (m := ⟨4, 0⟩) (meth := k4m0) (c := k4c0) (by decide +kernel) rfl rfl rfl (by decide +kernel)
set_option maxRecDepth 65536 in
theorem w_c6 : (Jvm.Cond.code ({ cls := "com/example/equilibrate/equilibrate/model/Arena", name := "successorStarts", desc := "(I[[I)[I" } : Jvm.MethodName) prog_41_method_14_code (6 : Nat) (Option.some (Jvm.ClassFile.FieldType.array Jvm.ClassFile.FieldType.int))).before args0 about1 = true := code_word (m := ⟨4, 5⟩) (meth := k4m5) (c := k4c5) (by decide +kernel) rfl rfl rfl (by decide +kernel)
set_option maxRecDepth 65536 in
theorem w_c7 : (Jvm.Cond.code ({ cls := "com/example/equilibrate/equilibrate/model/Arena", name := "joined", desc := "([[II)[I" } : Jvm.MethodName) prog_41_method_15_code (8 : Nat) (Option.some (Jvm.ClassFile.FieldType.array Jvm.ClassFile.FieldType.int))).before args0 about1 = true := code_word (m := ⟨4, 6⟩) (meth := k4m6) (c := k4c6) (by decide +kernel) rfl rfl rfl (by decide +kernel)
set_option maxRecDepth 65536 in
theorem w_c8 : (Jvm.Cond.code ({ cls := "com/example/equilibrate/equilibrate/model/Arena", name := "checkWellFormed", desc := "()V" } : Jvm.MethodName) prog_41_method_13_code (4 : Nat) (Option.none : Option Jvm.ClassFile.FieldType)).before args0 about1 = true := code_word (m := ⟨4, 4⟩) (meth := k4m4) (c := k4c4) (by decide +kernel) rfl rfl rfl (by decide +kernel)
set_option maxRecDepth 65536 in
theorem w_c9 : (Jvm.Cond.code ({ cls := "com/example/equilibrate/equilibrate/solver/Predecessors", name := "<init>", desc := "(Lcom/example/equilibrate/equilibrate/model/ParityGame;)V" } : Jvm.MethodName) prog_56_method_1_code (6 : Nat) (Option.none : Option Jvm.ClassFile.FieldType)).before args0 about1 = true := code_word (m := ⟨8, 0⟩) (meth := k8m0) (c := k8c0) (by decide +kernel) rfl rfl rfl (by decide +kernel)
set_option maxRecDepth 65536 in
theorem w_c10 : (Jvm.Cond.code ({ cls := "com/example/equilibrate/equilibrate/model/ParityGame", name := "getVertexCount", desc := "()I" } : Jvm.MethodName) prog_53_method_4_code (1 : Nat) (Option.some Jvm.ClassFile.FieldType.int)).before args0 about1 = true := code_word (m := ⟨3, 1⟩) (meth := k3m1) (c := k3c1) (by decide +kernel) rfl rfl rfl (by decide +kernel)
set_option maxRecDepth 65536 in
theorem w_c11 : (Jvm.Cond.code ({ cls := "com/example/equilibrate/equilibrate/model/ParityGame", name := "getEdgeCount", desc := "()I" } : Jvm.MethodName) prog_53_method_5_code (1 : Nat) (Option.some Jvm.ClassFile.FieldType.int)).before args0 about1 = true := code_word (m := ⟨3, 2⟩) (meth := k3m2) (c := k3c2) (by decide +kernel) rfl rfl rfl (by decide +kernel)
set_option maxRecDepth 65536 in
theorem w_c12 : (Jvm.Cond.code ({ cls := "com/example/equilibrate/equilibrate/model/Arena", name := "getEdgeCount", desc := "()I" } : Jvm.MethodName) prog_41_method_6_code (1 : Nat) (Option.some Jvm.ClassFile.FieldType.int)).before args0 about1 = true := code_word (m := ⟨4, 1⟩) (meth := k4m1) (c := k4c1) (by decide +kernel) rfl rfl rfl (by decide +kernel)
set_option maxRecDepth 65536 in
theorem w_c13 : (Jvm.Cond.code ({ cls := "com/example/equilibrate/equilibrate/model/ParityGame", name := "getSuccessorCount", desc := "(I)I" } : Jvm.MethodName) prog_53_method_9_code (2 : Nat) (Option.some Jvm.ClassFile.FieldType.int)).before args0 about1 = true := code_word (m := ⟨3, 3⟩) (meth := k3m3) (c := k3c3) (by decide +kernel) rfl rfl rfl (by decide +kernel)
set_option maxRecDepth 65536 in
theorem w_c14 : (Jvm.Cond.code ({ cls := "com/example/equilibrate/equilibrate/model/Arena", name := "getSuccessorCount", desc := "(I)I" } : Jvm.MethodName) prog_41_method_8_code (2 : Nat) (Option.some Jvm.ClassFile.FieldType.int)).before args0 about1 = true := code_word (m := ⟨4, 2⟩) (meth := k4m2) (c := k4c2) (by decide +kernel) rfl rfl rfl (by decide +kernel)
set_option maxRecDepth 65536 in
theorem w_c15 : (Jvm.Cond.code ({ cls := "com/example/equilibrate/equilibrate/model/ParityGame", name := "getSuccessor", desc := "(II)I" } : Jvm.MethodName) prog_53_method_10_code (3 : Nat) (Option.some Jvm.ClassFile.FieldType.int)).before args0 about1 = true := code_word (m := ⟨3, 4⟩) (meth := k3m4) (c := k3c4) (by decide +kernel) rfl rfl rfl (by decide +kernel)
set_option maxRecDepth 65536 in
theorem w_c16 : (Jvm.Cond.code ({ cls := "com/example/equilibrate/equilibrate/model/Arena", name := "getSuccessor", desc := "(II)I" } : Jvm.MethodName) prog_41_method_9_code (3 : Nat) (Option.some Jvm.ClassFile.FieldType.int)).before args0 about1 = true := code_word (m := ⟨4, 3⟩) (meth := k4m3) (c := k4c3) (by decide +kernel) rfl rfl rfl (by decide +kernel)
set_option maxRecDepth 65536 in
theorem w_c17 : (Jvm.Cond.code ({ cls := "java/util/Arrays", name := "copyOf", desc := "([II)[I" } : Jvm.MethodName) jdk_65_method_123_code (3 : Nat) (Option.some (Jvm.ClassFile.FieldType.array Jvm.ClassFile.FieldType.int))).before args0 about1 = true := code_word (m := ⟨9, 1⟩) (meth := k9m1) (c := k9c1) (by decide +kernel) rfl rfl rfl (by decide +kernel)
set_option maxRecDepth 65536 in
theorem w_c18 : (Jvm.Cond.code ({ cls := "com/example/equilibrate/equilibrate/solver/Subgames", name := "<init>", desc := "(Lcom/example/equilibrate/equilibrate/model/ParityGame;Lcom/example/equilibrate/equilibrate/solver/Predecessors;)V" } : Jvm.MethodName) prog_61_method_1_code (5 : Nat) (Option.none : Option Jvm.ClassFile.FieldType)).before args0 about1 = true := code_word (m := ⟨7, 0⟩) (meth := k7m0) (c := k7c0) (by decide +kernel) rfl rfl rfl (by decide +kernel)
set_option maxRecDepth 65536 in
theorem w_c19 : (Jvm.Cond.code ({ cls := "com/example/equilibrate/equilibrate/solver/Subgames", name := "setTarget", desc := "(II)V" } : Jvm.MethodName) prog_61_method_6_code (3 : Nat) (Option.none : Option Jvm.ClassFile.FieldType)).before args0 about1 = true := code_word (m := ⟨7, 3⟩) (meth := k7m3) (c := k7c3) (by decide +kernel) rfl rfl rfl (by decide +kernel)
set_option maxRecDepth 65536 in
theorem w_c20 : (Jvm.Cond.code ({ cls := "com/example/equilibrate/equilibrate/solver/Subgames", name := "remove", desc := "(II)I" } : Jvm.MethodName) prog_61_method_9_code (7 : Nat) (Option.some Jvm.ClassFile.FieldType.int)).before args0 about1 = true := code_word (m := ⟨7, 4⟩) (meth := k7m4) (c := k7c4) (by decide +kernel) rfl rfl rfl (by decide +kernel)
set_option maxRecDepth 65536 in
theorem w_c21 : (Jvm.Cond.code ({ cls := "com/example/equilibrate/equilibrate/solver/Subgames", name := "vertexAt", desc := "(I)I" } : Jvm.MethodName) prog_61_method_4_code (2 : Nat) (Option.some Jvm.ClassFile.FieldType.int)).before args0 about1 = true := code_word (m := ⟨7, 1⟩) (meth := k7m1) (c := k7c1) (by decide +kernel) rfl rfl rfl (by decide +kernel)
set_option maxRecDepth 65536 in
theorem w_c22 : (Jvm.Cond.code ({ cls := "com/example/equilibrate/equilibrate/solver/Subgames", name := "isInside", desc := "(II)Z" } : Jvm.MethodName) prog_61_method_5_code (3 : Nat) (Option.some Jvm.ClassFile.FieldType.boolean)).before args0 about1 = true := code_word (m := ⟨7, 2⟩) (meth := k7m2) (c := k7c2) (by decide +kernel) rfl rfl rfl (by decide +kernel)
set_option maxRecDepth 65536 in
theorem w_c23 : (Jvm.Cond.code ({ cls := "com/example/equilibrate/equilibrate/solver/SubgamesRemovePinLaw", name := "has", desc := "([II)Z" } : Jvm.MethodName) method_3_code (2 : Nat) (Option.some Jvm.ClassFile.FieldType.boolean)).before args0 about1 = true := code_word (m := ⟨1, 2⟩) (meth := k1m2) (c := k1c2) (by decide +kernel) rfl rfl rfl (by decide +kernel)
set_option maxRecDepth 65536 in
theorem w_c24 : (Jvm.Cond.code ({ cls := "com/example/equilibrate/equilibrate/solver/SubgamesRemovePinLaw", name := "inPrefix", desc := "([III)Z" } : Jvm.MethodName) method_4_code (3 : Nat) (Option.some Jvm.ClassFile.FieldType.boolean)).before args0 about1 = true := code_word (m := ⟨1, 3⟩) (meth := k1m3) (c := k1c3) (by decide +kernel) rfl rfl rfl (by decide +kernel)
def codes1 : List Jvm.Cond := [Jvm.Cond.code x code maxLocals ret, Jvm.Cond.code ({ cls := "java/lang/Math", name := "min", desc := "(II)I" } : Jvm.MethodName) jdk_29_method_69_code (2 : Nat) (Option.some Jvm.ClassFile.FieldType.int), Jvm.Cond.code ({ cls := "com/example/equilibrate/equilibrate/model/ParityGame", name := "<init>", desc := "([I[I[[II)V" } : Jvm.MethodName) prog_53_method_1_code (5 : Nat) (Option.none : Option Jvm.ClassFile.FieldType), Jvm.Cond.code ({ cls := "java/lang/Object", name := "<init>", desc := "()V" } : Jvm.MethodName) object_method_1_code (1 : Nat) (Option.none : Option Jvm.ClassFile.FieldType), Jvm.Cond.code ({ cls := "com/example/equilibrate/equilibrate/model/ParityGame", name := "checkVertices", desc := "([I[I)V" } : Jvm.MethodName) prog_53_method_12_code (3 : Nat) (Option.none : Option Jvm.ClassFile.FieldType), Jvm.Cond.code ({ cls := "com/example/equilibrate/equilibrate/model/Arena", name := "<init>", desc := "([I[[II)V" } : Jvm.MethodName) prog_41_method_1_code (4 : Nat) (Option.none : Option Jvm.ClassFile.FieldType), Jvm.Cond.code ({ cls := "com/example/equilibrate/equilibrate/model/Arena", name := "successorStarts", desc := "(I[[I)[I" } : Jvm.MethodName) prog_41_method_14_code (6 : Nat) (Option.some (Jvm.ClassFile.FieldType.array Jvm.ClassFile.FieldType.int)), Jvm.Cond.code ({ cls := "com/example/equilibrate/equilibrate/model/Arena", name := "joined", desc := "([[II)[I" } : Jvm.MethodName) prog_41_method_15_code (8 : Nat) (Option.some (Jvm.ClassFile.FieldType.array Jvm.ClassFile.FieldType.int)), Jvm.Cond.code ({ cls := "com/example/equilibrate/equilibrate/model/Arena", name := "checkWellFormed", desc := "()V" } : Jvm.MethodName) prog_41_method_13_code (4 : Nat) (Option.none : Option Jvm.ClassFile.FieldType), Jvm.Cond.code ({ cls := "com/example/equilibrate/equilibrate/solver/Predecessors", name := "<init>", desc := "(Lcom/example/equilibrate/equilibrate/model/ParityGame;)V" } : Jvm.MethodName) prog_56_method_1_code (6 : Nat) (Option.none : Option Jvm.ClassFile.FieldType), Jvm.Cond.code ({ cls := "com/example/equilibrate/equilibrate/model/ParityGame", name := "getVertexCount", desc := "()I" } : Jvm.MethodName) prog_53_method_4_code (1 : Nat) (Option.some Jvm.ClassFile.FieldType.int), Jvm.Cond.code ({ cls := "com/example/equilibrate/equilibrate/model/ParityGame", name := "getEdgeCount", desc := "()I" } : Jvm.MethodName) prog_53_method_5_code (1 : Nat) (Option.some Jvm.ClassFile.FieldType.int), Jvm.Cond.code ({ cls := "com/example/equilibrate/equilibrate/model/Arena", name := "getEdgeCount", desc := "()I" } : Jvm.MethodName) prog_41_method_6_code (1 : Nat) (Option.some Jvm.ClassFile.FieldType.int), Jvm.Cond.code ({ cls := "com/example/equilibrate/equilibrate/model/ParityGame", name := "getSuccessorCount", desc := "(I)I" } : Jvm.MethodName) prog_53_method_9_code (2 : Nat) (Option.some Jvm.ClassFile.FieldType.int), Jvm.Cond.code ({ cls := "com/example/equilibrate/equilibrate/model/Arena", name := "getSuccessorCount", desc := "(I)I" } : Jvm.MethodName) prog_41_method_8_code (2 : Nat) (Option.some Jvm.ClassFile.FieldType.int), Jvm.Cond.code ({ cls := "com/example/equilibrate/equilibrate/model/ParityGame", name := "getSuccessor", desc := "(II)I" } : Jvm.MethodName) prog_53_method_10_code (3 : Nat) (Option.some Jvm.ClassFile.FieldType.int), Jvm.Cond.code ({ cls := "com/example/equilibrate/equilibrate/model/Arena", name := "getSuccessor", desc := "(II)I" } : Jvm.MethodName) prog_41_method_9_code (3 : Nat) (Option.some Jvm.ClassFile.FieldType.int), Jvm.Cond.code ({ cls := "java/util/Arrays", name := "copyOf", desc := "([II)[I" } : Jvm.MethodName) jdk_65_method_123_code (3 : Nat) (Option.some (Jvm.ClassFile.FieldType.array Jvm.ClassFile.FieldType.int)), Jvm.Cond.code ({ cls := "com/example/equilibrate/equilibrate/solver/Subgames", name := "<init>", desc := "(Lcom/example/equilibrate/equilibrate/model/ParityGame;Lcom/example/equilibrate/equilibrate/solver/Predecessors;)V" } : Jvm.MethodName) prog_61_method_1_code (5 : Nat) (Option.none : Option Jvm.ClassFile.FieldType), Jvm.Cond.code ({ cls := "com/example/equilibrate/equilibrate/solver/Subgames", name := "setTarget", desc := "(II)V" } : Jvm.MethodName) prog_61_method_6_code (3 : Nat) (Option.none : Option Jvm.ClassFile.FieldType), Jvm.Cond.code ({ cls := "com/example/equilibrate/equilibrate/solver/Subgames", name := "remove", desc := "(II)I" } : Jvm.MethodName) prog_61_method_9_code (7 : Nat) (Option.some Jvm.ClassFile.FieldType.int), Jvm.Cond.code ({ cls := "com/example/equilibrate/equilibrate/solver/Subgames", name := "vertexAt", desc := "(I)I" } : Jvm.MethodName) prog_61_method_4_code (2 : Nat) (Option.some Jvm.ClassFile.FieldType.int), Jvm.Cond.code ({ cls := "com/example/equilibrate/equilibrate/solver/Subgames", name := "isInside", desc := "(II)Z" } : Jvm.MethodName) prog_61_method_5_code (3 : Nat) (Option.some Jvm.ClassFile.FieldType.boolean), Jvm.Cond.code ({ cls := "com/example/equilibrate/equilibrate/solver/SubgamesRemovePinLaw", name := "has", desc := "([II)Z" } : Jvm.MethodName) method_3_code (2 : Nat) (Option.some Jvm.ClassFile.FieldType.boolean), Jvm.Cond.code ({ cls := "com/example/equilibrate/equilibrate/solver/SubgamesRemovePinLaw", name := "inPrefix", desc := "([III)Z" } : Jvm.MethodName) method_4_code (3 : Nat) (Option.some Jvm.ClassFile.FieldType.boolean)]
set_option maxRecDepth 65536 in
theorem codes_eq : words1.filter isCode = codes1 := rfl
theorem w_codes : ∀ c ∈ words1.filter isCode, c.before args0 about1 = true := by
  rw [codes_eq]
  intro c hc
  simp only [codes1, List.mem_cons, List.not_mem_nil, or_false] at hc
  rcases hc with rfl | rfl | rfl | rfl | rfl | rfl | rfl | rfl | rfl | rfl | rfl | rfl | rfl | rfl | rfl | rfl | rfl | rfl | rfl | rfl | rfl | rfl | rfl | rfl | rfl
  · exact w_c0
  · exact w_c1
  · exact w_c2
  · exact w_c3
  · exact w_c4
  · exact w_c5
  · exact w_c6
  · exact w_c7
  · exact w_c8
  · exact w_c9
  · exact w_c10
  · exact w_c11
  · exact w_c12
  · exact w_c13
  · exact w_c14
  · exact w_c15
  · exact w_c16
  · exact w_c17
  · exact w_c18
  · exact w_c19
  · exact w_c20
  · exact w_c21
  · exact w_c22
  · exact w_c23
  · exact w_c24
set_option maxRecDepth 65536 in
theorem w_t1 : (words1.take 24).all (fun c => isCode c || c.before args0 about1) = true := by decide +kernel
set_option maxRecDepth 65536 in
theorem w_t2 : ((words1.drop 24).take 24).all (fun c => isCode c || c.before args0 about1) = true := by decide +kernel
set_option maxRecDepth 65536 in
theorem w_t3 : (((words1.drop 24).drop 24).take 24).all (fun c => isCode c || c.before args0 about1) = true := by decide +kernel
set_option maxRecDepth 65536 in
theorem w_t4 : ((((words1.drop 24).drop 24).drop 24).take 24).all (fun c => isCode c || c.before args0 about1) = true := by decide +kernel
set_option maxRecDepth 65536 in
theorem w_t5 : (((((words1.drop 24).drop 24).drop 24).drop 24).take 24).all (fun c => isCode c || c.before args0 about1) = true := by decide +kernel
set_option maxRecDepth 65536 in
theorem w_t6 : ((((((words1.drop 24).drop 24).drop 24).drop 24).drop 24).take 24).all (fun c => isCode c || c.before args0 about1) = true := by decide +kernel
set_option maxRecDepth 65536 in
theorem w_t7 : (((((((words1.drop 24).drop 24).drop 24).drop 24).drop 24).drop 24).take 24).all (fun c => isCode c || c.before args0 about1) = true := by decide +kernel
set_option maxRecDepth 65536 in
theorem w_t8 : (((((((words1.drop 24).drop 24).drop 24).drop 24).drop 24).drop 24).drop 24).all (fun c => isCode c || c.before args0 about1) = true := by decide +kernel
theorem w_tables : (allAtoms (Jvm.Cond.code x code maxLocals ret :: tables_1)).before args0 about1 = true := by
  rw [allAtoms_all]
  show words1.all (fun c => c.before args0 about1) = true
  refine all_split ?_ w_codes
  rw [← List.take_append_drop 24 words1, List.all_append, w_t1, ← List.take_append_drop 24 (words1.drop 24), List.all_append, w_t2, ← List.take_append_drop 24 ((words1.drop 24).drop 24), List.all_append, w_t3, ← List.take_append_drop 24 (((words1.drop 24).drop 24).drop 24), List.all_append, w_t4, ← List.take_append_drop 24 ((((words1.drop 24).drop 24).drop 24).drop 24), List.all_append, w_t5, ← List.take_append_drop 24 (((((words1.drop 24).drop 24).drop 24).drop 24).drop 24), List.all_append, w_t6, ← List.take_append_drop 24 ((((((words1.drop 24).drop 24).drop 24).drop 24).drop 24).drop 24), List.all_append, w_t7, w_t8]
  rfl
set_option maxRecDepth 65536 in
theorem w_case : (Jvm.Cond.and given_1 narrow_1).before args0 about1 = true := by decide +kernel
theorem w_applies : (headSpec (Jvm.Cond.code x code maxLocals ret :: tables_1) room_1).applies x e0.platform about1 = true :=
  (Spec.applies_iff w_frames).mpr ⟨w_running, w_runnable, w_alone, w_named, w_hears, w_ripe, w_room, w_tables⟩
theorem atStart : AtStart classFile x code maxLocals ret World_1 tables_1 room_1 Calls_1 rest_1 Pre_1 launch0 p0 e0 about1 theMethod args0 below0 :=
  ⟨lists_1, trivial, launch0.admits_env _ _ _, launch0.least_env, fairChoices_fair.cas, fairChoices_fair.clock, w_frames, w_args, w_heap, w_applies, trivial, trivial, w_case⟩
end start1
theorem witness_1 : WitnessClaimed_1 := ⟨start1.p0, start1.e0, start1.about1, start1.theMethod, start1.args0, start1.below0, start1.atStart⟩
end Jvm.Pilot.@@N@@
