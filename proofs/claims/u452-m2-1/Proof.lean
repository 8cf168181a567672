import JvmDerived
import JvmDerived.Pilot.@@N@@Statement
import JvmDerived.Pilot.@@N@@Code
set_option linter.unusedVariables false
set_option linter.unusedSimpArgs false
namespace Jvm.OwnK
open Jvm Sem ClassFile Op Lib Jvm.Stand Jvm.Free Jvm.LawKit Jvm.RoadKit Bundle
/-- where a walk stands: pc, locals, stack, heap, cells and slots made so far -/
abbrev Kt := Nat → Array Slot → List Value → Heap → Nat → Nat → Prop
/-- what a body leaves: the value that it returns, the heap -/
abbrev Qt := Option Value → Heap → Prop
/-- a body's end, as its contract asks it -/
def Out (p : Program) (e : Env) (below : List Frame) (s s1 : State) (f0 : JFrame) (R : Room) (n0 : Nat) (Q : Qt) : Prop :=
  ∃ s2 o, Steps p.tables e below (s1.setTop f0) s2 ∧ s2.status = .running ∧ Ended s2 below o ∧ ∃ v L, o = .returned v ∧ (Q v s2.heap ∧ Fr n0 L) ∧ FrameEnd s o s2 L R.cells R.slots
/-- what doesn't change along a walk, and what K and O mean -/
def Ctx (l : Launch) (R : Room) (n0 : Nat) (Z : State) (own : String) (bytes : ByteArray) (ml : Nat) (nm : String) (rt : Option FieldType) (Q : Qt) (K : Kt) (O : Prop) : Prop :=
  ∃ (p : Program) (e : Env) (s : State) (m : MethodId) (args : Array Value) (below : List Frame) (meth : Method) (c : Code) (s1 : State) (f0 : JFrame),
    p.tables.exec = Jvm.exec ∧ c.code = bytes ∧ Z.Warmed39 s.vm ∧ s.vm.findClass own = some m.cls ∧ c.maxLocals = ml ∧ meth.name = nm ∧ meth.sig.returnType = rt ∧ meth.locks = false ∧
    (∀ pc L S h cl sl, K pc L S h cl sl ↔ ∃ T locs, Stand p l e R s m args below meth c T locs cl sl ∧ T.heap = h ∧ Fr n0 locs ∧ ∀ t, Steps p.tables e below (T.setTop (mkF m pc L S)) t → Steps p.tables e below (s1.setTop f0) t) ∧
    (Out p e below s s1 f0 R n0 Q → O)
/-- a body's contract -/
def Con (l : Launch) (y : MethodName) (bytes : ByteArray) (ml : Nat) (rt : Option FieldType) (rm : Room) (Z : State) (as : Array Value) (h : Heap) (n0 : Nat) (Q : Qt) : Prop :=
  ∀ ws : List Jvm.Cond, MetFree l y (head1 (Jvm.Cond.code y bytes ml rt :: ws) rm) (fun a U => a = as ∧ Z.Warmed39 U.vm ∧ U.heap = h) (fun _ _ _ _ _ => True) (fun _ U o U' => ∃ v L, o = .returned v ∧ (Q v U'.heap ∧ Fr n0 L) ∧ FrameEnd U o U' L rm.cells rm.slots)
theorem Con.mono {l : Launch} {y : MethodName} {bytes : ByteArray} {ml : Nat} {rt : Option FieldType} {rm : Room} {Z : State} {as : Array Value} {h : Heap} {n0 : Nat} {Q Q' : Qt} (K : Con l y bytes ml rt rm Z as h n0 Q) (q : ∀ v h', Q v h' → Q' v h') : Con l y bytes ml rt rm Z as h n0 Q' := by
  intro ws p e ha hc hk s m args below hf happ hP hK
  obtain ⟨n, o, h1, h2, h3, v, L, h4, ⟨h5, h6⟩, h7⟩ := K ws p e ha hc hk s m args below hf happ hP hK
  exact ⟨n, o, h1, h2, h3, v, L, h4, ⟨q _ _ h5, h6⟩, h7⟩
theorem Con.enter {l : Launch} {y : MethodName} {bytes : ByteArray} {ml : Nat} {rt : Option FieldType} {rm : Room} {Z : State} {as : Array Value} {h : Heap} {n0 : Nat} {Q : Qt} {L0 : Array Slot} (hpl : plainFor y = true) (hef : ∀ m, entryFrame m as ml = mkF m 0 L0 [])
    (hb : ∀ (K : Kt) (O : Prop), Ctx l rm n0 Z y.cls bytes ml y.name rt Q K O → K 0 L0 [] h 0 0 → O) : Con l y bytes ml rt rm Z as h n0 Q := by
  intro ws
  refine MetFree.of_bodySF hpl hisR ?_
  intro p e s m args below meth c s1 Bd hml0 hP hK
  obtain ⟨rfl, hZ, hh⟩ := hP
  have X0 : Stand p l e rm s m args below meth c s1 [] 0 0 := Stand.of_body Bd
  have e0 : s1.heap = h := by rw [← hh, Bd.state]; rfl
  exact hb (fun pc L S h cl sl => ∃ T locs, Stand p l e rm s m args below meth c T locs cl sl ∧ T.heap = h ∧ Fr n0 locs ∧ ∀ t, Steps p.tables e below (T.setTop (mkF m pc L S)) t → Steps p.tables e below (s1.setTop (entryFrame m args ml)) t)
    (Out p e below s s1 (entryFrame m args ml) rm n0 Q)
    ⟨p, e, s, m, args, below, meth, c, s1, entryFrame m args ml, Bd.exec, Bd.bytes, hZ, findClass_of_methodNamed Bd.named, hml0, (name_of_methodNamed Bd.named Bd.method).1, Bd.returns, Bd.notSynchronized, fun _ _ _ _ _ _ => Iff.rfl, id⟩
    ⟨s1, [], X0, e0, Fr.nil n0, fun t k => castTop (hef m) k⟩
section Steps
variable {l : Launch} {R : Room} {n0 : Nat} {Z : State} {own : String} {bytes : ByteArray} {ml : Nat} {nm : String} {rt : Option FieldType} {Q : Qt} {K : Kt} {O : Prop} {a0 : Array Value} {pc : Nat} {L : Array Slot} {S rest : List Value} {h : Heap} {cl sl : Nat} {pc' : Nat}
theorem Ctx.pure (C : Ctx l R n0 Z own bytes ml nm rt Q K O) (H : K pc L S h cl sl) {L' : Array Slot} {S' : List Value}
    (f : ∀ (p : Program) (e : Env) (s : State) (m : MethodId) (args : Array Value) (below : List Frame) (meth : Method) (c : Code) (T : State) (locs : List Loc), Stand p l e R s m args below meth c T locs cl sl → p.tables.exec = Jvm.exec → c.code = bytes → Z.Warmed39 s.vm → s.vm.findClass own = some m.cls → T.heap = h →
      ∀ t, Steps p.tables e below (T.setTop (mkF m pc' L' S')) t → Steps p.tables e below (T.setTop (mkF m pc L S)) t) : K pc' L' S' h cl sl := by
  obtain ⟨p, e, s, m, args, below, meth, c, s1, f0, hx, hby, hZ, hown, hml, hnm, hrt, hlk, hK, hO⟩ := C
  obtain ⟨T, locs, X, eT, N, st⟩ := (hK _ _ _ _ _ _).mp H
  exact (hK _ _ _ _ _ _).mpr ⟨T, locs, X, eT, N, fun t k => st t (f p e s m args below meth c T locs X hx hby hZ hown eT t k)⟩
/-- a step that may note something in the tables -/
theorem Ctx.note (C : Ctx l R n0 Z own bytes ml nm rt Q K O) (H : K pc L S h cl sl) {L' : Array Slot} {S' : List Value}
    (f : ∀ (p : Program) (e : Env) (s : State) (m : MethodId) (args : Array Value) (below : List Frame) (meth : Method) (c : Code) (T : State) (locs : List Loc), Stand p l e R s m args below meth c T locs cl sl → p.tables.exec = Jvm.exec → c.code = bytes → Z.Warmed39 s.vm → s.vm.findClass own = some m.cls → c.maxLocals = ml → T.heap = h →
      ∃ T', Stand p l e R s m args below meth c T' locs cl sl ∧ T'.heap = h ∧ ∀ t, Steps p.tables e below (T'.setTop (mkF m pc' L' S')) t → Steps p.tables e below (T.setTop (mkF m pc L S)) t) : K pc' L' S' h cl sl := by
  obtain ⟨p, e, s, m, args, below, meth, c, s1, f0, hx, hby, hZ, hown, hml, hnm, hrt, hlk, hK, hO⟩ := C
  obtain ⟨T, locs, X, eT, N, st⟩ := (hK _ _ _ _ _ _).mp H
  obtain ⟨T', X', eT', st'⟩ := f p e s m args below meth c T locs X hx hby hZ hown hml eT
  exact (hK _ _ _ _ _ _).mpr ⟨T', locs, X', eT', N, fun t k => st t (st' t k)⟩

theorem k_iloadN (C : Ctx l R n0 Z own bytes ml nm rt Q K O) {k : Fin 4} {v : Int32} (H : K pc L (S) h cl sl) (d : decode bytes pc = .ok (.iload_n k, 1)) (hl : L[k.val]? = some (.val (.int v))) (hp : pc + 1 = pc') : K pc' L ((.int v) :: S) h cl sl := by
  subst hp
  exact C.pure H fun p e s m args below meth c T locs X hx hby _ _ _ t k => XS.iloadN X.here hx rfl (hb hby d) hl k
theorem k_iload (C : Ctx l R n0 Z own bytes ml nm rt Q K O) {k : Nat} {v : Int32} (H : K pc L (S) h cl sl) (d : decode bytes pc = .ok (.iload k, 2)) (hl : L[k]? = some (.val (.int v))) (hp : pc + 2 = pc') : K pc' L ((.int v) :: S) h cl sl := by
  subst hp
  exact C.pure H fun p e s m args below meth c T locs X hx hby _ _ _ t k => XS.iload X.here hx rfl (hb hby d) hl k
theorem k_lloadN (C : Ctx l R n0 Z own bytes ml nm rt Q K O) {k : Fin 4} {v : Int64} (H : K pc L (S) h cl sl) (d : decode bytes pc = .ok (.lload_n k, 1)) (hl : L[k.val]? = some (.val (.long v))) (hp : pc + 1 = pc') : K pc' L ((.long v) :: S) h cl sl := by
  subst hp
  exact C.pure H fun p e s m args below meth c T locs X hx hby _ _ _ t k => XS.lloadN X.here hx rfl (hb hby d) hl k
theorem k_lload (C : Ctx l R n0 Z own bytes ml nm rt Q K O) {k : Nat} {v : Int64} (H : K pc L (S) h cl sl) (d : decode bytes pc = .ok (.lload k, 2)) (hl : L[k]? = some (.val (.long v))) (hp : pc + 2 = pc') : K pc' L ((.long v) :: S) h cl sl := by
  subst hp
  exact C.pure H fun p e s m args below meth c T locs X hx hby _ _ _ t k => XS.lload X.here hx rfl (hb hby d) hl k
theorem k_aloadN (C : Ctx l R n0 Z own bytes ml nm rt Q K O) {k : Fin 4} {v : Value} (H : K pc L (S) h cl sl) (d : decode bytes pc = .ok (.aload_n k, 1)) (hl : L[k.val]? = some (.val v)) (hv : v.isRef = true) (hp : pc + 1 = pc') : K pc' L (v :: S) h cl sl := by
  subst hp
  exact C.pure H fun p e s m args below meth c T locs X hx hby _ _ _ t k => XS.aloadN X.here hx rfl (hb hby d) hl hv k
theorem k_aload (C : Ctx l R n0 Z own bytes ml nm rt Q K O) {k : Nat} {v : Value} (H : K pc L (S) h cl sl) (d : decode bytes pc = .ok (.aload k, 2)) (hl : L[k]? = some (.val v)) (hv : v.isRef = true) (hp : pc + 2 = pc') : K pc' L (v :: S) h cl sl := by
  subst hp
  exact C.pure H fun p e s m args below meth c T locs X hx hby _ _ _ t k => XS.aload X.here hx rfl (hb hby d) hl hv k
theorem k_istoreN (C : Ctx l R n0 Z own bytes ml nm rt Q K O) {k : Fin 4} {v : Int32} {L' : Array Slot} (H : K pc L ((.int v) :: rest) h cl sl) (d : decode bytes pc = .ok (.istore_n k, 1)) (hl : storeLocals L k.val (.int v) = some L') (hp : pc + 1 = pc') : K pc' L' (rest) h cl sl := by
  subst hp
  exact C.pure H fun p e s m args below meth c T locs X hx hby _ _ _ t k => XS.istoreN X.here hx rfl (hb hby d) rfl hl k
theorem k_istore (C : Ctx l R n0 Z own bytes ml nm rt Q K O) {k : Nat} {v : Int32} {L' : Array Slot} (H : K pc L ((.int v) :: rest) h cl sl) (d : decode bytes pc = .ok (.istore k, 2)) (hl : storeLocals L k (.int v) = some L') (hp : pc + 2 = pc') : K pc' L' (rest) h cl sl := by
  subst hp
  exact C.pure H fun p e s m args below meth c T locs X hx hby _ _ _ t k => XS.istore X.here hx rfl (hb hby d) rfl hl k
theorem k_lstoreN (C : Ctx l R n0 Z own bytes ml nm rt Q K O) {k : Fin 4} {v : Int64} {L' : Array Slot} (H : K pc L ((.long v) :: rest) h cl sl) (d : decode bytes pc = .ok (.lstore_n k, 1)) (hl : storeLocals L k.val (.long v) = some L') (hp : pc + 1 = pc') : K pc' L' (rest) h cl sl := by
  subst hp
  exact C.pure H fun p e s m args below meth c T locs X hx hby _ _ _ t k => XS.lstoreN X.here hx rfl (hb hby d) rfl hl k
theorem k_lstore (C : Ctx l R n0 Z own bytes ml nm rt Q K O) {k : Nat} {v : Int64} {L' : Array Slot} (H : K pc L ((.long v) :: rest) h cl sl) (d : decode bytes pc = .ok (.lstore k, 2)) (hl : storeLocals L k (.long v) = some L') (hp : pc + 2 = pc') : K pc' L' (rest) h cl sl := by
  subst hp
  exact C.pure H fun p e s m args below meth c T locs X hx hby _ _ _ t k => XS.lstore X.here hx rfl (hb hby d) rfl hl k
theorem k_astoreN (C : Ctx l R n0 Z own bytes ml nm rt Q K O) {k : Fin 4} {v : Value} {L' : Array Slot} (H : K pc L (v :: rest) h cl sl) (d : decode bytes pc = .ok (.astore_n k, 1)) (hv : v.isRef = true) (hl : storeLocals L k.val v = some L') (hp : pc + 1 = pc') : K pc' L' (rest) h cl sl := by
  subst hp
  exact C.pure H fun p e s m args below meth c T locs X hx hby _ _ _ t k => XS.astoreN X.here hx rfl (hb hby d) rfl hv hl k
theorem k_astore (C : Ctx l R n0 Z own bytes ml nm rt Q K O) {k : Nat} {v : Value} {L' : Array Slot} (H : K pc L (v :: rest) h cl sl) (d : decode bytes pc = .ok (.astore k, 2)) (hv : v.isRef = true) (hl : storeLocals L k v = some L') (hp : pc + 2 = pc') : K pc' L' (rest) h cl sl := by
  subst hp
  exact C.pure H fun p e s m args below meth c T locs X hx hby _ _ _ t k => XS.astore X.here hx rfl (hb hby d) rfl hv hl k
theorem k_iconst (C : Ctx l R n0 Z own bytes ml nm rt Q K O) {i : Int} {v : Int32} (H : K pc L (S) h cl sl) (d : decode bytes pc = .ok (.iconst i, 1)) (hv : Int32.ofInt i = v) (hp : pc + 1 = pc') : K pc' L (.int v :: S) h cl sl := by
  subst hp
  exact C.pure H fun p e s m args below meth c T locs X hx hby _ _ _ t k => XS.iconst X.here hx rfl (hb hby d) (by rw [hv]; exact k)
theorem k_bipush (C : Ctx l R n0 Z own bytes ml nm rt Q K O) {i : Int} {v : Int32} (H : K pc L (S) h cl sl) (d : decode bytes pc = .ok (.bipush i, 2)) (hv : (Int8.ofInt i).toInt32 = v) (hp : pc + 2 = pc') : K pc' L (.int v :: S) h cl sl := by
  subst hp
  exact C.pure H fun p e s m args below meth c T locs X hx hby _ _ _ t k => XS.bipush X.here hx rfl (hb hby d) (by rw [hv]; exact k)
theorem k_sipush (C : Ctx l R n0 Z own bytes ml nm rt Q K O) {i : Int} {v : Int32} (H : K pc L (S) h cl sl) (d : decode bytes pc = .ok (.sipush i, 3)) (hv : (Int16.ofInt i).toInt32 = v) (hp : pc + 3 = pc') : K pc' L (.int v :: S) h cl sl := by
  subst hp
  exact C.pure H fun p e s m args below meth c T locs X hx hby _ _ _ t k => XS.sipush X.here hx rfl (hb hby d) (by rw [hv]; exact k)
theorem k_lconst (C : Ctx l R n0 Z own bytes ml nm rt Q K O) {i : Fin 2} {v : Int64} (H : K pc L (S) h cl sl) (d : decode bytes pc = .ok (.lconst i, 1)) (hv : Int64.ofNat i = v) (hp : pc + 1 = pc') : K pc' L (.long v :: S) h cl sl := by
  subst hp
  exact C.pure H fun p e s m args below meth c T locs X hx hby _ _ _ t k => XS.lconst X.here hx rfl (hb hby d) (by rw [hv]; exact k)
theorem k_anull (C : Ctx l R n0 Z own bytes ml nm rt Q K O)  (H : K pc L (S) h cl sl) (d : decode bytes pc = .ok (.aconst_null, 1))  (hp : pc + 1 = pc') : K pc' L (.null :: S) h cl sl := by
  subst hp
  exact C.pure H fun p e s m args below meth c T locs X hx hby _ _ _ t k => XS.aconstNull X.here hx rfl (hb hby d) k
theorem k_iadd (C : Ctx l R n0 Z own bytes ml nm rt Q K O) {x y : Int32} (H : K pc L (.int y :: .int x :: rest) h cl sl) (d : decode bytes pc = .ok (.iadd, 1))  (hp : pc + 1 = pc') : K pc' L (.int (x + y) :: rest) h cl sl := by
  subst hp
  exact C.pure H fun p e s m args below meth c T locs X hx hby _ _ _ t k => XS.iadd X.here hx rfl (hb hby d) rfl k
theorem k_isub (C : Ctx l R n0 Z own bytes ml nm rt Q K O) {x y : Int32} (H : K pc L (.int y :: .int x :: rest) h cl sl) (d : decode bytes pc = .ok (.isub, 1))  (hp : pc + 1 = pc') : K pc' L (.int (x - y) :: rest) h cl sl := by
  subst hp
  exact C.pure H fun p e s m args below meth c T locs X hx hby _ _ _ t k => XS.isub X.here hx rfl (hb hby d) rfl k
theorem k_imul (C : Ctx l R n0 Z own bytes ml nm rt Q K O) {x y : Int32} (H : K pc L (.int y :: .int x :: rest) h cl sl) (d : decode bytes pc = .ok (.imul, 1))  (hp : pc + 1 = pc') : K pc' L (.int (x * y) :: rest) h cl sl := by
  subst hp
  exact C.pure H fun p e s m args below meth c T locs X hx hby _ _ _ t k => XS.imul X.here hx rfl (hb hby d) rfl k
theorem k_iand (C : Ctx l R n0 Z own bytes ml nm rt Q K O) {x y : Int32} (H : K pc L (.int y :: .int x :: rest) h cl sl) (d : decode bytes pc = .ok (.iand, 1))  (hp : pc + 1 = pc') : K pc' L (.int (x &&& y) :: rest) h cl sl := by
  subst hp
  exact C.pure H fun p e s m args below meth c T locs X hx hby _ _ _ t k => XS.iand X.here hx rfl (hb hby d) rfl k
theorem k_ior (C : Ctx l R n0 Z own bytes ml nm rt Q K O) {x y : Int32} (H : K pc L (.int y :: .int x :: rest) h cl sl) (d : decode bytes pc = .ok (.ior, 1))  (hp : pc + 1 = pc') : K pc' L (.int (x ||| y) :: rest) h cl sl := by
  subst hp
  exact C.pure H fun p e s m args below meth c T locs X hx hby _ _ _ t k => XS.ior X.here hx rfl (hb hby d) rfl k
theorem k_ixor (C : Ctx l R n0 Z own bytes ml nm rt Q K O) {x y : Int32} (H : K pc L (.int y :: .int x :: rest) h cl sl) (d : decode bytes pc = .ok (.ixor, 1))  (hp : pc + 1 = pc') : K pc' L (.int (x ^^^ y) :: rest) h cl sl := by
  subst hp
  exact C.pure H fun p e s m args below meth c T locs X hx hby _ _ _ t k => XS.ixor X.here hx rfl (hb hby d) rfl k
theorem k_ishl (C : Ctx l R n0 Z own bytes ml nm rt Q K O) {x y : Int32} (H : K pc L (.int y :: .int x :: rest) h cl sl) (d : decode bytes pc = .ok (.ishl, 1))  (hp : pc + 1 = pc') : K pc' L (.int (x <<< (y &&& 31)) :: rest) h cl sl := by
  subst hp
  exact C.pure H fun p e s m args below meth c T locs X hx hby _ _ _ t k => XS.ishl X.here hx rfl (hb hby d) rfl k
theorem k_ishr (C : Ctx l R n0 Z own bytes ml nm rt Q K O) {x y : Int32} (H : K pc L (.int y :: .int x :: rest) h cl sl) (d : decode bytes pc = .ok (.ishr, 1))  (hp : pc + 1 = pc') : K pc' L (.int (x >>> (y &&& 31)) :: rest) h cl sl := by
  subst hp
  exact C.pure H fun p e s m args below meth c T locs X hx hby _ _ _ t k => XS.ishr X.here hx rfl (hb hby d) rfl k
theorem k_iushr (C : Ctx l R n0 Z own bytes ml nm rt Q K O) {x y : Int32} (H : K pc L (.int y :: .int x :: rest) h cl sl) (d : decode bytes pc = .ok (.iushr, 1))  (hp : pc + 1 = pc') : K pc' L (.int ((x.toUInt32 >>> (y &&& 31).toUInt32).toInt32) :: rest) h cl sl := by
  subst hp
  exact C.pure H fun p e s m args below meth c T locs X hx hby _ _ _ t k => XS.iushr X.here hx rfl (hb hby d) rfl k
theorem k_ladd (C : Ctx l R n0 Z own bytes ml nm rt Q K O) {x y : Int64} (H : K pc L (.long y :: .long x :: rest) h cl sl) (d : decode bytes pc = .ok (.ladd, 1))  (hp : pc + 1 = pc') : K pc' L (.long (x + y) :: rest) h cl sl := by
  subst hp
  exact C.pure H fun p e s m args below meth c T locs X hx hby _ _ _ t k => XS.ladd X.here hx rfl (hb hby d) rfl k
theorem k_lsub (C : Ctx l R n0 Z own bytes ml nm rt Q K O) {x y : Int64} (H : K pc L (.long y :: .long x :: rest) h cl sl) (d : decode bytes pc = .ok (.lsub, 1))  (hp : pc + 1 = pc') : K pc' L (.long (x - y) :: rest) h cl sl := by
  subst hp
  exact C.pure H fun p e s m args below meth c T locs X hx hby _ _ _ t k => XS.lsub X.here hx rfl (hb hby d) rfl k
theorem k_lmul (C : Ctx l R n0 Z own bytes ml nm rt Q K O) {x y : Int64} (H : K pc L (.long y :: .long x :: rest) h cl sl) (d : decode bytes pc = .ok (.lmul, 1))  (hp : pc + 1 = pc') : K pc' L (.long (x * y) :: rest) h cl sl := by
  subst hp
  exact C.pure H fun p e s m args below meth c T locs X hx hby _ _ _ t k => XS.lmul X.here hx rfl (hb hby d) rfl k
theorem k_land (C : Ctx l R n0 Z own bytes ml nm rt Q K O) {x y : Int64} (H : K pc L (.long y :: .long x :: rest) h cl sl) (d : decode bytes pc = .ok (.land, 1))  (hp : pc + 1 = pc') : K pc' L (.long (x &&& y) :: rest) h cl sl := by
  subst hp
  exact C.pure H fun p e s m args below meth c T locs X hx hby _ _ _ t k => XS.land X.here hx rfl (hb hby d) rfl k
theorem k_lor (C : Ctx l R n0 Z own bytes ml nm rt Q K O) {x y : Int64} (H : K pc L (.long y :: .long x :: rest) h cl sl) (d : decode bytes pc = .ok (.lor, 1))  (hp : pc + 1 = pc') : K pc' L (.long (x ||| y) :: rest) h cl sl := by
  subst hp
  exact C.pure H fun p e s m args below meth c T locs X hx hby _ _ _ t k => XS.lor X.here hx rfl (hb hby d) rfl k
theorem k_lxor (C : Ctx l R n0 Z own bytes ml nm rt Q K O) {x y : Int64} (H : K pc L (.long y :: .long x :: rest) h cl sl) (d : decode bytes pc = .ok (.lxor, 1))  (hp : pc + 1 = pc') : K pc' L (.long (x ^^^ y) :: rest) h cl sl := by
  subst hp
  exact C.pure H fun p e s m args below meth c T locs X hx hby _ _ _ t k => XS.lxor X.here hx rfl (hb hby d) rfl k
theorem k_lshl (C : Ctx l R n0 Z own bytes ml nm rt Q K O) {x : Int64} {y : Int32} (H : K pc L (.int y :: .long x :: rest) h cl sl) (d : decode bytes pc = .ok (.lshl, 1))  (hp : pc + 1 = pc') : K pc' L (.long (x <<< (y &&& 0x3f).toInt64) :: rest) h cl sl := by
  subst hp
  exact C.pure H fun p e s m args below meth c T locs X hx hby _ _ _ t k => XS.lshl X.here hx rfl (hb hby d) rfl k
theorem k_lshr (C : Ctx l R n0 Z own bytes ml nm rt Q K O) {x : Int64} {y : Int32} (H : K pc L (.int y :: .long x :: rest) h cl sl) (d : decode bytes pc = .ok (.lshr, 1))  (hp : pc + 1 = pc') : K pc' L (.long (x >>> (y &&& 0x3f).toInt64) :: rest) h cl sl := by
  subst hp
  exact C.pure H fun p e s m args below meth c T locs X hx hby _ _ _ t k => XS.lshr X.here hx rfl (hb hby d) rfl k
theorem k_lushr (C : Ctx l R n0 Z own bytes ml nm rt Q K O) {x : Int64} {y : Int32} (H : K pc L (.int y :: .long x :: rest) h cl sl) (d : decode bytes pc = .ok (.lushr, 1))  (hp : pc + 1 = pc') : K pc' L (.long ((x.toUInt64 >>> (y &&& 0x3f).toInt64.toUInt64).toInt64) :: rest) h cl sl := by
  subst hp
  exact C.pure H fun p e s m args below meth c T locs X hx hby _ _ _ t k => XS.lushr X.here hx rfl (hb hby d) rfl k
theorem k_lcmp (C : Ctx l R n0 Z own bytes ml nm rt Q K O) {x y : Int64} (H : K pc L (.long y :: .long x :: rest) h cl sl) (d : decode bytes pc = .ok (.lcmp, 1))  (hp : pc + 1 = pc') : K pc' L (.int (lcmpW x y) :: rest) h cl sl := by
  subst hp
  exact C.pure H fun p e s m args below meth c T locs X hx hby _ _ _ t k => XS.lcmp X.here hx rfl (hb hby d) rfl k
theorem k_ineg (C : Ctx l R n0 Z own bytes ml nm rt Q K O) {x : Int32} (H : K pc L (.int x :: rest) h cl sl) (d : decode bytes pc = .ok (.ineg, 1))  (hp : pc + 1 = pc') : K pc' L (.int (-x) :: rest) h cl sl := by
  subst hp
  exact C.pure H fun p e s m args below meth c T locs X hx hby _ _ _ t k => XS.ineg X.here hx rfl (hb hby d) rfl k
theorem k_idiv (C : Ctx l R n0 Z own bytes ml nm rt Q K O) {x y : Int32} (H : K pc L (.int y :: .int x :: rest) h cl sl) (d : decode bytes pc = .ok (.idiv, 1)) (hy : y ≠ 0) (hp : pc + 1 = pc') : K pc' L (.int (x / y) :: rest) h cl sl := by
  subst hp
  exact C.pure H fun p e s m args below meth c T locs X hx hby _ _ _ t k => XS.idiv X.here hx rfl (hb hby d) rfl hy k
theorem k_irem (C : Ctx l R n0 Z own bytes ml nm rt Q K O) {x y : Int32} (H : K pc L (.int y :: .int x :: rest) h cl sl) (d : decode bytes pc = .ok (.irem, 1)) (hy : y ≠ 0) (hp : pc + 1 = pc') : K pc' L (.int (x % y) :: rest) h cl sl := by
  subst hp
  exact C.pure H fun p e s m args below meth c T locs X hx hby _ _ _ t k => iremM X hx rfl (hb hby d) rfl hy k
theorem k_ldiv (C : Ctx l R n0 Z own bytes ml nm rt Q K O) {x y : Int64} (H : K pc L (.long y :: .long x :: rest) h cl sl) (d : decode bytes pc = .ok (.ldiv, 1)) (hy : y ≠ 0) (hp : pc + 1 = pc') : K pc' L (.long (x / y) :: rest) h cl sl := by
  subst hp
  exact C.pure H fun p e s m args below meth c T locs X hx hby _ _ _ t k => XS.ldiv X.here hx rfl (hb hby d) rfl hy k
theorem k_i2l (C : Ctx l R n0 Z own bytes ml nm rt Q K O) {x : Int32} (H : K pc L (.int x :: rest) h cl sl) (d : decode bytes pc = .ok (.i2l, 1))  (hp : pc + 1 = pc') : K pc' L (.long (x.toInt64) :: rest) h cl sl := by
  subst hp
  exact C.pure H fun p e s m args below meth c T locs X hx hby _ _ _ t k => XS.i2l X.here hx rfl (hb hby d) rfl k
theorem k_l2i (C : Ctx l R n0 Z own bytes ml nm rt Q K O) {x : Int64} (H : K pc L (.long x :: rest) h cl sl) (d : decode bytes pc = .ok (.l2i, 1))  (hp : pc + 1 = pc') : K pc' L (.int (x.toInt32) :: rest) h cl sl := by
  subst hp
  exact C.pure H fun p e s m args below meth c T locs X hx hby _ _ _ t k => XS.l2i X.here hx rfl (hb hby d) rfl k
theorem k_i2b (C : Ctx l R n0 Z own bytes ml nm rt Q K O) {x : Int32} (H : K pc L (.int x :: rest) h cl sl) (d : decode bytes pc = .ok (.i2b, 1))  (hp : pc + 1 = pc') : K pc' L (.int (x.toInt8.toInt32) :: rest) h cl sl := by
  subst hp
  exact C.pure H fun p e s m args below meth c T locs X hx hby _ _ _ t k => XS.i2b X.here hx rfl (hb hby d) rfl k
theorem k_i2c (C : Ctx l R n0 Z own bytes ml nm rt Q K O) {x : Int32} (H : K pc L (.int x :: rest) h cl sl) (d : decode bytes pc = .ok (.i2c, 1))  (hp : pc + 1 = pc') : K pc' L (.int (x.toUInt32.toUInt16.toUInt32.toInt32) :: rest) h cl sl := by
  subst hp
  exact C.pure H fun p e s m args below meth c T locs X hx hby _ _ _ t k => XS.i2c X.here hx rfl (hb hby d) rfl k
theorem k_i2s (C : Ctx l R n0 Z own bytes ml nm rt Q K O) {x : Int32} (H : K pc L (.int x :: rest) h cl sl) (d : decode bytes pc = .ok (.i2s, 1))  (hp : pc + 1 = pc') : K pc' L (.int (x.toInt16.toInt32) :: rest) h cl sl := by
  subst hp
  exact C.pure H fun p e s m args below meth c T locs X hx hby _ _ _ t k => XS.i2s X.here hx rfl (hb hby d) rfl k
theorem k_dup (C : Ctx l R n0 Z own bytes ml nm rt Q K O) {x : Value} (H : K pc L (x :: rest) h cl sl) (d : decode bytes pc = .ok (.dup, 1)) (hc : x.category = 1) (hp : pc + 1 = pc') : K pc' L (x :: x :: rest) h cl sl := by
  subst hp
  exact C.pure H fun p e s m args below meth c T locs X hx hby _ _ _ t k => XS.dup X.here hx rfl (hb hby d) rfl hc k
theorem k_pop (C : Ctx l R n0 Z own bytes ml nm rt Q K O) {x : Value} (H : K pc L (x :: rest) h cl sl) (d : decode bytes pc = .ok (.pop, 1)) (hc : x.category = 1) (hp : pc + 1 = pc') : K pc' L (rest) h cl sl := by
  subst hp
  exact C.pure H fun p e s m args below meth c T locs X hx hby _ _ _ t k => XS.pop X.here hx rfl (hb hby d) rfl hc k
theorem k_dupX1 (C : Ctx l R n0 Z own bytes ml nm rt Q K O) {x y : Value} (H : K pc L (x :: y :: rest) h cl sl) (d : decode bytes pc = .ok (.dup_x1, 1)) (hc : x.category = 1) (hc' : y.category = 1) (hp : pc + 1 = pc') : K pc' L (x :: y :: x :: rest) h cl sl := by
  subst hp
  exact C.pure H fun p e s m args below meth c T locs X hx hby _ _ _ t k => XS.dupX1 X.here hx rfl (hb hby d) rfl hc hc' k
theorem k_dup2 (C : Ctx l R n0 Z own bytes ml nm rt Q K O) {x y : Value} (H : K pc L (x :: y :: rest) h cl sl) (d : decode bytes pc = .ok (.dup2, 1)) (hc : x.category = 1) (hc' : y.category = 1) (hp : pc + 1 = pc') : K pc' L (x :: y :: x :: y :: rest) h cl sl := by
  subst hp
  exact C.pure H fun p e s m args below meth c T locs X hx hby _ _ _ t k => Jvm.Free.XT.dup2 X.here hx rfl (hb hby d) rfl hc hc' k
theorem k_iinc (C : Ctx l R n0 Z own bytes ml nm rt Q K O) {k : Nat} {i : Int} {x y : Int32} {L' : Array Slot} (H : K pc L (S) h cl sl) (d : decode bytes pc = .ok (.iinc k i, 3)) (hl : L[k]? = some (.val (.int x))) (hv : x + Int32.ofInt i = y) (hl' : storeLocals L k (.int y) = some L') (hp : pc + 3 = pc') : K pc' L' (S) h cl sl := by
  subst hp
  exact C.pure H fun p e s m args below meth c T locs X hx hby _ _ _ t k => XS.iinc X.here hx rfl (hb hby d) hl (by rw [hv]; exact hl') k
theorem k_ifcY (C : Ctx l R n0 Z own bytes ml nm rt Q K O) {cd : ClassFile.Cond} {o : Int} {x : Int32} (H : K pc L (.int x :: rest) h cl sl) (d : decode bytes pc = .ok (.ifCond cd o, 3)) (hc : if_icmp.holds cd x 0 = true) (ho : 0 ≤ (pc : Int) + o) (hp : ((pc : Int) + o).toNat = pc') : K pc' L rest h cl sl :=
  C.pure H fun p e s m args below meth c T locs X hx hby _ _ _ t k => XS.ifYes X.here hx rfl (pc0 := pc) rfl (hb hby d) rfl ((if0 _ _).trans hc) ho hp k
theorem k_ifcN (C : Ctx l R n0 Z own bytes ml nm rt Q K O) {cd : ClassFile.Cond} {o : Int} {x : Int32} (H : K pc L (.int x :: rest) h cl sl) (d : decode bytes pc = .ok (.ifCond cd o, 3)) (hc : if_icmp.holds cd x 0 = false) (hp : pc + 3 = pc') : K pc' L rest h cl sl := by
  subst hp
  exact C.pure H fun p e s m args below meth c T locs X hx hby _ _ _ t k => XS.ifNo X.here hx rfl (hb hby d) rfl ((if0 _ _).trans hc) k
theorem k_icmpY (C : Ctx l R n0 Z own bytes ml nm rt Q K O) {cd : ClassFile.Cond} {o : Int} {x y : Int32} (H : K pc L (.int y :: .int x :: rest) h cl sl) (d : decode bytes pc = .ok (.if_icmp cd o, 3)) (hc : if_icmp.holds cd x y = true) (ho : 0 ≤ (pc : Int) + o) (hp : ((pc : Int) + o).toNat = pc') : K pc' L rest h cl sl :=
  C.pure H fun p e s m args below meth c T locs X hx hby _ _ _ t k => XS.icmpYes X.here hx rfl (pc0 := pc) rfl (hb hby d) rfl hc ho hp k
theorem k_icmpN (C : Ctx l R n0 Z own bytes ml nm rt Q K O) {cd : ClassFile.Cond} {o : Int} {x y : Int32} (H : K pc L (.int y :: .int x :: rest) h cl sl) (d : decode bytes pc = .ok (.if_icmp cd o, 3)) (hc : if_icmp.holds cd x y = false) (hp : pc + 3 = pc') : K pc' L rest h cl sl := by
  subst hp
  exact C.pure H fun p e s m args below meth c T locs X hx hby _ _ _ t k => XS.icmpNo X.here hx rfl (hb hby d) rfl hc k
theorem k_goto (C : Ctx l R n0 Z own bytes ml nm rt Q K O) (H : K pc L S h cl sl) {o : Int} (d : decode bytes pc = .ok (.goto o, 3)) (ho : 0 ≤ (pc : Int) + o) (hp : ((pc : Int) + o).toNat = pc') : K pc' L S h cl sl :=
  C.pure H fun p e s m args below meth c T locs X hx hby _ _ _ t k => XS.goto X.here hx rfl (pc0 := pc) rfl (hb hby d) ho hp k
theorem k_ifnullY (C : Ctx l R n0 Z own bytes ml nm rt Q K O) (H : K pc L (.null :: rest) h cl sl) {o : Int} (d : decode bytes pc = .ok (.ifnull o, 3)) (ho : 0 ≤ (pc : Int) + o) (hp : ((pc : Int) + o).toNat = pc') : K pc' L rest h cl sl :=
  C.pure H fun p e s m args below meth c T locs X hx hby _ _ _ t k => XS.ifnullYes X.here hx rfl (pc0 := pc) rfl (hb hby d) rfl ho hp k
theorem k_ifnullN (C : Ctx l R n0 Z own bytes ml nm rt Q K O) {b : Addr} (H : K pc L (.ref b :: rest) h cl sl) {o : Int} (d : decode bytes pc = .ok (.ifnull o, 3)) (hp : pc + 3 = pc') : K pc' L rest h cl sl := by
  subst hp
  exact C.pure H fun p e s m args below meth c T locs X hx hby _ _ _ t k => XS.ifnullNo X.here hx rfl (hb hby d) rfl k
theorem k_ifnonnullY (C : Ctx l R n0 Z own bytes ml nm rt Q K O) {b : Addr} (H : K pc L (.ref b :: rest) h cl sl) {o : Int} (d : decode bytes pc = .ok (.ifnonnull o, 3)) (ho : 0 ≤ (pc : Int) + o) (hp : ((pc : Int) + o).toNat = pc') : K pc' L rest h cl sl :=
  C.pure H fun p e s m args below meth c T locs X hx hby _ _ _ t k => XS.ifnonnullYes X.here hx rfl (pc0 := pc) rfl (hb hby d) rfl ho hp k
theorem k_ifnonnullN (C : Ctx l R n0 Z own bytes ml nm rt Q K O) (H : K pc L (.null :: rest) h cl sl) {o : Int} (d : decode bytes pc = .ok (.ifnonnull o, 3)) (hp : pc + 3 = pc') : K pc' L rest h cl sl := by
  subst hp
  exact C.pure H fun p e s m args below meth c T locs X hx hby _ _ _ t k => XS.ifnonnullNo X.here hx rfl (hb hby d) rfl k
theorem k_acmp (C : Ctx l R n0 Z own bytes ml nm rt Q K O) {x y : Value} (H : K pc L (y :: x :: rest) h cl sl) {cd : ACond} {o : Int} (d : decode bytes pc = .ok (.if_acmp cd o, 3)) (h1 : x.isRef = true) (h2 : y.isRef = true) {same : Bool} (hq : decide (x = y) = same) (ho : 0 ≤ (pc : Int) + o) (hp : pc' = if acV cd same = true then ((pc : Int) + o).toNat else pc + 3) : K pc' L rest h cl sl :=
  C.pure H fun p e s m args below meth c T locs X hx hby _ _ _ t k => Jvm.RoadKit.acmp X hx rfl h1 h2 (pc0 := pc) rfl (hb hby d) rfl hq ho hp k
theorem k_dupX2 (C : Ctx l R n0 Z own bytes ml nm rt Q K O) {x y z : Value} (H : K pc L (x :: y :: z :: rest) h cl sl) (d : decode bytes pc = .ok (.dup_x2, 1)) (h1 : x.category = 1) (h2 : y.category = 1) (h3 : z.category = 1) (hp : pc + 1 = pc') : K pc' L (x :: y :: z :: x :: rest) h cl sl := by
  subst hp
  refine C.pure H fun p e s m args below meth c T locs X hx hby _ _ _ t k => ?_
  jvm_step X.here [X.here.top, hx, hb hby d, h1, h2, h3]
  exact k
theorem k_ldcI (C : Ctx l R n0 Z own bytes ml nm rt Q K O) (H : K pc L S h cl sl) {i : Nat} {v : Int32} (w : (Cond.constant own i v).before a0 Z = true) (d : decode bytes pc = .ok (.ldc i, 2)) (hp : pc + 2 = pc') : K pc' L (.int v :: S) h cl sl := by
  subst hp
  exact C.pure H fun p e s m args below meth c T locs X hx hby hZ hown _ t k => X.ldcInt hx hown (mvT hZ w) (g := mkF m pc L S) rfl (hb hby d) t k
theorem k_ldcL (C : Ctx l R n0 Z own bytes ml nm rt Q K O) (H : K pc L S h cl sl) {i : Nat} {v : Int64} (w : (Cond.constantLong own i v).before a0 Z = true) (d : decode bytes pc = .ok (.ldc2_w i, 3)) (hp : pc + 3 = pc') : K pc' L (.long v :: S) h cl sl := by
  subst hp
  exact C.pure H fun p e s m args below meth c T locs X hx hby hZ hown _ t k => X.ldc2Long hx hown (mvT hZ w) (g := mkF m pc L S) rfl (hb hby d) t k
theorem k_getFld (C : Ctx l R n0 Z own bytes ml nm rt Q K O) {a : Addr} (H : K pc L (.ref a :: rest) h cl sl) {i : Nat} {O' n d' : String} {v : Value} (w : (Cond.fieldLink own i O' n d').before a0 Z = true) (F : Fld Z h a O' n d' v) (d : decode bytes pc = .ok (.getfield i, 3)) (hp : pc + 3 = pc') : K pc' L (v :: rest) h cl sl := by
  subst hp
  exact C.note H fun p e s m args below meth c T locs X hx hby hZ hown _ eT => getF X hx hZ hown (host := "") (Or.inl w) Via.refl eT F (g := mkF m pc L (.ref a :: rest)) rfl rfl (hb hby d)
theorem k_getFldN (C : Ctx l R n0 Z own bytes ml nm rt Q K O) {a : Addr} (H : K pc L (.ref a :: rest) h cl sl) {i : Nat} {O' n d' host : String} {v : Value} (w : (Cond.fieldLinkNest own i O' n d' host).before a0 Z = true) (F : Fld Z h a O' n d' v) (d : decode bytes pc = .ok (.getfield i, 3)) (hp : pc + 3 = pc') : K pc' L (v :: rest) h cl sl := by
  subst hp
  exact C.note H fun p e s m args below meth c T locs X hx hby hZ hown _ eT => getF X hx hZ hown (Or.inr w) Via.refl eT F (g := mkF m pc L (.ref a :: rest)) rfl rfl (hb hby d)
theorem k_getSta (C : Ctx l R n0 Z own bytes ml nm rt Q K O) (H : K pc L S h cl sl) {i : Nat} {O' n d' : String} {v : Value} (w : (Cond.fieldLink own i O' n d').before a0 Z = true) (F : Sta Z h O' n d' v) (d : decode bytes pc = .ok (.getstatic i, 3)) (hp : pc + 3 = pc') : K pc' L (v :: S) h cl sl := by
  subst hp
  exact C.note H fun p e s m args below meth c T locs X hx hby hZ hown _ eT => getS2 X hx hZ hown (host := "") (Or.inl w) Via.refl eT F (g := mkF m pc L S) rfl (hb hby d)
theorem k_initObj (C : Ctx l R n0 Z own bytes ml nm rt Q K O) {a : Addr} (H : K pc L (.ref a :: rest) h cl sl) {i : Nat} (w1 : (Cond.methodLink own i Lib.objectInit).before a0 Z = true) (w2 : (Cond.instanceMethod Lib.objectInit).before a0 Z = true) (w3 : (Cond.code Lib.objectInit ⟨#[0xb1]⟩ 1 none).before a0 Z = true) (d : decode bytes pc = .ok (.invokespecial i, 3)) (hsz : L.size = ml)
    (hf : 1 ≤ R.frames) (W : Nat) (hW : (rest.map fun v => v.category).sum = W) (hl : W + 12 ≤ R.locals) (hp : pc + 3 = pc') : K pc' L rest h cl sl := by
  subst hp
  exact C.note H fun p e s m args below meth c T locs X hx hby hZ hown hml eT => initO X hx hZ hown w1 w2 w3 eT (g := mkF m pc L (.ref a :: rest)) rfl (hsz.trans hml.symm) rfl (hb hby d) hf (W := W) (by show 2 * 0 + _ ≤ _; omega) hl
theorem k_castYes (C : Ctx l R n0 Z own bytes ml nm rt Q K O) {a : Addr} (H : K pc L (.ref a :: rest) h cl sl) {i : Nat} {C' : String} (w : (Cond.classLink own i C').before a0 Z = true) (F : Ins Z h a C' true) (d : decode bytes pc = .ok (.checkcast i, 3)) (hp : pc + 3 = pc') : K pc' L (.ref a :: rest) h cl sl := by
  subst hp
  exact C.note H fun p e s m args below meth c T locs X hx hby hZ hown _ eT => castY X hx hZ hown w eT F (g := mkF m pc L (.ref a :: rest)) rfl rfl (hb hby d)
theorem k_castNull (C : Ctx l R n0 Z own bytes ml nm rt Q K O) (H : K pc L (.null :: rest) h cl sl) {i : Nat} (d : decode bytes pc = .ok (.checkcast i, 3)) (hp : pc + 3 = pc') : K pc' L (.null :: rest) h cl sl := by
  subst hp
  exact C.pure H fun p e s m args below meth c T locs X hx hby hZ hown _ t k => X.checkcastNull hx (g := mkF m pc L (.null :: rest)) rfl rfl (hb hby d) t k
theorem k_instYes (C : Ctx l R n0 Z own bytes ml nm rt Q K O) {a : Addr} (H : K pc L (.ref a :: rest) h cl sl) {i : Nat} {C' : String} (w : (Cond.classLink own i C').before a0 Z = true) (F : Ins Z h a C' true) (d : decode bytes pc = .ok (.instanceof i, 3)) (hp : pc + 3 = pc') : K pc' L (.int 1 :: rest) h cl sl := by
  subst hp
  exact C.note H fun p e s m args below meth c T locs X hx hby hZ hown _ eT => instY X hx hZ hown w eT F (g := mkF m pc L (.ref a :: rest)) rfl rfl (hb hby d)
theorem k_instNull (C : Ctx l R n0 Z own bytes ml nm rt Q K O) (H : K pc L (.null :: rest) h cl sl) {i : Nat} (d : decode bytes pc = .ok (.instanceof i, 3)) (hp : pc + 3 = pc') : K pc' L (.int 0 :: rest) h cl sl := by
  subst hp
  exact C.pure H fun p e s m args below meth c T locs X hx hby hZ hown _ t k => X.instanceofNull hx (g := mkF m pc L (.null :: rest)) rfl rfl (hb hby d) t k
theorem k_instNot (C : Ctx l R n0 Z own bytes ml nm rt Q K O) {a : Addr} (H : K pc L (.ref a :: rest) h cl sl) {i : Nat} {C' D' : String} (w : (Cond.classLink own i C').before a0 Z = true) (E : Exa Z h a D') (F : ∃ c t, Z.vm.findClass D' = some c ∧ Z.vm.findClass C' = some t ∧ Z.vm.assignable c t = false) (d : decode bytes pc = .ok (.instanceof i, 3)) (hp : pc + 3 = pc') : K pc' L (.int 0 :: rest) h cl sl := by
  subst hp
  exact C.note H fun p e s m args below meth c T locs X hx hby hZ hown _ eT => instNo X hx hZ hown w eT E F (g := mkF m pc L (.ref a :: rest)) rfl rfl (hb hby d)
/-! what writes or makes -/
theorem k_putFld (C : Ctx l R n0 Z own bytes ml nm rt Q K O) {a : Addr} {v : Value} (H : K pc L (v :: .ref a :: rest) h cl sl) {i kk : Nat} {O' n d' C' : String} {ty : FieldType} {old : Value} (w : (Cond.fieldLink own i O' n d').before a0 Z = true) (F : Fld Z h a O' n d' old) (E : Exa Z h a C')
    (Lw : (Cond.lays C' O' n d').before a0 Z = true ∨ ((Cond.laysFinal C' O' n d').before a0 Z = true ∧ own = O' ∧ nm = "<init>")) (wi : (Cond.instantiable C' kk).before a0 Z = true) (hty : parseFieldDescriptor d' = some ty) {v' : Value} (hn : narrow ty v = v') (hf : fits ty v' = true) (g : n0 ≤ a) (d : decode bytes pc = .ok (.putfield i, 3)) (hp : pc + 3 = pc') :
    ∃ h', Wr h h' a (Jvm.RoadKit.slotOf Z O' n d') v' ∧ K pc' L rest h' cl sl := by
  subst hp
  obtain ⟨p, e, s, m, args, below, meth, c, s1, f0, hx, hby, hZ, hown, hml, hnm, hrt, hlk, hK, hO⟩ := C
  obtain ⟨T, locs, X, eT, N, st⟩ := (hK _ _ _ _ _ _).mp H
  obtain ⟨T', h', X', e', W', st'⟩ := putFN X hx hZ hown w Via.refl eT F E (Lw.imp id fun q => ⟨q.1, q.2.1, hnm.trans q.2.2⟩) wi hty hn hf (g := mkF m pc L (v :: .ref a :: rest)) rfl rfl (hb hby d)
  exact ⟨h', W', (hK _ _ _ _ _ _).mpr ⟨T', _, X', e', Fr.snoc X' N g, fun t k => st t (st' t k)⟩⟩
theorem k_newObj (C : Ctx l R n0 Z own bytes ml nm rt Q K O) (H : K pc L S h cl sl) {i n : Nat} {C' : String} (w : (Cond.classLink own i C').before a0 Z = true) (wi : (Cond.instantiable C' n).before a0 Z = true) (wz : (Cond.initialized C').before a0 Z = true) (d : decode bytes pc = .ok (.new i, 3)) (hc : cl + 1 ≤ R.cells) (hl : sl + n ≤ R.slots) (hp : pc + 3 = pc') :
    ∃ h' b, b = h.size ∧ Ext h h' ∧ Exa Z h' b C' ∧ (∀ {O' nm' d' : String} {ty : FieldType}, Laid Z a0 C' O' nm' d' → parseFieldDescriptor d' = some ty → Fld Z h' b O' nm' d' (defaultValue ty)) ∧ K pc' L (.ref b :: S) h' (cl + 1) (sl + n) := by
  subst hp
  obtain ⟨p, e, s, m, args, below, meth, c, s1, f0, hx, hby, hZ, hown, hml, hnm, hrt, hlk, hK, hO⟩ := C
  obtain ⟨T, locs, X, eT, N, st⟩ := (hK _ _ _ _ _ _).mp H
  obtain ⟨T', h', X', e', E', A', D', -, st'⟩ := newO X hx hZ hown w wi wz eT (g := mkF m pc L S) rfl (hb hby d) hc hl
  exact ⟨h', _, rfl, E', A', D', (hK _ _ _ _ _ _).mpr ⟨T', _, X', e', N, fun t k => st t (st' t k)⟩⟩
theorem k_newArr (C : Ctx l R n0 Z own bytes ml nm rt Q K O) {n : Int32} (H : K pc L (.int n :: rest) h cl sl) {aty : ArrayType} (w : (Cond.arrayClass (newarray.typeOf aty)).before a0 Z = true) (d : decode bytes pc = .ok (.newarray aty, 2)) (hn : ¬ n < 0) {cap : Nat} (hcap : n.toNatClampNeg ≤ cap) (hb' : cap * 8 ≤ 536870912) (hc : cl + 1 ≤ R.cells) (hl : sl + cap ≤ R.slots) (hp : pc + 2 = pc') :
    ∃ h' b cA, b = h.size ∧ Ext h h' ∧ Arr Z h' b (newA cA (newarray.typeOf aty) n) (newarray.typeOf aty) ∧ K pc' L (.ref b :: rest) h' (cl + 1) (sl + cap) := by
  subst hp
  obtain ⟨p, e, s, m, args, below, meth, c, s1, f0, hx, hby, hZ, hown, hml, hnm, hrt, hlk, hK, hO⟩ := C
  obtain ⟨T, locs, X, eT, N, st⟩ := (hK _ _ _ _ _ _).mp H
  obtain ⟨T', h', cA, X', e', E', A', st'⟩ := newP X hx hZ w eT (g := mkF m pc L (.int n :: rest)) rfl (hb hby d) rfl hn hcap hb' hc hl
  exact ⟨h', _, cA, rfl, E', A', (hK _ _ _ _ _ _).mpr ⟨T', _, X', e', N, fun t k => st t (st' t k)⟩⟩
/-! the returns -/
theorem k_out_of (C : Ctx l R n0 Z own bytes ml nm rt Q K O) (H : K pc L S h cl sl) {v : Option Value} (hv : rt = none → v = none) (hq : Q v h) (hc : cl ≤ R.cells) (hl : sl ≤ R.slots)
    (f : ∀ (p : Program) (e : Env) (s : State) (m : MethodId) (args : Array Value) (below : List Frame) (meth : Method) (c : Code) (T : State) (locs : List Loc) (fs : List Frame), Stand p l e R s m args below meth c T locs cl sl → p.tables.exec = Jvm.exec → c.code = bytes → meth.sig.returnType = rt →
      (∀ (f : JFrame) (acts : List Action), f.method = m → f.locked = none → f.entered = [] → (doReturn e (T.setTop f) acts v).1 = T.setFrames fs) → Steps p.tables e below (T.setTop (mkF m pc L S)) (T.setFrames fs)) : O := by
  obtain ⟨p, e, s, m, args, below, meth, c, s1, f0, hx, hby, hZ, hown, hml, hnm, hrt, hlk, hK, hO⟩ := C
  obtain ⟨T, locs, X, eT, N, st⟩ := (hK _ _ _ _ _ _).mp H
  obtain ⟨fs, hr, hrun, hended, hW, hsame⟩ := X.leave (v := v) (fun q => hv (hrt.symm.trans q)) hlk
  refine hO ⟨_, _, st _ (f p e s m args below meth c T locs fs X hx hby hrt hr), hrun, hended, v, locs, rfl, ⟨?_, N⟩, ⟨_, rfl⟩, hW, hsame.mono hc hl⟩
  show Q v T.heap
  rw [eT]; exact hq
theorem k_retV (C : Ctx l R n0 Z own bytes ml nm none Q K O) (H : K pc L [] h cl sl) (d : decode bytes pc = .ok (.return_, 1)) (hc : cl ≤ R.cells) (hl : sl ≤ R.slots) (hq : Q none h) : O :=
  k_out_of C H (fun _ => rfl) hq hc hl fun p e s m args below meth c T locs fs X hx hby hrt hr => X.returnOut hx hrt (hb hby d) hr
theorem k_retI (C : Ctx l R n0 Z own bytes ml nm (some .int) Q K O) {z : Int32} (H : K pc L (.int z :: rest) h cl sl) (d : decode bytes pc = .ok (.ireturn, 1)) (hc : cl ≤ R.cells) (hl : sl ≤ R.slots) (hq : Q (some (.int z)) h) : O :=
  k_out_of C H (fun q => nomatch q) hq hc hl fun p e s m args below meth c T locs fs X hx hby hrt hr => retOut X hx hrt (i := .ireturn) rfl (Or.inl ⟨rfl, Or.inl rfl, _, rfl⟩) (hb hby d) hr
theorem k_retJ (C : Ctx l R n0 Z own bytes ml nm (some .long) Q K O) {z : Int64} (H : K pc L (.long z :: rest) h cl sl) (d : decode bytes pc = .ok (.lreturn, 1)) (hc : cl ≤ R.cells) (hl : sl ≤ R.slots) (hq : Q (some (.long z)) h) : O :=
  k_out_of C H (fun q => nomatch q) hq hc hl fun p e s m args below meth c T locs fs X hx hby hrt hr => retOut X hx hrt (i := .lreturn) rfl (Or.inr (Or.inl ⟨rfl, rfl, _, rfl⟩)) (hb hby d) hr
theorem k_retA {t : FieldType} (C : Ctx l R n0 Z own bytes ml nm (some t) Q K O) {v : Value} (H : K pc L (v :: rest) h cl sl) (d : decode bytes pc = .ok (.areturn, 1)) (ht : t.isReference = true) (hv : v.isRef = true) (hc : cl ≤ R.cells) (hl : sl ≤ R.slots) (hq : Q (some v) h) : O :=
  k_out_of C H (fun q => nomatch q) hq hc hl fun p e s m args below meth c T locs fs X hx hby hrt hr => retOut X hx hrt (i := .areturn) (by rcases ref_cases hv with rfl | ⟨a, rfl⟩ <;> cases t <;> first | rfl | cases ht) (Or.inr (Or.inr (Or.inr (Or.inr ⟨rfl, ht, hv⟩)))) (hb hby d) hr
theorem k_retN {t : FieldType} (C : Ctx l R n0 Z own bytes ml nm (some t) Q K O) {z : Int32} (H : K pc L (.int z :: rest) h cl sl) (d : decode bytes pc = .ok (.ireturn, 1)) (ht : t = .boolean ∨ t = .byte ∨ t = .char ∨ t = .short) (hc : cl ≤ R.cells) (hl : sl ≤ R.slots) (hq : Q (some (.int (nar t z))) h) : O :=
  k_out_of C H (fun q => nomatch q) hq hc hl fun p e s m args below meth c T locs fs X hx hby hrt hr => Jvm.RoadKit.retN X hx hrt ht (hb hby d) hr
theorem k_retZ (C : Ctx l R n0 Z own bytes ml nm (some .boolean) Q K O) {z : Int32} (H : K pc L (.int z :: rest) h cl sl) (d : decode bytes pc = .ok (.ireturn, 1)) (hz : z &&& 1 = z) (hc : cl ≤ R.cells) (hl : sl ≤ R.slots) (hq : Q (some (.int z)) h) : O :=
  k_retN C H d (Or.inl rfl) hc hl (by show Q (some (.int (z &&& 1))) h; rw [hz]; exact hq)
/-! the calls -/
theorem k_callSta (C : Ctx l R n0 Z own bytes ml nm rt Q K O) (H : K pc L S h cl sl) {i : Nat} {y : MethodName} {bytes' : ByteArray} {ml' : Nat} {rt' : Option FieldType} {rm : Room} {as : Array Value} {Q' : Qt} (k : Con l y bytes' ml' rt' rm Z as h n0 Q')
    (w1 : (Cond.methodLink own i y).before a0 Z = true) (w2 : (Cond.static y).before a0 Z = true) (w3 : (Cond.initialized y.cls).before a0 Z = true) (w4 : (Cond.code y bytes' ml' rt').before a0 Z = true) (hy : y.cls ≠ "java/lang/invoke/MethodHandle" ∧ y.cls ≠ "java/lang/invoke/VarHandle")
    (d : decode bytes pc = .ok (.invokestatic i, 3)) (hsz : L.size = ml) (argsL rest : List Value) {ps : List FieldType} (hd : parseMethodDescriptor y.desc = some ⟨ps, rt'⟩) (hlen : argsL.length = ps.length) (hS : S = argsL.reverse ++ rest) (has : argsL.toArray = as) (W : Nat) (hW : (rest.map fun v => v.category).sum = W)
    (hfr : rm.frames + 1 ≤ R.frames) (hlo : W + (ml' + 11) + rm.locals ≤ R.locals) (hc : cl + rm.cells ≤ R.cells) (hs : sl + rm.slots ≤ R.slots) (hp : pc + 3 = pc') :
    ∃ v h', Q' v h' ∧ K pc' L (v.toList ++ rest) h' (cl + rm.cells) (sl + rm.slots) := by
  subst hp
  obtain ⟨p, e, s, m, args, below, meth, c, s1, f0, hx, hby, hZ, hown, hml, hnm, hrt, hlk, hK, hO⟩ := C
  obtain ⟨T, locs, X, eT, N, st⟩ := (hK _ _ _ _ _ _).mp H
  obtain ⟨v, _, ⟨T', L', k', n'⟩, -, X', ⟨Lc, ⟨hQ, hF⟩, l', y', z'⟩, st'⟩ := Jvm.LawKit.callS X hx (y := y) hown (mvT hZ w1) (mvT hZ w2) (mvT hZ w3) (mvT hZ w4) hy (backOf (Q := fun v h' L => Q' v h' ∧ Fr n0 L) (W := W) (k []) hZ w4 w3 hfr hlo) (g := mkF m pc L S) rfl (hsz.trans hml.symm) (argsL := argsL) (rest := rest) (lenOf hd hlen) hS (by show 2 * 0 + _ ≤ _; omega) (hb hby d) (fun _ _ => ⟨has, eT, hc, hs⟩)
  dsimp only [Pt.U, Pt.locs, Pt.cells, Pt.slots] at X' l' y' z' st' hQ
  subst l' y' z'
  exact ⟨v, T'.heap, hQ, (hK _ _ _ _ _ _).mpr ⟨T', _, X', rfl, N.app hF, fun t k => st t (st' t k)⟩⟩
theorem k_callCon (C : Ctx l R n0 Z own bytes ml nm rt Q K O) (H : K pc L S h cl sl) {i : Nat} {y : MethodName} {bytes' : ByteArray} {ml' : Nat} {rm : Room} {as : Array Value} {Q' : Qt} (k : Con l y bytes' ml' none rm Z as h n0 Q') (hi : y.name = "<init>")
    (w1 : (Cond.methodLink own i y).before a0 Z = true) (w2 : (Cond.instanceMethod y).before a0 Z = true) (w3 : (Cond.initialized y.cls).before a0 Z = true) (w4 : (Cond.code y bytes' ml' none).before a0 Z = true) (hy : y.cls ≠ "java/lang/invoke/MethodHandle" ∧ y.cls ≠ "java/lang/invoke/VarHandle")
    (d : decode bytes pc = .ok (.invokespecial i, 3)) (hsz : L.size = ml) (a : Addr) (argsL rest : List Value) {ps : List FieldType} (hd : parseMethodDescriptor y.desc = some ⟨ps, none⟩) (hlen : argsL.length = ps.length) (hS : S = argsL.reverse ++ .ref a :: rest) (has : (.ref a :: argsL).toArray = as) (W : Nat) (hW : (rest.map fun v => v.category).sum = W)
    (hfr : rm.frames + 1 ≤ R.frames) (hlo : W + (ml' + 11) + rm.locals ≤ R.locals) (hc : cl + rm.cells ≤ R.cells) (hs : sl + rm.slots ≤ R.slots) (hp : pc + 3 = pc') :
    ∃ v h', Q' v h' ∧ K pc' L (v.toList ++ rest) h' (cl + rm.cells) (sl + rm.slots) := by
  subst hp
  obtain ⟨p, e, s, m, args, below, meth, c, s1, f0, hx, hby, hZ, hown, hml, hnm, hrt, hlk, hK, hO⟩ := C
  obtain ⟨T, locs, X, eT, N, st⟩ := (hK _ _ _ _ _ _).mp H
  obtain ⟨v, _, ⟨T', L', k', n'⟩, -, X', ⟨Lc, ⟨hQ, hF⟩, l', y', z'⟩, st'⟩ := X.specialBack hx (y := y) hi hown (mvT hZ w1) (mvT hZ w2) (mvT hZ w4) hy (backOf (Q := fun v h' L => Q' v h' ∧ Fr n0 L) (W := W) (k []) hZ w4 w3 hfr hlo) (g := mkF m pc L S) rfl (hsz.trans hml.symm) (Steps.refl _) (a := a) (argsL := argsL) (rest := rest) (lenOf hd hlen) hS (by show 2 * 0 + _ ≤ _; omega) (hb hby d) (fun _ _ => ⟨has, eT, hc, hs⟩)
  dsimp only [Pt.U, Pt.locs, Pt.cells, Pt.slots] at X' l' y' z' st' hQ
  subst l' y' z'
  exact ⟨v, T'.heap, hQ, (hK _ _ _ _ _ _).mpr ⟨T', _, X', rfl, N.app hF, fun t k => st t (st'.trans k)⟩⟩
theorem k_callVir (C : Ctx l R n0 Z own bytes ml nm rt Q K O) (H : K pc L S h cl sl) {i : Nat} {y : MethodName} {bytes' : ByteArray} {ml' : Nat} {rt' : Option FieldType} {rm : Room} {as : Array Value} {Q' : Qt} (k : Con l y bytes' ml' rt' rm Z as h n0 Q') {a : Addr} {C' : String} (E : Exa Z h a C')
    (w1 : (Cond.methodLink own i y).before a0 Z = true) (w2 : (Cond.declares y).before a0 Z = true) (w3 : (Cond.selects C' y y).before a0 Z = true) (w4 : (Cond.instanceMethod y).before a0 Z = true) (w5 : (Cond.initialized y.cls).before a0 Z = true) (w6 : (Cond.code y bytes' ml' rt').before a0 Z = true) (hy : y.cls ≠ "java/lang/invoke/MethodHandle" ∧ y.cls ≠ "java/lang/invoke/VarHandle")
    (d : decode bytes pc = .ok (.invokevirtual i, 3)) (hsz : L.size = ml) (argsL rest : List Value) {ps : List FieldType} {rt2 : Option FieldType} (hd : parseMethodDescriptor y.desc = some ⟨ps, rt2⟩) (hlen : argsL.length = ps.length) (hS : S = argsL.reverse ++ .ref a :: rest) (has : (.ref a :: argsL).toArray = as) (W : Nat) (hW : (rest.map fun v => v.category).sum = W)
    (hfr : rm.frames + 1 ≤ R.frames) (hlo : W + (ml' + 11) + rm.locals ≤ R.locals) (hc : cl + rm.cells ≤ R.cells) (hs : sl + rm.slots ≤ R.slots) (hp : pc + 3 = pc') :
    ∃ v h', Q' v h' ∧ K pc' L (v.toList ++ rest) h' (cl + rm.cells) (sl + rm.slots) := by
  subst hp
  obtain ⟨p, e, s, m, args, below, meth, c, s1, f0, hx, hby, hZ, hown, hml, hnm, hrt, hlk, hK, hO⟩ := C
  obtain ⟨T, locs, X, eT, N, st⟩ := (hK _ _ _ _ _ _).mp H
  obtain ⟨cq, kq, qa, qb, qc⟩ := isOf hZ eT E
  obtain ⟨v, _, ⟨T', L', k', n'⟩, -, X', ⟨Lc, ⟨hQ, hF⟩, l', y', z'⟩, st'⟩ := X.virtualBack hx (y := y) (z := y) hown (mvT hZ w1) (mvT hZ w2) (notFace_of_selects (args := #[]) (mvT hZ w3)) (mvT hZ w3) (mvT hZ w4) hy (backOf (Q := fun v h' L => Q' v h' ∧ Fr n0 L) (W := W) (k []) hZ w6 w5 hfr hlo) qa qc (g := mkF m pc L S) rfl (hsz.trans hml.symm) (Steps.refl _) (argsL := argsL) (rest := rest) (lenOf hd hlen) hS (by show 2 * 0 + _ ≤ _; omega) (hb hby d) (fun _ _ => ⟨has, eT, hc, hs⟩)
  dsimp only [Pt.U, Pt.locs, Pt.cells, Pt.slots] at X' l' y' z' st' hQ
  subst l' y' z'
  exact ⟨v, T'.heap, hQ, (hK _ _ _ _ _ _).mpr ⟨T', _, X', rfl, N.app hF, fun t k => st t (st'.trans k)⟩⟩
end Steps
/-- a class whose only superclass is one without a superclass is no subclass of a third, ordinary one -/
theorem noSub {Z : State} {a0 : Array Value} {C S K : String} {n : Nat} (w : (Cond.superclass C S).before a0 Z = true) (wo : (Cond.noSuperclass S).before a0 Z = true) (wk : (Cond.instantiable K n).before a0 Z = true) (h1 : S ≠ K) (h2 : C ≠ K) :
    ∃ c t, Z.vm.findClass C = some c ∧ Z.vm.findClass K = some t ∧ Z.vm.assignable c t = false := by
  obtain ⟨t, kt, g1, g2, g3, g4, -⟩ := Cond.instantiable_spec wk
  obtain ⟨co, ko, o1, o2, o3, -, -⟩ := Cond.noSuperclass_spec wo
  have nsO : NS Z S K := ⟨co, t, o1, g1, fun fuel => by
    have ne := ids_ne o1 g1 h1
    cases fuel with
    | zero => rfl
    | succ f => simp [Vm.isSubclassAux, ne, o2, o3]⟩
  obtain ⟨c, t', h0, g0, n3⟩ := NS.step w nsO h2
  cases g1.symm.trans g0
  obtain ⟨p, k, kp, q1, q2, q3, q4, q5, -, q7⟩ := Cond.superclass_spec h0 w
  have ne := ids_ne h0 g0 h2
  have gi : kt.isInterface = false := by
    cases hi : kt.isInterface with
    | false => rfl
    | true => simp [hi] at g4
  refine ⟨c, t, h0, g1, ?_⟩
  show Z.vm.assignableAux (255 + 1) c t = false
  simp [Vm.assignableAux, ne, q2, g2, q5, g3, gi, Vm.isSubclass, n3]
/-! arrays of ints, bytes, chars: what lies at each place -/
def Ari (Z : State) (h : Heap) (a : Addr) (ty : FieldType) (n : Nat) (f : Nat → Int32) : Prop := ∃ c : Cell, Arr Z h a c ty ∧ c.slots.size = n ∧ n < 2 ^ 31 ∧ ∀ i, i < n → c.slots[i]? = some (.int (f i))
section Arrays
variable {Z : State} {h h' : Heap} {a b : Addr} {ty : FieldType} {n : Nat} {f : Nat → Int32} {sl : Nat} {v : Value} {ws : List Addr}
theorem Ari.lt (F : Ari Z h a ty n f) : a < h.size := by obtain ⟨c, A, -⟩ := F; exact A.lt
theorem Ari.ext (F : Ari Z h a ty n f) (E : Ext h h') : Ari Z h' a ty n f := by obtain ⟨c, A, r⟩ := F; exact ⟨c, A.ext E, r⟩
theorem Ari.other (F : Ari Z h b ty n f) (W : Wr h h' a sl v) (q : b ≠ a) : Ari Z h' b ty n f := by obtain ⟨c, A, r⟩ := F; exact ⟨c, A.other W q, r⟩
theorem Ari.keep (F : Ari Z h a ty n f) (K : Keep h h' ws) (q : a ∉ ws) : Ari Z h' a ty n f := by obtain ⟨c, A, r⟩ := F; exact ⟨c, ⟨K.2.1 a c A.1 q, A.2⟩, r⟩
theorem Ari.congr {g : Nat → Int32} (F : Ari Z h a ty n f) (q : ∀ i, i < n → f i = g i) : Ari Z h a ty n g := by obtain ⟨c, A, r1, r2, r3⟩ := F; exact ⟨c, A, r1, r2, fun i hi => by rw [← q i hi]; exact r3 i hi⟩
theorem Ari.set (F : Ari Z h a ty n f) {i : Nat} {x : Int32} (W : Wr h h' a i (.int x)) : Ari Z h' a ty n (fun k => if k = i then x else f k) := by
  obtain ⟨c, A, r1, r2, r3⟩ := F
  refine ⟨c.setSlot i (.int x), A.same W, by rw [sz_set]; exact r1, r2, fun k hk => ?_⟩
  by_cases q : k = i
  · subst q
    simp [Cell.setSlot, r1, hk]
  · have : i ≠ k := fun z => q z.symm
    simp [Cell.setSlot, q, this, Array.getElem?_setIfInBounds_ne this, r3 k hk]
theorem addN {x y : Int32} {i j : Nat} (hx : x.toInt = i) (hy : y.toInt = j) (h : i + j < 2147483648) : (x + y).toInt = ((i + j : Nat) : Int) := by
  have a := c_iadd x y
  have r := rng32 (x + y)
  omega
theorem toNatClampNeg_of {j : Int32} {i : Nat} (hj : j.toInt = i) : j.toNatClampNeg = i := by rw [Int32.toNatClampNeg, hj]; rfl
theorem inb {j : Int32} {i m : Nat} (hj : j.toInt = i) (hi : i < m) : ¬ (j < 0 ∨ m ≤ j.toNatClampNeg) := by
  rw [toNatClampNeg_of hj, Int32.lt_iff_toInt_lt, hj]
  simp; omega
theorem Ari.ofNew {cA : ClassId} {z : Int32} (A : Arr Z h a (newA cA ty z) ty) (hz : z.toInt = n) (hd : defaultValue ty = .int 0) : Ari Z h a ty n (fun _ => 0) := by
  have hn : z.toNatClampNeg = n := toNatClampNeg_of hz
  refine ⟨_, A, by rw [sz_new, hn], by have := z.toInt_lt; omega, fun i hi => ?_⟩
  simp [newA, hn, hi, hd]
end Arrays
section ArrSteps
variable {l : Launch} {R : Room} {n0 : Nat} {Z : State} {own : String} {bytes : ByteArray} {ml : Nat} {nm : String} {rt : Option FieldType} {Q : Qt} {K : Kt} {O : Prop} {a0 : Array Value} {pc : Nat} {L : Array Slot} {S rest : List Value} {h : Heap} {cl sl : Nat} {pc' : Nat}
theorem k_arrlen (C : Ctx l R n0 Z own bytes ml nm rt Q K O) {a : Addr} (H : K pc L (.ref a :: rest) h cl sl) {ty : FieldType} {n : Nat} {f : Nat → Int32} (F : Ari Z h a ty n f) (d : decode bytes pc = .ok (.arraylength, 1)) (hp : pc + 1 = pc') : K pc' L (.int n.toInt32 :: rest) h cl sl := by
  subst hp
  obtain ⟨c', A, r1, r2, r3⟩ := F
  exact C.pure H fun p e s m args below meth c T locs X hx hby hZ hown eT t k => X.arraylength hx (by rw [eT]; exact A.1) (State.isArrayOf_alike hZ.alike A.2.1) (g := mkF m pc L (.ref a :: rest)) rfl rfl (hb hby d) t (by rw [r1]; exact k)

theorem k_iaload (C : Ctx l R n0 Z own bytes ml nm rt Q K O) {a : Addr} {j : Int32} (H : K pc L (.int j :: .ref a :: rest) h cl sl) {n : Nat} {f : Nat → Int32} (F : Ari Z h a .int n f) {i : Nat} (hj : j.toInt = i) (hi : i < n) (d : decode bytes pc = .ok (.iaload, 1)) (hp : pc + 1 = pc') : K pc' L (.int (f i) :: rest) h cl sl := by
  subst hp
  obtain ⟨c', A, r1, r2, r3⟩ := F
  exact C.pure H fun p e s m args below meth c T locs X hx hby hZ hown eT t k => X.iaload hx (by rw [eT]; exact A.1) (State.isArrayOf_alike hZ.alike A.2.1) A.2.2 (inb hj (r1.symm ▸ hi)) (by rw [toNatClampNeg_of hj]; exact r3 i hi) (g := mkF m pc L (.int j :: .ref a :: rest)) rfl rfl (hb hby d) t k
theorem k_baload (C : Ctx l R n0 Z own bytes ml nm rt Q K O) {a : Addr} {j : Int32} (H : K pc L (.int j :: .ref a :: rest) h cl sl) {n : Nat} {f : Nat → Int32} (F : Ari Z h a .byte n f) {i : Nat} (hj : j.toInt = i) (hi : i < n) (d : decode bytes pc = .ok (.baload, 1)) (hp : pc + 1 = pc') : K pc' L (.int (f i) :: rest) h cl sl := by
  subst hp
  obtain ⟨c', A, r1, r2, r3⟩ := F
  exact C.pure H fun p e s m args below meth c T locs X hx hby hZ hown eT t k => X.baloadBytes hx (by rw [eT]; exact A.1) (State.isArrayOf_alike hZ.alike A.2.1) A.2.2 (inb hj (r1.symm ▸ hi)) (by rw [toNatClampNeg_of hj]; exact r3 i hi) (g := mkF m pc L (.int j :: .ref a :: rest)) rfl rfl (hb hby d) t k
theorem k_caload (C : Ctx l R n0 Z own bytes ml nm rt Q K O) {a : Addr} {j : Int32} (H : K pc L (.int j :: .ref a :: rest) h cl sl) {n : Nat} {f : Nat → Int32} (F : Ari Z h a .char n f) {i : Nat} (hj : j.toInt = i) (hi : i < n) (d : decode bytes pc = .ok (.caload, 1)) (hp : pc + 1 = pc') : K pc' L (.int (f i) :: rest) h cl sl := by
  subst hp
  obtain ⟨c', A, r1, r2, r3⟩ := F
  exact C.pure H fun p e s m args below meth c T locs X hx hby hZ hown eT t k => X.caload hx (by rw [eT]; exact A.1) (State.isArrayOf_alike hZ.alike A.2.1) A.2.2 (inb hj (r1.symm ▸ hi)) (by rw [toNatClampNeg_of hj]; exact r3 i hi) (g := mkF m pc L (.int j :: .ref a :: rest)) rfl rfl (hb hby d) t k
theorem k_iastore (C : Ctx l R n0 Z own bytes ml nm rt Q K O) {a : Addr} {j x : Int32} (H : K pc L (.int x :: .int j :: .ref a :: rest) h cl sl) {n : Nat} {f : Nat → Int32} (F : Ari Z h a .int n f) {i : Nat} (hj : j.toInt = i) (hi : i < n) (g : n0 ≤ a) (d : decode bytes pc = .ok (.iastore, 1)) (hp : pc + 1 = pc') : ∃ h', Wr h h' a i (.int (x)) ∧ Ari Z h' a .int n (fun k => if k = i then x else f k) ∧ K pc' L rest h' cl sl := by
  subst hp
  have F0 := F
  obtain ⟨c', A, r1, r2, r3⟩ := F
  obtain ⟨p, e, s, m, args, below, meth, c, s1, f0, hx, hby, hZ, hown, hml, hnm, hrt, hlk, hK, hO⟩ := C
  obtain ⟨T, locs, X, eT, N, st⟩ := (hK _ _ _ _ _ _).mp H
  obtain ⟨T', h', X', e', W', st'⟩ := stI X hx hZ eT A (inb hj (r1.symm ▸ hi)) (g := mkF m pc L (.int x :: .int j :: .ref a :: rest)) rfl rfl (hb hby d)
  have N' := Fr.snoc X' N g
  rw [toNatClampNeg_of hj] at W'
  exact ⟨h', W', F0.set W', (hK _ _ _ _ _ _).mpr ⟨T', _, X', e', N', fun t k => st t (st' t k)⟩⟩
theorem k_bastore (C : Ctx l R n0 Z own bytes ml nm rt Q K O) {a : Addr} {j x : Int32} (H : K pc L (.int x :: .int j :: .ref a :: rest) h cl sl) {n : Nat} {f : Nat → Int32} (F : Ari Z h a .byte n f) {i : Nat} (hj : j.toInt = i) (hi : i < n) (g : n0 ≤ a) (d : decode bytes pc = .ok (.bastore, 1)) (hp : pc + 1 = pc') : ∃ h', Wr h h' a i (.int (nar .byte x)) ∧ Ari Z h' a .byte n (fun k => if k = i then nar .byte x else f k) ∧ K pc' L rest h' cl sl := by
  subst hp
  have F0 := F
  obtain ⟨c', A, r1, r2, r3⟩ := F
  obtain ⟨p, e, s, m, args, below, meth, c, s1, f0, hx, hby, hZ, hown, hml, hnm, hrt, hlk, hK, hO⟩ := C
  obtain ⟨T, locs, X, eT, N, st⟩ := (hK _ _ _ _ _ _).mp H
  obtain ⟨T', h', X', e', W', st'⟩ := stB X hx hZ eT A (inb hj (r1.symm ▸ hi)) (g := mkF m pc L (.int x :: .int j :: .ref a :: rest)) rfl rfl (hb hby d)
  have N' := Fr.snoc X' N g
  rw [toNatClampNeg_of hj] at W'
  exact ⟨h', W', F0.set W', (hK _ _ _ _ _ _).mpr ⟨T', _, X', e', N', fun t k => st t (st' t k)⟩⟩
theorem k_castore (C : Ctx l R n0 Z own bytes ml nm rt Q K O) {a : Addr} {j x : Int32} (H : K pc L (.int x :: .int j :: .ref a :: rest) h cl sl) {n : Nat} {f : Nat → Int32} (F : Ari Z h a .char n f) {i : Nat} (hj : j.toInt = i) (hi : i < n) (g : n0 ≤ a) (d : decode bytes pc = .ok (.castore, 1)) (hp : pc + 1 = pc') : ∃ h', Wr h h' a i (.int (nar .char x)) ∧ Ari Z h' a .char n (fun k => if k = i then nar .char x else f k) ∧ K pc' L rest h' cl sl := by
  subst hp
  have F0 := F
  obtain ⟨c', A, r1, r2, r3⟩ := F
  obtain ⟨p, e, s, m, args, below, meth, c, s1, f0, hx, hby, hZ, hown, hml, hnm, hrt, hlk, hK, hO⟩ := C
  obtain ⟨T, locs, X, eT, N, st⟩ := (hK _ _ _ _ _ _).mp H
  obtain ⟨T', h', X', e', W', st'⟩ := stC X hx hZ eT A (inb hj (r1.symm ▸ hi)) (g := mkF m pc L (.int x :: .int j :: .ref a :: rest)) rfl rfl (hb hby d)
  have N' := Fr.snoc X' N g
  rw [toNatClampNeg_of hj] at W'
  exact ⟨h', W', F0.set W', (hK _ _ _ _ _ _).mpr ⟨T', _, X', e', N', fun t k => st t (st' t k)⟩⟩
end ArrSteps
end Jvm.OwnK
namespace Jvm.Pilot.@@N@@
open Jvm Jvm.ClassFile Sem Op Lib Jvm.Free Jvm.Stand Jvm.LawKit Jvm.RoadKit Bundle Jvm.OwnK Jvm.Pilot.@@N@@.Jvm.D
theorem d1_0 : decode prog_44_method_1_code 0 = .ok (.aload_n 0, 1) := by decide +kernel
theorem d1_1 : decode prog_44_method_1_code 1 = .ok (.invokespecial 1, 3) := by decide +kernel
theorem d1_4 : decode prog_44_method_1_code 4 = .ok (.aload_n 0, 1) := by decide +kernel
theorem d1_5 : decode prog_44_method_1_code 5 = .ok (.iload_n 1, 1) := by decide +kernel
theorem d1_6 : decode prog_44_method_1_code 6 = .ok (.putfield 7, 3) := by decide +kernel
theorem d1_9 : decode prog_44_method_1_code 9 = .ok (.aload_n 0, 1) := by decide +kernel
theorem d1_10 : decode prog_44_method_1_code 10 = .ok (.iload_n 2, 1) := by decide +kernel
theorem d1_11 : decode prog_44_method_1_code 11 = .ok (.putfield 13, 3) := by decide +kernel
theorem d1_14 : decode prog_44_method_1_code 14 = .ok (.aload_n 0, 1) := by decide +kernel
theorem d1_15 : decode prog_44_method_1_code 15 = .ok (.iload_n 3, 1) := by decide +kernel
theorem d1_16 : decode prog_44_method_1_code 16 = .ok (.putfield 16, 3) := by decide +kernel
theorem d1_19 : decode prog_44_method_1_code 19 = .ok (.return_, 1) := by decide +kernel
theorem pl_1 : plainFor (⟨"com/example/equilibrate/equilibrate/model/ConcurrentController$Move", "<init>", "(III)V"⟩ : MethodName) = true := plainFor_of_name (by first | (simp [plainName, overriddenIn]; done) | decide +kernel)
theorem ef_1 (mm : MethodId) (a1 : Addr) (p1 : Int32) (p2 : Int32) (p3 : Int32) : entryFrame mm #[(.ref a1), (.int p1), (.int p2), (.int p3)] 4 = mkF mm 0 #[.val (.ref a1), .val (.int p1), .val (.int p2), .val (.int p3)] [] := by first | (simp [entryFrame, mkF, argsToLocals, Value.category]; done) | rfl
set_option maxRecDepth 65536 in
set_option maxHeartbeats 40000000 in
theorem rm1 (l : Launch) (Z : State) (a0 : Array Value) (hw : ∀ d ∈ tables_1, d.before a0 Z = true) (a1 : Addr) (p1 : Int32) (p2 : Int32) (p3 : Int32) (h0 : Heap) (n0 : Nat) (u_memory : Value) (u_state : Value) (u_action : Value) (E : Exa Z h0 a1 "com/example/equilibrate/equilibrate/model/ConcurrentController$Move") (F_memory : Fld Z h0 a1 "com/example/equilibrate/equilibrate/model/ConcurrentController$Move" "memory" "I" u_memory) (F_state : Fld Z h0 a1 "com/example/equilibrate/equilibrate/model/ConcurrentController$Move" "state" "I" u_state) (F_action : Fld Z h0 a1 "com/example/equilibrate/equilibrate/model/ConcurrentController$Move" "action" "I" u_action) (g : n0 ≤ a1) :
    Con l (⟨"com/example/equilibrate/equilibrate/model/ConcurrentController$Move", "<init>", "(III)V"⟩ : MethodName) prog_44_method_1_code 4 none ({ frames := 1, cells := 0, slots := 0, locals := 12 } : Room) Z #[(.ref a1), (.int p1), (.int p2), (.int p3)] h0 n0 (fun o h => o = none ∧ Keep h0 h [a1] ∧ Fld Z h a1 "com/example/equilibrate/equilibrate/model/ConcurrentController$Move" "memory" "I" (.int p1) ∧ Fld Z h a1 "com/example/equilibrate/equilibrate/model/ConcurrentController$Move" "state" "I" (.int p2) ∧ Fld Z h a1 "com/example/equilibrate/equilibrate/model/ConcurrentController$Move" "action" "I" (.int p3)) := by
  refine Con.enter pl_1 (fun mm => ef_1 mm a1 p1 p2 p3) ?_
  intro K O C H
  replace H := k_aloadN C H d1_0 rfl rfl (pc' := 1) rfl
  replace H := k_initObj C H (hw _ (List.mem_of_getElem? (i := 23) rfl)) (hw _ (List.mem_of_getElem? (i := 7) rfl)) (hw _ (List.mem_of_getElem? (i := 8) rfl)) d1_1 rfl (by decide) 0 rfl (by decide) (pc' := 4) rfl
  replace H := k_aloadN C H d1_4 rfl rfl (pc' := 5) rfl
  replace H := k_iloadN C H d1_5 rfl (pc' := 6) rfl
  obtain ⟨h1, W1, H⟩ := k_putFld C H (hw _ (List.mem_of_getElem? (i := 24) rfl)) F_memory E (Or.inr ⟨(hw _ (List.mem_of_getElem? (i := 25) rfl)), rfl, rfl⟩) (hw _ (List.mem_of_getElem? (i := 18) rfl)) (ty := .int) (by decide) (v' := (.int p1)) rfl rfl g d1_6 (pc' := 9) rfl
  replace F_memory := F_memory.same W1
  replace F_state := F_state.other W1 (Or.inr (slot_ne (Or.inr (hw _ (List.mem_of_getElem? (i := 27) rfl))) (Or.inr (hw _ (List.mem_of_getElem? (i := 25) rfl))) (by decide) (t := .int) (t' := .int) (by decide) (by decide)))
  replace F_action := F_action.other W1 (Or.inr (slot_ne (Or.inr (hw _ (List.mem_of_getElem? (i := 29) rfl))) (Or.inr (hw _ (List.mem_of_getElem? (i := 25) rfl))) (by decide) (t := .int) (t' := .int) (by decide) (by decide)))
  replace H := k_aloadN C H d1_9 rfl rfl (pc' := 10) rfl
  replace H := k_iloadN C H d1_10 rfl (pc' := 11) rfl
  obtain ⟨h2, W2, H⟩ := k_putFld C H (hw _ (List.mem_of_getElem? (i := 26) rfl)) F_state (E.wr W1) (Or.inr ⟨(hw _ (List.mem_of_getElem? (i := 27) rfl)), rfl, rfl⟩) (hw _ (List.mem_of_getElem? (i := 18) rfl)) (ty := .int) (by decide) (v' := (.int p2)) rfl rfl g d1_11 (pc' := 14) rfl
  replace F_state := F_state.same W2
  replace F_memory := F_memory.other W2 (Or.inr (slot_ne (Or.inr (hw _ (List.mem_of_getElem? (i := 25) rfl))) (Or.inr (hw _ (List.mem_of_getElem? (i := 27) rfl))) (by decide) (t := .int) (t' := .int) (by decide) (by decide)))
  replace F_action := F_action.other W2 (Or.inr (slot_ne (Or.inr (hw _ (List.mem_of_getElem? (i := 29) rfl))) (Or.inr (hw _ (List.mem_of_getElem? (i := 27) rfl))) (by decide) (t := .int) (t' := .int) (by decide) (by decide)))
  replace H := k_aloadN C H d1_14 rfl rfl (pc' := 15) rfl
  replace H := k_iloadN C H d1_15 rfl (pc' := 16) rfl
  obtain ⟨h3, W3, H⟩ := k_putFld C H (hw _ (List.mem_of_getElem? (i := 28) rfl)) F_action ((E.wr W1).wr W2) (Or.inr ⟨(hw _ (List.mem_of_getElem? (i := 29) rfl)), rfl, rfl⟩) (hw _ (List.mem_of_getElem? (i := 18) rfl)) (ty := .int) (by decide) (v' := (.int p3)) rfl rfl g d1_16 (pc' := 19) rfl
  replace F_action := F_action.same W3
  replace F_memory := F_memory.other W3 (Or.inr (slot_ne (Or.inr (hw _ (List.mem_of_getElem? (i := 25) rfl))) (Or.inr (hw _ (List.mem_of_getElem? (i := 29) rfl))) (by decide) (t := .int) (t' := .int) (by decide) (by decide)))
  replace F_state := F_state.other W3 (Or.inr (slot_ne (Or.inr (hw _ (List.mem_of_getElem? (i := 27) rfl))) (Or.inr (hw _ (List.mem_of_getElem? (i := 29) rfl))) (by decide) (t := .int) (t' := .int) (by decide) (by decide)))
  exact k_retV C H d1_19 (by decide) (by decide) ⟨rfl, (((Keep.of_wr W1).wr W2 (Or.inl (List.mem_of_getElem? (i := 0) rfl))).wr W3 (Or.inl (List.mem_of_getElem? (i := 0) rfl))), F_memory, F_state, F_action⟩
theorem d2_0 : decode prog_45_method_1_code 0 = .ok (.aload_n 0, 1) := by decide +kernel
theorem d2_1 : decode prog_45_method_1_code 1 = .ok (.invokespecial 1, 3) := by decide +kernel
theorem d2_4 : decode prog_45_method_1_code 4 = .ok (.aload_n 0, 1) := by decide +kernel
theorem d2_5 : decode prog_45_method_1_code 5 = .ok (.iload_n 1, 1) := by decide +kernel
theorem d2_6 : decode prog_45_method_1_code 6 = .ok (.putfield 7, 3) := by decide +kernel
theorem d2_9 : decode prog_45_method_1_code 9 = .ok (.aload_n 0, 1) := by decide +kernel
theorem d2_10 : decode prog_45_method_1_code 10 = .ok (.iload_n 2, 1) := by decide +kernel
theorem d2_11 : decode prog_45_method_1_code 11 = .ok (.putfield 13, 3) := by decide +kernel
theorem d2_14 : decode prog_45_method_1_code 14 = .ok (.aload_n 0, 1) := by decide +kernel
theorem d2_15 : decode prog_45_method_1_code 15 = .ok (.iload_n 3, 1) := by decide +kernel
theorem d2_16 : decode prog_45_method_1_code 16 = .ok (.putfield 16, 3) := by decide +kernel
theorem d2_19 : decode prog_45_method_1_code 19 = .ok (.aload_n 0, 1) := by decide +kernel
theorem d2_20 : decode prog_45_method_1_code 20 = .ok (.iload 4, 2) := by decide +kernel
theorem d2_22 : decode prog_45_method_1_code 22 = .ok (.putfield 19, 3) := by decide +kernel
theorem d2_25 : decode prog_45_method_1_code 25 = .ok (.return_, 1) := by decide +kernel
theorem pl_2 : plainFor (⟨"com/example/equilibrate/equilibrate/model/ConcurrentController$Update", "<init>", "(IIII)V"⟩ : MethodName) = true := plainFor_of_name (by first | (simp [plainName, overriddenIn]; done) | decide +kernel)
theorem ef_2 (mm : MethodId) (a1 : Addr) (p1 : Int32) (p2 : Int32) (p3 : Int32) (p4 : Int32) : entryFrame mm #[(.ref a1), (.int p1), (.int p2), (.int p3), (.int p4)] 5 = mkF mm 0 #[.val (.ref a1), .val (.int p1), .val (.int p2), .val (.int p3), .val (.int p4)] [] := by first | (simp [entryFrame, mkF, argsToLocals, Value.category]; done) | rfl
set_option maxRecDepth 65536 in
set_option maxHeartbeats 40000000 in
theorem rm2 (l : Launch) (Z : State) (a0 : Array Value) (hw : ∀ d ∈ tables_1, d.before a0 Z = true) (a1 : Addr) (p1 : Int32) (p2 : Int32) (p3 : Int32) (p4 : Int32) (h0 : Heap) (n0 : Nat) (u_memory : Value) (u_state : Value) (u_combination : Value) (u_target : Value) (E : Exa Z h0 a1 "com/example/equilibrate/equilibrate/model/ConcurrentController$Update") (F_memory : Fld Z h0 a1 "com/example/equilibrate/equilibrate/model/ConcurrentController$Update" "memory" "I" u_memory) (F_state : Fld Z h0 a1 "com/example/equilibrate/equilibrate/model/ConcurrentController$Update" "state" "I" u_state) (F_combination : Fld Z h0 a1 "com/example/equilibrate/equilibrate/model/ConcurrentController$Update" "combination" "I" u_combination) (F_target : Fld Z h0 a1 "com/example/equilibrate/equilibrate/model/ConcurrentController$Update" "target" "I" u_target) (g : n0 ≤ a1) :
    Con l (⟨"com/example/equilibrate/equilibrate/model/ConcurrentController$Update", "<init>", "(IIII)V"⟩ : MethodName) prog_45_method_1_code 5 none ({ frames := 1, cells := 0, slots := 0, locals := 12 } : Room) Z #[(.ref a1), (.int p1), (.int p2), (.int p3), (.int p4)] h0 n0 (fun o h => o = none ∧ Keep h0 h [a1] ∧ Fld Z h a1 "com/example/equilibrate/equilibrate/model/ConcurrentController$Update" "memory" "I" (.int p1) ∧ Fld Z h a1 "com/example/equilibrate/equilibrate/model/ConcurrentController$Update" "state" "I" (.int p2) ∧ Fld Z h a1 "com/example/equilibrate/equilibrate/model/ConcurrentController$Update" "combination" "I" (.int p3) ∧ Fld Z h a1 "com/example/equilibrate/equilibrate/model/ConcurrentController$Update" "target" "I" (.int p4)) := by
  refine Con.enter pl_2 (fun mm => ef_2 mm a1 p1 p2 p3 p4) ?_
  intro K O C H
  replace H := k_aloadN C H d2_0 rfl rfl (pc' := 1) rfl
  replace H := k_initObj C H (hw _ (List.mem_of_getElem? (i := 6) rfl)) (hw _ (List.mem_of_getElem? (i := 7) rfl)) (hw _ (List.mem_of_getElem? (i := 8) rfl)) d2_1 rfl (by decide) 0 rfl (by decide) (pc' := 4) rfl
  replace H := k_aloadN C H d2_4 rfl rfl (pc' := 5) rfl
  replace H := k_iloadN C H d2_5 rfl (pc' := 6) rfl
  obtain ⟨h1, W1, H⟩ := k_putFld C H (hw _ (List.mem_of_getElem? (i := 9) rfl)) F_memory E (Or.inr ⟨(hw _ (List.mem_of_getElem? (i := 10) rfl)), rfl, rfl⟩) (hw _ (List.mem_of_getElem? (i := 1) rfl)) (ty := .int) (by decide) (v' := (.int p1)) rfl rfl g d2_6 (pc' := 9) rfl
  replace F_memory := F_memory.same W1
  replace F_state := F_state.other W1 (Or.inr (slot_ne (Or.inr (hw _ (List.mem_of_getElem? (i := 12) rfl))) (Or.inr (hw _ (List.mem_of_getElem? (i := 10) rfl))) (by decide) (t := .int) (t' := .int) (by decide) (by decide)))
  replace F_combination := F_combination.other W1 (Or.inr (slot_ne (Or.inr (hw _ (List.mem_of_getElem? (i := 14) rfl))) (Or.inr (hw _ (List.mem_of_getElem? (i := 10) rfl))) (by decide) (t := .int) (t' := .int) (by decide) (by decide)))
  replace F_target := F_target.other W1 (Or.inr (slot_ne (Or.inr (hw _ (List.mem_of_getElem? (i := 16) rfl))) (Or.inr (hw _ (List.mem_of_getElem? (i := 10) rfl))) (by decide) (t := .int) (t' := .int) (by decide) (by decide)))
  replace H := k_aloadN C H d2_9 rfl rfl (pc' := 10) rfl
  replace H := k_iloadN C H d2_10 rfl (pc' := 11) rfl
  obtain ⟨h2, W2, H⟩ := k_putFld C H (hw _ (List.mem_of_getElem? (i := 11) rfl)) F_state (E.wr W1) (Or.inr ⟨(hw _ (List.mem_of_getElem? (i := 12) rfl)), rfl, rfl⟩) (hw _ (List.mem_of_getElem? (i := 1) rfl)) (ty := .int) (by decide) (v' := (.int p2)) rfl rfl g d2_11 (pc' := 14) rfl
  replace F_state := F_state.same W2
  replace F_memory := F_memory.other W2 (Or.inr (slot_ne (Or.inr (hw _ (List.mem_of_getElem? (i := 10) rfl))) (Or.inr (hw _ (List.mem_of_getElem? (i := 12) rfl))) (by decide) (t := .int) (t' := .int) (by decide) (by decide)))
  replace F_combination := F_combination.other W2 (Or.inr (slot_ne (Or.inr (hw _ (List.mem_of_getElem? (i := 14) rfl))) (Or.inr (hw _ (List.mem_of_getElem? (i := 12) rfl))) (by decide) (t := .int) (t' := .int) (by decide) (by decide)))
  replace F_target := F_target.other W2 (Or.inr (slot_ne (Or.inr (hw _ (List.mem_of_getElem? (i := 16) rfl))) (Or.inr (hw _ (List.mem_of_getElem? (i := 12) rfl))) (by decide) (t := .int) (t' := .int) (by decide) (by decide)))
  replace H := k_aloadN C H d2_14 rfl rfl (pc' := 15) rfl
  replace H := k_iloadN C H d2_15 rfl (pc' := 16) rfl
  obtain ⟨h3, W3, H⟩ := k_putFld C H (hw _ (List.mem_of_getElem? (i := 13) rfl)) F_combination ((E.wr W1).wr W2) (Or.inr ⟨(hw _ (List.mem_of_getElem? (i := 14) rfl)), rfl, rfl⟩) (hw _ (List.mem_of_getElem? (i := 1) rfl)) (ty := .int) (by decide) (v' := (.int p3)) rfl rfl g d2_16 (pc' := 19) rfl
  replace F_combination := F_combination.same W3
  replace F_memory := F_memory.other W3 (Or.inr (slot_ne (Or.inr (hw _ (List.mem_of_getElem? (i := 10) rfl))) (Or.inr (hw _ (List.mem_of_getElem? (i := 14) rfl))) (by decide) (t := .int) (t' := .int) (by decide) (by decide)))
  replace F_state := F_state.other W3 (Or.inr (slot_ne (Or.inr (hw _ (List.mem_of_getElem? (i := 12) rfl))) (Or.inr (hw _ (List.mem_of_getElem? (i := 14) rfl))) (by decide) (t := .int) (t' := .int) (by decide) (by decide)))
  replace F_target := F_target.other W3 (Or.inr (slot_ne (Or.inr (hw _ (List.mem_of_getElem? (i := 16) rfl))) (Or.inr (hw _ (List.mem_of_getElem? (i := 14) rfl))) (by decide) (t := .int) (t' := .int) (by decide) (by decide)))
  replace H := k_aloadN C H d2_19 rfl rfl (pc' := 20) rfl
  replace H := k_iload C H d2_20 rfl (pc' := 22) rfl
  obtain ⟨h4, W4, H⟩ := k_putFld C H (hw _ (List.mem_of_getElem? (i := 15) rfl)) F_target (((E.wr W1).wr W2).wr W3) (Or.inr ⟨(hw _ (List.mem_of_getElem? (i := 16) rfl)), rfl, rfl⟩) (hw _ (List.mem_of_getElem? (i := 1) rfl)) (ty := .int) (by decide) (v' := (.int p4)) rfl rfl g d2_22 (pc' := 25) rfl
  replace F_target := F_target.same W4
  replace F_memory := F_memory.other W4 (Or.inr (slot_ne (Or.inr (hw _ (List.mem_of_getElem? (i := 10) rfl))) (Or.inr (hw _ (List.mem_of_getElem? (i := 16) rfl))) (by decide) (t := .int) (t' := .int) (by decide) (by decide)))
  replace F_state := F_state.other W4 (Or.inr (slot_ne (Or.inr (hw _ (List.mem_of_getElem? (i := 12) rfl))) (Or.inr (hw _ (List.mem_of_getElem? (i := 16) rfl))) (by decide) (t := .int) (t' := .int) (by decide) (by decide)))
  replace F_combination := F_combination.other W4 (Or.inr (slot_ne (Or.inr (hw _ (List.mem_of_getElem? (i := 14) rfl))) (Or.inr (hw _ (List.mem_of_getElem? (i := 16) rfl))) (by decide) (t := .int) (t' := .int) (by decide) (by decide)))
  exact k_retV C H d2_25 (by decide) (by decide) ⟨rfl, ((((Keep.of_wr W1).wr W2 (Or.inl (List.mem_of_getElem? (i := 0) rfl))).wr W3 (Or.inl (List.mem_of_getElem? (i := 0) rfl))).wr W4 (Or.inl (List.mem_of_getElem? (i := 0) rfl))), F_memory, F_state, F_combination, F_target⟩
theorem d3_0 : decode prog_45_method_6_code 0 = .ok (.aload_n 1, 1) := by decide +kernel
theorem d3_1 : decode prog_45_method_6_code 1 = .ok (.instanceof 8, 3) := by decide +kernel
theorem d3_4 : decode prog_45_method_6_code 4 = .ok (.ifCond .ne 5, 3) := by decide +kernel
theorem d3_7 : decode prog_45_method_6_code 7 = .ok (.iconst 0, 1) := by decide +kernel
theorem d3_8 : decode prog_45_method_6_code 8 = .ok (.ireturn, 1) := by decide +kernel
theorem pl_3 : plainFor (⟨"com/example/equilibrate/equilibrate/model/ConcurrentController$Update", "equals", "(Ljava/lang/Object;)Z"⟩ : MethodName) = true := plainFor_of_name (by first | (simp [plainName, overriddenIn]; done) | decide +kernel)
theorem ef_3 (mm : MethodId) (a1 : Addr) : entryFrame mm #[(.ref a1), .null] 3 = mkF mm 0 #[.val (.ref a1), .val .null, .unset] [] := by first | (simp [entryFrame, mkF, argsToLocals, Value.category]; done) | rfl
set_option maxRecDepth 65536 in
set_option maxHeartbeats 40000000 in
theorem rm3 (l : Launch) (Z : State) (a0 : Array Value) (hw : ∀ d ∈ tables_1, d.before a0 Z = true) (a1 : Addr) (h0 : Heap) (n0 : Nat)  :
    Con l (⟨"com/example/equilibrate/equilibrate/model/ConcurrentController$Update", "equals", "(Ljava/lang/Object;)Z"⟩ : MethodName) prog_45_method_6_code 3 (some .boolean) ({ frames := 0, cells := 0, slots := 0, locals := 0 } : Room) Z #[(.ref a1), .null] h0 n0 (fun o h => o = some (.int 0) ∧ h0 = h) := by
  refine Con.enter pl_3 (fun mm => ef_3 mm a1) ?_
  intro K O C H
  replace H := k_aloadN C H d3_0 rfl rfl (pc' := 1) rfl
  replace H := k_instNull C H d3_1 (pc' := 4) rfl
  replace H := k_ifcN C H d3_4 (teq (rfl : (0 : Int32) = 0)).2 (pc' := 7) rfl
  replace H := k_iconst C H (v := 0) d3_7 rfl (pc' := 8) rfl
  exact k_retZ C H d3_8 (by decide) (by decide) (by decide) ⟨rfl, rfl⟩
theorem d4_0 : decode prog_45_method_6_code 0 = .ok (.aload_n 1, 1) := by decide +kernel
theorem d4_1 : decode prog_45_method_6_code 1 = .ok (.instanceof 8, 3) := by decide +kernel
theorem d4_4 : decode prog_45_method_6_code 4 = .ok (.ifCond .ne 5, 3) := by decide +kernel
theorem d4_7 : decode prog_45_method_6_code 7 = .ok (.iconst 0, 1) := by decide +kernel
theorem d4_8 : decode prog_45_method_6_code 8 = .ok (.ireturn, 1) := by decide +kernel
theorem pl_4 : plainFor (⟨"com/example/equilibrate/equilibrate/model/ConcurrentController$Update", "equals", "(Ljava/lang/Object;)Z"⟩ : MethodName) = true := plainFor_of_name (by first | (simp [plainName, overriddenIn]; done) | decide +kernel)
theorem ef_4 (mm : MethodId) (a1 : Addr) (a2 : Addr) : entryFrame mm #[(.ref a1), (.ref a2)] 3 = mkF mm 0 #[.val (.ref a1), .val (.ref a2), .unset] [] := by first | (simp [entryFrame, mkF, argsToLocals, Value.category]; done) | rfl
set_option maxRecDepth 65536 in
set_option maxHeartbeats 40000000 in
theorem rm4 (l : Launch) (Z : State) (a0 : Array Value) (hw : ∀ d ∈ tables_1, d.before a0 Z = true) (a1 : Addr) (a2 : Addr) (h0 : Heap) (n0 : Nat) (E : Exa Z h0 a2 "com/example/equilibrate/equilibrate/model/ConcurrentController$Move") :
    Con l (⟨"com/example/equilibrate/equilibrate/model/ConcurrentController$Update", "equals", "(Ljava/lang/Object;)Z"⟩ : MethodName) prog_45_method_6_code 3 (some .boolean) ({ frames := 0, cells := 0, slots := 0, locals := 0 } : Room) Z #[(.ref a1), (.ref a2)] h0 n0 (fun o h => o = some (.int 0) ∧ h0 = h) := by
  refine Con.enter pl_4 (fun mm => ef_4 mm a1 a2) ?_
  intro K O C H
  replace H := k_aloadN C H d4_0 rfl rfl (pc' := 1) rfl
  replace H := k_instNot C H (hw _ (List.mem_of_getElem? (i := 35) rfl)) E (noSub (hw _ (List.mem_of_getElem? (i := 37) rfl)) (hw _ (List.mem_of_getElem? (i := 38) rfl)) (hw _ (List.mem_of_getElem? (i := 1) rfl)) (by decide) (by decide)) d4_1 (pc' := 4) rfl
  replace H := k_ifcN C H d4_4 (teq (rfl : (0 : Int32) = 0)).2 (pc' := 7) rfl
  replace H := k_iconst C H (v := 0) d4_7 rfl (pc' := 8) rfl
  exact k_retZ C H d4_8 (by decide) (by decide) (by decide) ⟨rfl, rfl⟩
def own_eq (m1 : Int32) (m2 : Int32) (s1 : Int32) (s2 : Int32) (c1 : Int32) (c2 : Int32) (t1 : Int32) (t2 : Int32) : Int32 := (if m1 = m2 then (if s1 = s2 then (if c1 = c2 then (if t1 = t2 then (1 : Int32) else (0 : Int32)) else (0 : Int32)) else (0 : Int32)) else (0 : Int32))
theorem d5_0 : decode prog_45_method_6_code 0 = .ok (.aload_n 1, 1) := by decide +kernel
theorem d5_1 : decode prog_45_method_6_code 1 = .ok (.instanceof 8, 3) := by decide +kernel
theorem d5_4 : decode prog_45_method_6_code 4 = .ok (.ifCond .ne 5, 3) := by decide +kernel
theorem d5_9 : decode prog_45_method_6_code 9 = .ok (.aload_n 1, 1) := by decide +kernel
theorem d5_10 : decode prog_45_method_6_code 10 = .ok (.checkcast 8, 3) := by decide +kernel
theorem d5_13 : decode prog_45_method_6_code 13 = .ok (.astore_n 2, 1) := by decide +kernel
theorem d5_14 : decode prog_45_method_6_code 14 = .ok (.aload_n 0, 1) := by decide +kernel
theorem d5_15 : decode prog_45_method_6_code 15 = .ok (.getfield 7, 3) := by decide +kernel
theorem d5_18 : decode prog_45_method_6_code 18 = .ok (.aload_n 2, 1) := by decide +kernel
theorem d5_19 : decode prog_45_method_6_code 19 = .ok (.getfield 7, 3) := by decide +kernel
theorem d5_22 : decode prog_45_method_6_code 22 = .ok (.if_icmp .ne 40, 3) := by decide +kernel
theorem d5_25 : decode prog_45_method_6_code 25 = .ok (.aload_n 0, 1) := by decide +kernel
theorem d5_26 : decode prog_45_method_6_code 26 = .ok (.getfield 13, 3) := by decide +kernel
theorem d5_29 : decode prog_45_method_6_code 29 = .ok (.aload_n 2, 1) := by decide +kernel
theorem d5_30 : decode prog_45_method_6_code 30 = .ok (.getfield 13, 3) := by decide +kernel
theorem d5_33 : decode prog_45_method_6_code 33 = .ok (.if_icmp .ne 29, 3) := by decide +kernel
theorem d5_36 : decode prog_45_method_6_code 36 = .ok (.aload_n 0, 1) := by decide +kernel
theorem d5_37 : decode prog_45_method_6_code 37 = .ok (.getfield 16, 3) := by decide +kernel
theorem d5_40 : decode prog_45_method_6_code 40 = .ok (.aload_n 2, 1) := by decide +kernel
theorem d5_41 : decode prog_45_method_6_code 41 = .ok (.getfield 16, 3) := by decide +kernel
theorem d5_44 : decode prog_45_method_6_code 44 = .ok (.if_icmp .ne 18, 3) := by decide +kernel
theorem d5_47 : decode prog_45_method_6_code 47 = .ok (.aload_n 0, 1) := by decide +kernel
theorem d5_48 : decode prog_45_method_6_code 48 = .ok (.getfield 19, 3) := by decide +kernel
theorem d5_51 : decode prog_45_method_6_code 51 = .ok (.aload_n 2, 1) := by decide +kernel
theorem d5_52 : decode prog_45_method_6_code 52 = .ok (.getfield 19, 3) := by decide +kernel
theorem d5_55 : decode prog_45_method_6_code 55 = .ok (.if_icmp .ne 7, 3) := by decide +kernel
theorem d5_58 : decode prog_45_method_6_code 58 = .ok (.iconst 1, 1) := by decide +kernel
theorem d5_59 : decode prog_45_method_6_code 59 = .ok (.goto 4, 3) := by decide +kernel
theorem d5_62 : decode prog_45_method_6_code 62 = .ok (.iconst 0, 1) := by decide +kernel
theorem d5_63 : decode prog_45_method_6_code 63 = .ok (.ireturn, 1) := by decide +kernel
theorem pl_5 : plainFor (⟨"com/example/equilibrate/equilibrate/model/ConcurrentController$Update", "equals", "(Ljava/lang/Object;)Z"⟩ : MethodName) = true := plainFor_of_name (by first | (simp [plainName, overriddenIn]; done) | decide +kernel)
theorem ef_5 (mm : MethodId) (a1 : Addr) (a2 : Addr) : entryFrame mm #[(.ref a1), (.ref a2)] 3 = mkF mm 0 #[.val (.ref a1), .val (.ref a2), .unset] [] := by first | (simp [entryFrame, mkF, argsToLocals, Value.category]; done) | rfl
set_option maxRecDepth 65536 in
set_option maxHeartbeats 40000000 in
theorem rm5 (l : Launch) (Z : State) (a0 : Array Value) (hw : ∀ d ∈ tables_1, d.before a0 Z = true) (a1 : Addr) (a2 : Addr) (h0 : Heap) (n0 : Nat) (m1 s1 c1 t1 m2 s2 c2 t2 : Int32) (E : Exa Z h0 a2 "com/example/equilibrate/equilibrate/model/ConcurrentController$Update") (F1_memory : Fld Z h0 a1 "com/example/equilibrate/equilibrate/model/ConcurrentController$Update" "memory" "I" (.int m1)) (F1_state : Fld Z h0 a1 "com/example/equilibrate/equilibrate/model/ConcurrentController$Update" "state" "I" (.int s1)) (F1_combination : Fld Z h0 a1 "com/example/equilibrate/equilibrate/model/ConcurrentController$Update" "combination" "I" (.int c1)) (F1_target : Fld Z h0 a1 "com/example/equilibrate/equilibrate/model/ConcurrentController$Update" "target" "I" (.int t1)) (F2_memory : Fld Z h0 a2 "com/example/equilibrate/equilibrate/model/ConcurrentController$Update" "memory" "I" (.int m2)) (F2_state : Fld Z h0 a2 "com/example/equilibrate/equilibrate/model/ConcurrentController$Update" "state" "I" (.int s2)) (F2_combination : Fld Z h0 a2 "com/example/equilibrate/equilibrate/model/ConcurrentController$Update" "combination" "I" (.int c2)) (F2_target : Fld Z h0 a2 "com/example/equilibrate/equilibrate/model/ConcurrentController$Update" "target" "I" (.int t2)) :
    Con l (⟨"com/example/equilibrate/equilibrate/model/ConcurrentController$Update", "equals", "(Ljava/lang/Object;)Z"⟩ : MethodName) prog_45_method_6_code 3 (some .boolean) ({ frames := 0, cells := 0, slots := 0, locals := 0 } : Room) Z #[(.ref a1), (.ref a2)] h0 n0 (fun o h => o = some (.int (own_eq m1 m2 s1 s2 c1 c2 t1 t2)) ∧ h0 = h) := by
  refine Con.enter pl_5 (fun mm => ef_5 mm a1 a2) ?_
  intro K O C H
  replace H := k_aloadN C H d5_0 rfl rfl (pc' := 1) rfl
  replace H := k_instYes C H (hw _ (List.mem_of_getElem? (i := 35) rfl)) (Ins.self E) d5_1 (pc' := 4) rfl
  replace H := k_ifcY C H d5_4 (feq (by decide : ¬ (1 : Int32) = 0)).2 (by decide) (pc' := 9) rfl
  replace H := k_aloadN C H d5_9 rfl rfl (pc' := 10) rfl
  replace H := k_castYes C H (hw _ (List.mem_of_getElem? (i := 35) rfl)) (Ins.self E) d5_10 (pc' := 13) rfl
  replace H := k_astoreN C H d5_13 (L' := #[.val (.ref a1), .val (.ref a2), .val (.ref a2)]) rfl rfl (pc' := 14) rfl
  replace H := k_aloadN C H d5_14 rfl rfl (pc' := 15) rfl
  replace H := k_getFld C H (hw _ (List.mem_of_getElem? (i := 9) rfl)) F1_memory d5_15 (pc' := 18) rfl
  replace H := k_aloadN C H d5_18 rfl rfl (pc' := 19) rfl
  replace H := k_getFld C H (hw _ (List.mem_of_getElem? (i := 9) rfl)) F2_memory d5_19 (pc' := 22) rfl
  by_cases hc22 : m1 = m2
  · replace H := k_icmpN C H d5_22 (teq hc22).2 (pc' := 25) rfl
    replace H := k_aloadN C H d5_25 rfl rfl (pc' := 26) rfl
    replace H := k_getFld C H (hw _ (List.mem_of_getElem? (i := 11) rfl)) F1_state d5_26 (pc' := 29) rfl
    replace H := k_aloadN C H d5_29 rfl rfl (pc' := 30) rfl
    replace H := k_getFld C H (hw _ (List.mem_of_getElem? (i := 11) rfl)) F2_state d5_30 (pc' := 33) rfl
    by_cases hc33 : s1 = s2
    · replace H := k_icmpN C H d5_33 (teq hc33).2 (pc' := 36) rfl
      replace H := k_aloadN C H d5_36 rfl rfl (pc' := 37) rfl
      replace H := k_getFld C H (hw _ (List.mem_of_getElem? (i := 13) rfl)) F1_combination d5_37 (pc' := 40) rfl
      replace H := k_aloadN C H d5_40 rfl rfl (pc' := 41) rfl
      replace H := k_getFld C H (hw _ (List.mem_of_getElem? (i := 13) rfl)) F2_combination d5_41 (pc' := 44) rfl
      by_cases hc44 : c1 = c2
      · replace H := k_icmpN C H d5_44 (teq hc44).2 (pc' := 47) rfl
        replace H := k_aloadN C H d5_47 rfl rfl (pc' := 48) rfl
        replace H := k_getFld C H (hw _ (List.mem_of_getElem? (i := 15) rfl)) F1_target d5_48 (pc' := 51) rfl
        replace H := k_aloadN C H d5_51 rfl rfl (pc' := 52) rfl
        replace H := k_getFld C H (hw _ (List.mem_of_getElem? (i := 15) rfl)) F2_target d5_52 (pc' := 55) rfl
        by_cases hc55 : t1 = t2
        · replace H := k_icmpN C H d5_55 (teq hc55).2 (pc' := 58) rfl
          replace H := k_iconst C H (v := 1) d5_58 rfl (pc' := 59) rfl
          replace H := k_goto C H d5_59 (by decide) (pc' := 63) rfl
          exact k_retZ C H d5_63 (by decide) (by decide) (by decide) ⟨by rw [own_eq, if_pos hc22, if_pos hc33, if_pos hc44, if_pos hc55], rfl⟩
        · replace H := k_icmpY C H d5_55 (feq hc55).2 (by decide) (pc' := 62) rfl
          replace H := k_iconst C H (v := 0) d5_62 rfl (pc' := 63) rfl
          exact k_retZ C H d5_63 (by decide) (by decide) (by decide) ⟨by rw [own_eq, if_pos hc22, if_pos hc33, if_pos hc44, if_neg hc55], rfl⟩
      · replace H := k_icmpY C H d5_44 (feq hc44).2 (by decide) (pc' := 62) rfl
        replace H := k_iconst C H (v := 0) d5_62 rfl (pc' := 63) rfl
        exact k_retZ C H d5_63 (by decide) (by decide) (by decide) ⟨by rw [own_eq, if_pos hc22, if_pos hc33, if_neg hc44], rfl⟩
    · replace H := k_icmpY C H d5_33 (feq hc33).2 (by decide) (pc' := 62) rfl
      replace H := k_iconst C H (v := 0) d5_62 rfl (pc' := 63) rfl
      exact k_retZ C H d5_63 (by decide) (by decide) (by decide) ⟨by rw [own_eq, if_pos hc22, if_neg hc33], rfl⟩
  · replace H := k_icmpY C H d5_22 (feq hc22).2 (by decide) (pc' := 62) rfl
    replace H := k_iconst C H (v := 0) d5_62 rfl (pc' := 63) rfl
    exact k_retZ C H d5_63 (by decide) (by decide) (by decide) ⟨by rw [own_eq, if_neg hc22], rfl⟩
theorem own_eq_self (m s c t : Int32) : own_eq m m s s c c t t = 1 := by simp [own_eq]
theorem own_eq_symm (m1 m2 s1 s2 c1 c2 t1 t2 : Int32) : own_eq m2 m1 s2 s1 c2 c1 t2 t1 = own_eq m1 m2 s1 s2 c1 c2 t1 t2 := by
  rw [own_eq, own_eq]
  simp only [eq_comm]
theorem pd0_0 : parseMethodDescriptor "(IIII)V" = some ⟨[.int, .int, .int, .int], none⟩ := by decide +kernel
theorem pd0_1 : parseMethodDescriptor "(III)V" = some ⟨[.int, .int, .int], none⟩ := by decide +kernel
theorem pd0_2 : parseMethodDescriptor "(Ljava/lang/Object;)Z" = some ⟨[(.object "java/lang/Object")], some .boolean⟩ := by decide +kernel
theorem pl_0 : plainFor x = true := plainFor_of_name (by first | (simp [plainName, overriddenIn]; done) | decide +kernel)
theorem ef_0 (mm : MethodId) (im : Int32) (is : Int32) (it : Int32) (iv : Int32) (ix : Int32) (ik : Int32) : entryFrame mm #[(.int im), (.int is), (.int it), (.int iv), (.int ix), (.int ik)] maxLocals = mkF mm 0 #[.val (.int im), .val (.int is), .val (.int it), .val (.int iv), .val (.int ix), .val (.int ik), .unset, .unset, .unset, .unset, .unset, .unset, .unset, .unset, .unset] [] := by first | (simp [entryFrame, mkF, argsToLocals, Value.category, maxLocals]; done) | rfl
set_option maxRecDepth 65536 in
set_option maxHeartbeats 40000000 in
theorem rm0 (l : Launch) (Z : State) (a0 : Array Value) (hw : ∀ d ∈ tables_1, d.before a0 Z = true) (im : Int32) (is : Int32) (it : Int32) (iv : Int32) (ix : Int32) (ik : Int32) (h0 : Heap) (n0 : Nat) (Z0 : n0 ≤ h0.size) :
    Con l x code maxLocals ret room_1 Z #[(.int im), (.int is), (.int it), (.int iv), (.int ix), (.int ik)] h0 n0 (fun o h => o = some (.int 1)) := by
  refine Con.enter pl_0 (fun mm => ef_0 mm im is it iv ix ik) ?_
  intro K O C H
  obtain ⟨m2, e_m2, H⟩ : ∃ m2 : Int32, m2 = (if (ik &&& (1 : Int32)) = (0 : Int32) then im else ix) ∧ K 13 #[.val (.int im), .val (.int is), .val (.int it), .val (.int iv), .val (.int ix), .val (.int ik), .unset, .unset, .unset, .unset, .unset, .unset, .unset, .unset, .unset] [(.int m2)] h0 0 0 := by
    replace H := k_iload C H at_0 rfl (pc' := 2) rfl
    replace H := k_iconst C H (v := 1) at_2 rfl (pc' := 3) rfl
    replace H := k_iand C H at_3 (pc' := 4) rfl
    by_cases hc4 : (ik &&& (1 : Int32)) = (0 : Int32)
    · replace H := k_ifcY C H at_4 (teq hc4).1 (by decide) (pc' := 12) rfl
      replace H := k_iloadN C H at_12 rfl (pc' := 13) rfl
      exact ⟨im, by rw [if_pos hc4], H⟩
    · replace H := k_ifcN C H at_4 (feq hc4).1 (pc' := 7) rfl
      replace H := k_iload C H at_7 rfl (pc' := 9) rfl
      replace H := k_goto C H at_9 (by decide) (pc' := 13) rfl
      exact ⟨ix, by rw [if_neg hc4], H⟩
  replace H := k_istore C H at_13 (L' := #[.val (.int im), .val (.int is), .val (.int it), .val (.int iv), .val (.int ix), .val (.int ik), .val (.int m2), .unset, .unset, .unset, .unset, .unset, .unset, .unset, .unset]) rfl (pc' := 15) rfl
  obtain ⟨s2, e_s2, H⟩ : ∃ s2 : Int32, s2 = (if (ik &&& (2 : Int32)) = (0 : Int32) then is else ix) ∧ K 28 #[.val (.int im), .val (.int is), .val (.int it), .val (.int iv), .val (.int ix), .val (.int ik), .val (.int m2), .unset, .unset, .unset, .unset, .unset, .unset, .unset, .unset] [(.int s2)] h0 0 0 := by
    replace H := k_iload C H at_15 rfl (pc' := 17) rfl
    replace H := k_iconst C H (v := 2) at_17 rfl (pc' := 18) rfl
    replace H := k_iand C H at_18 (pc' := 19) rfl
    by_cases hc19 : (ik &&& (2 : Int32)) = (0 : Int32)
    · replace H := k_ifcY C H at_19 (teq hc19).1 (by decide) (pc' := 27) rfl
      replace H := k_iloadN C H at_27 rfl (pc' := 28) rfl
      exact ⟨is, by rw [if_pos hc19], H⟩
    · replace H := k_ifcN C H at_19 (feq hc19).1 (pc' := 22) rfl
      replace H := k_iload C H at_22 rfl (pc' := 24) rfl
      replace H := k_goto C H at_24 (by decide) (pc' := 28) rfl
      exact ⟨ix, by rw [if_neg hc19], H⟩
  replace H := k_istore C H at_28 (L' := #[.val (.int im), .val (.int is), .val (.int it), .val (.int iv), .val (.int ix), .val (.int ik), .val (.int m2), .val (.int s2), .unset, .unset, .unset, .unset, .unset, .unset, .unset]) rfl (pc' := 30) rfl
  obtain ⟨c2, e_c2, H⟩ : ∃ c2 : Int32, c2 = (if (ik &&& (4 : Int32)) = (0 : Int32) then it else ix) ∧ K 43 #[.val (.int im), .val (.int is), .val (.int it), .val (.int iv), .val (.int ix), .val (.int ik), .val (.int m2), .val (.int s2), .unset, .unset, .unset, .unset, .unset, .unset, .unset] [(.int c2)] h0 0 0 := by
    replace H := k_iload C H at_30 rfl (pc' := 32) rfl
    replace H := k_iconst C H (v := 4) at_32 rfl (pc' := 33) rfl
    replace H := k_iand C H at_33 (pc' := 34) rfl
    by_cases hc34 : (ik &&& (4 : Int32)) = (0 : Int32)
    · replace H := k_ifcY C H at_34 (teq hc34).1 (by decide) (pc' := 42) rfl
      replace H := k_iloadN C H at_42 rfl (pc' := 43) rfl
      exact ⟨it, by rw [if_pos hc34], H⟩
    · replace H := k_ifcN C H at_34 (feq hc34).1 (pc' := 37) rfl
      replace H := k_iload C H at_37 rfl (pc' := 39) rfl
      replace H := k_goto C H at_39 (by decide) (pc' := 43) rfl
      exact ⟨ix, by rw [if_neg hc34], H⟩
  replace H := k_istore C H at_43 (L' := #[.val (.int im), .val (.int is), .val (.int it), .val (.int iv), .val (.int ix), .val (.int ik), .val (.int m2), .val (.int s2), .val (.int c2), .unset, .unset, .unset, .unset, .unset, .unset]) rfl (pc' := 45) rfl
  obtain ⟨t2, e_t2, H⟩ : ∃ t2 : Int32, t2 = (if (ik &&& (8 : Int32)) = (0 : Int32) then iv else ix) ∧ K 59 #[.val (.int im), .val (.int is), .val (.int it), .val (.int iv), .val (.int ix), .val (.int ik), .val (.int m2), .val (.int s2), .val (.int c2), .unset, .unset, .unset, .unset, .unset, .unset] [(.int t2)] h0 0 0 := by
    replace H := k_iload C H at_45 rfl (pc' := 47) rfl
    replace H := k_bipush C H (v := 8) at_47 rfl (pc' := 49) rfl
    replace H := k_iand C H at_49 (pc' := 50) rfl
    by_cases hc50 : (ik &&& (8 : Int32)) = (0 : Int32)
    · replace H := k_ifcY C H at_50 (teq hc50).1 (by decide) (pc' := 58) rfl
      replace H := k_iloadN C H at_58 rfl (pc' := 59) rfl
      exact ⟨iv, by rw [if_pos hc50], H⟩
    · replace H := k_ifcN C H at_50 (feq hc50).1 (pc' := 53) rfl
      replace H := k_iload C H at_53 rfl (pc' := 55) rfl
      replace H := k_goto C H at_55 (by decide) (pc' := 59) rfl
      exact ⟨ix, by rw [if_neg hc50], H⟩
  replace H := k_istore C H at_59 (L' := #[.val (.int im), .val (.int is), .val (.int it), .val (.int iv), .val (.int ix), .val (.int ik), .val (.int m2), .val (.int s2), .val (.int c2), .val (.int t2), .unset, .unset, .unset, .unset, .unset]) rfl (pc' := 61) rfl
  obtain ⟨h_bu, bu, g_bu, E_bu, X_bu, D_bu, H⟩ := k_newObj C H (hw _ (List.mem_of_getElem? (i := 0) rfl)) (hw _ (List.mem_of_getElem? (i := 1) rfl)) (hw _ (List.mem_of_getElem? (i := 2) rfl)) at_61 (by decide) (by decide) (pc' := 64) rfl
  replace H : K 64 #[.val (.int im), .val (.int is), .val (.int it), .val (.int iv), .val (.int ix), .val (.int ik), .val (.int m2), .val (.int s2), .val (.int c2), .val (.int t2), .unset, .unset, .unset, .unset, .unset] [(.ref bu)] h_bu 1 4 := H
  have n_bu : n0 ≤ bu := Nat.le_trans Z0 (Nat.le_of_eq g_bu.symm)
  have Z_bu : n0 ≤ h_bu.size := Nat.le_trans Z0 E_bu.1
  have F_bu_memory : Fld Z h_bu bu "com/example/equilibrate/equilibrate/model/ConcurrentController$Update" "memory" "I" (.int (0 : Int32)) := D_bu (Or.inr (hw _ (List.mem_of_getElem? (i := 10) rfl))) (ty := .int) (by decide)
  have F_bu_state : Fld Z h_bu bu "com/example/equilibrate/equilibrate/model/ConcurrentController$Update" "state" "I" (.int (0 : Int32)) := D_bu (Or.inr (hw _ (List.mem_of_getElem? (i := 12) rfl))) (ty := .int) (by decide)
  have F_bu_combination : Fld Z h_bu bu "com/example/equilibrate/equilibrate/model/ConcurrentController$Update" "combination" "I" (.int (0 : Int32)) := D_bu (Or.inr (hw _ (List.mem_of_getElem? (i := 14) rfl))) (ty := .int) (by decide)
  have F_bu_target : Fld Z h_bu bu "com/example/equilibrate/equilibrate/model/ConcurrentController$Update" "target" "I" (.int (0 : Int32)) := D_bu (Or.inr (hw _ (List.mem_of_getElem? (i := 16) rfl))) (ty := .int) (by decide)
  replace H := k_dup C H at_64 rfl (pc' := 65) rfl
  replace H := k_iloadN C H at_65 rfl (pc' := 66) rfl
  replace H := k_iloadN C H at_66 rfl (pc' := 67) rfl
  replace H := k_iloadN C H at_67 rfl (pc' := 68) rfl
  replace H := k_iloadN C H at_68 rfl (pc' := 69) rfl
  obtain ⟨_, h2_bu, ⟨rfl, K_bu, F_bu_memory', F_bu_state', F_bu_combination', F_bu_target'⟩, H⟩ := k_callCon C H (rm2 l Z a0 hw bu im is it iv h_bu n0 _ _ _ _ X_bu F_bu_memory F_bu_state F_bu_combination F_bu_target n_bu) rfl (hw _ (List.mem_of_getElem? (i := 3) rfl)) (hw _ (List.mem_of_getElem? (i := 4) rfl)) (hw _ (List.mem_of_getElem? (i := 2) rfl)) (hw _ (List.mem_of_getElem? (i := 5) rfl)) (by decide) at_69 rfl bu [(.int im), (.int is), (.int it), (.int iv)] [(.ref bu)] pd0_0 rfl rfl rfl 1 rfl (by decide) (by decide) (by decide) (by decide) (pc' := 72) rfl
  replace H : K 72 #[.val (.int im), .val (.int is), .val (.int it), .val (.int iv), .val (.int ix), .val (.int ik), .val (.int m2), .val (.int s2), .val (.int c2), .val (.int t2), .unset, .unset, .unset, .unset, .unset] [(.ref bu)] h2_bu 1 4 := H
  replace X_bu := X_bu.keep K_bu
  replace F_bu_memory := F_bu_memory'
  replace F_bu_state := F_bu_state'
  replace F_bu_combination := F_bu_combination'
  replace F_bu_target := F_bu_target'
  have Z_bu' : n0 ≤ h2_bu.size := Nat.le_trans Z_bu K_bu.1
  replace H := k_astore C H at_72 (L' := #[.val (.int im), .val (.int is), .val (.int it), .val (.int iv), .val (.int ix), .val (.int ik), .val (.int m2), .val (.int s2), .val (.int c2), .val (.int t2), .val (.ref bu), .unset, .unset, .unset, .unset]) rfl rfl (pc' := 74) rfl
  obtain ⟨h_bv, bv, g_bv, E_bv, X_bv, D_bv, H⟩ := k_newObj C H (hw _ (List.mem_of_getElem? (i := 0) rfl)) (hw _ (List.mem_of_getElem? (i := 1) rfl)) (hw _ (List.mem_of_getElem? (i := 2) rfl)) at_74 (by decide) (by decide) (pc' := 77) rfl
  replace H : K 77 #[.val (.int im), .val (.int is), .val (.int it), .val (.int iv), .val (.int ix), .val (.int ik), .val (.int m2), .val (.int s2), .val (.int c2), .val (.int t2), .val (.ref bu), .unset, .unset, .unset, .unset] [(.ref bv)] h_bv 2 8 := H
  have ne_bu_bv : bu ≠ bv := Nat.ne_of_lt (Nat.lt_of_lt_of_le X_bu.lt (Nat.le_of_eq g_bv.symm))
  have n_bv : n0 ≤ bv := Nat.le_trans Z_bu' (Nat.le_of_eq g_bv.symm)
  replace X_bu := X_bu.ext E_bv
  replace F_bu_memory := F_bu_memory.ext E_bv
  replace F_bu_state := F_bu_state.ext E_bv
  replace F_bu_combination := F_bu_combination.ext E_bv
  replace F_bu_target := F_bu_target.ext E_bv
  have Z_bv : n0 ≤ h_bv.size := Nat.le_trans Z_bu' E_bv.1
  have F_bv_memory : Fld Z h_bv bv "com/example/equilibrate/equilibrate/model/ConcurrentController$Update" "memory" "I" (.int (0 : Int32)) := D_bv (Or.inr (hw _ (List.mem_of_getElem? (i := 10) rfl))) (ty := .int) (by decide)
  have F_bv_state : Fld Z h_bv bv "com/example/equilibrate/equilibrate/model/ConcurrentController$Update" "state" "I" (.int (0 : Int32)) := D_bv (Or.inr (hw _ (List.mem_of_getElem? (i := 12) rfl))) (ty := .int) (by decide)
  have F_bv_combination : Fld Z h_bv bv "com/example/equilibrate/equilibrate/model/ConcurrentController$Update" "combination" "I" (.int (0 : Int32)) := D_bv (Or.inr (hw _ (List.mem_of_getElem? (i := 14) rfl))) (ty := .int) (by decide)
  have F_bv_target : Fld Z h_bv bv "com/example/equilibrate/equilibrate/model/ConcurrentController$Update" "target" "I" (.int (0 : Int32)) := D_bv (Or.inr (hw _ (List.mem_of_getElem? (i := 16) rfl))) (ty := .int) (by decide)
  replace H := k_dup C H at_77 rfl (pc' := 78) rfl
  replace H := k_iload C H at_78 rfl (pc' := 80) rfl
  replace H := k_iload C H at_80 rfl (pc' := 82) rfl
  replace H := k_iload C H at_82 rfl (pc' := 84) rfl
  replace H := k_iload C H at_84 rfl (pc' := 86) rfl
  obtain ⟨_, h2_bv, ⟨rfl, K_bv, F_bv_memory', F_bv_state', F_bv_combination', F_bv_target'⟩, H⟩ := k_callCon C H (rm2 l Z a0 hw bv m2 s2 c2 t2 h_bv n0 _ _ _ _ X_bv F_bv_memory F_bv_state F_bv_combination F_bv_target n_bv) rfl (hw _ (List.mem_of_getElem? (i := 3) rfl)) (hw _ (List.mem_of_getElem? (i := 4) rfl)) (hw _ (List.mem_of_getElem? (i := 2) rfl)) (hw _ (List.mem_of_getElem? (i := 5) rfl)) (by decide) at_86 rfl bv [(.int m2), (.int s2), (.int c2), (.int t2)] [(.ref bv)] pd0_0 rfl rfl rfl 1 rfl (by decide) (by decide) (by decide) (by decide) (pc' := 89) rfl
  replace H : K 89 #[.val (.int im), .val (.int is), .val (.int it), .val (.int iv), .val (.int ix), .val (.int ik), .val (.int m2), .val (.int s2), .val (.int c2), .val (.int t2), .val (.ref bu), .unset, .unset, .unset, .unset] [(.ref bv)] h2_bv 2 8 := H
  replace X_bu := X_bu.keep K_bv
  replace F_bu_memory := F_bu_memory.keep K_bv (ninS ne_bu_bv nin0)
  replace F_bu_state := F_bu_state.keep K_bv (ninS ne_bu_bv nin0)
  replace F_bu_combination := F_bu_combination.keep K_bv (ninS ne_bu_bv nin0)
  replace F_bu_target := F_bu_target.keep K_bv (ninS ne_bu_bv nin0)
  replace X_bv := X_bv.keep K_bv
  replace F_bv_memory := F_bv_memory'
  replace F_bv_state := F_bv_state'
  replace F_bv_combination := F_bv_combination'
  replace F_bv_target := F_bv_target'
  have Z_bv' : n0 ≤ h2_bv.size := Nat.le_trans Z_bv K_bv.1
  replace H := k_astore C H at_89 (L' := #[.val (.int im), .val (.int is), .val (.int it), .val (.int iv), .val (.int ix), .val (.int ik), .val (.int m2), .val (.int s2), .val (.int c2), .val (.int t2), .val (.ref bu), .val (.ref bv), .unset, .unset, .unset]) rfl rfl (pc' := 91) rfl
  obtain ⟨h_bm, bm, g_bm, E_bm, X_bm, D_bm, H⟩ := k_newObj C H (hw _ (List.mem_of_getElem? (i := 17) rfl)) (hw _ (List.mem_of_getElem? (i := 18) rfl)) (hw _ (List.mem_of_getElem? (i := 19) rfl)) at_91 (by decide) (by decide) (pc' := 94) rfl
  replace H : K 94 #[.val (.int im), .val (.int is), .val (.int it), .val (.int iv), .val (.int ix), .val (.int ik), .val (.int m2), .val (.int s2), .val (.int c2), .val (.int t2), .val (.ref bu), .val (.ref bv), .unset, .unset, .unset] [(.ref bm)] h_bm 3 11 := H
  have ne_bu_bm : bu ≠ bm := Nat.ne_of_lt (Nat.lt_of_lt_of_le X_bu.lt (Nat.le_of_eq g_bm.symm))
  have ne_bv_bm : bv ≠ bm := Nat.ne_of_lt (Nat.lt_of_lt_of_le X_bv.lt (Nat.le_of_eq g_bm.symm))
  have n_bm : n0 ≤ bm := Nat.le_trans Z_bv' (Nat.le_of_eq g_bm.symm)
  replace X_bu := X_bu.ext E_bm
  replace F_bu_memory := F_bu_memory.ext E_bm
  replace F_bu_state := F_bu_state.ext E_bm
  replace F_bu_combination := F_bu_combination.ext E_bm
  replace F_bu_target := F_bu_target.ext E_bm
  replace X_bv := X_bv.ext E_bm
  replace F_bv_memory := F_bv_memory.ext E_bm
  replace F_bv_state := F_bv_state.ext E_bm
  replace F_bv_combination := F_bv_combination.ext E_bm
  replace F_bv_target := F_bv_target.ext E_bm
  have Z_bm : n0 ≤ h_bm.size := Nat.le_trans Z_bv' E_bm.1
  have F_bm_memory : Fld Z h_bm bm "com/example/equilibrate/equilibrate/model/ConcurrentController$Move" "memory" "I" (.int (0 : Int32)) := D_bm (Or.inr (hw _ (List.mem_of_getElem? (i := 25) rfl))) (ty := .int) (by decide)
  have F_bm_state : Fld Z h_bm bm "com/example/equilibrate/equilibrate/model/ConcurrentController$Move" "state" "I" (.int (0 : Int32)) := D_bm (Or.inr (hw _ (List.mem_of_getElem? (i := 27) rfl))) (ty := .int) (by decide)
  have F_bm_action : Fld Z h_bm bm "com/example/equilibrate/equilibrate/model/ConcurrentController$Move" "action" "I" (.int (0 : Int32)) := D_bm (Or.inr (hw _ (List.mem_of_getElem? (i := 29) rfl))) (ty := .int) (by decide)
  replace H := k_dup C H at_94 rfl (pc' := 95) rfl
  replace H := k_iloadN C H at_95 rfl (pc' := 96) rfl
  replace H := k_iloadN C H at_96 rfl (pc' := 97) rfl
  replace H := k_iloadN C H at_97 rfl (pc' := 98) rfl
  obtain ⟨_, h2_bm, ⟨rfl, K_bm, F_bm_memory', F_bm_state', F_bm_action'⟩, H⟩ := k_callCon C H (rm1 l Z a0 hw bm im is it h_bm n0 _ _ _ X_bm F_bm_memory F_bm_state F_bm_action n_bm) rfl (hw _ (List.mem_of_getElem? (i := 20) rfl)) (hw _ (List.mem_of_getElem? (i := 21) rfl)) (hw _ (List.mem_of_getElem? (i := 19) rfl)) (hw _ (List.mem_of_getElem? (i := 22) rfl)) (by decide) at_98 rfl bm [(.int im), (.int is), (.int it)] [(.ref bm)] pd0_1 rfl rfl rfl 1 rfl (by decide) (by decide) (by decide) (by decide) (pc' := 101) rfl
  replace H : K 101 #[.val (.int im), .val (.int is), .val (.int it), .val (.int iv), .val (.int ix), .val (.int ik), .val (.int m2), .val (.int s2), .val (.int c2), .val (.int t2), .val (.ref bu), .val (.ref bv), .unset, .unset, .unset] [(.ref bm)] h2_bm 3 11 := H
  replace X_bu := X_bu.keep K_bm
  replace F_bu_memory := F_bu_memory.keep K_bm (ninS ne_bu_bm nin0)
  replace F_bu_state := F_bu_state.keep K_bm (ninS ne_bu_bm nin0)
  replace F_bu_combination := F_bu_combination.keep K_bm (ninS ne_bu_bm nin0)
  replace F_bu_target := F_bu_target.keep K_bm (ninS ne_bu_bm nin0)
  replace X_bv := X_bv.keep K_bm
  replace F_bv_memory := F_bv_memory.keep K_bm (ninS ne_bv_bm nin0)
  replace F_bv_state := F_bv_state.keep K_bm (ninS ne_bv_bm nin0)
  replace F_bv_combination := F_bv_combination.keep K_bm (ninS ne_bv_bm nin0)
  replace F_bv_target := F_bv_target.keep K_bm (ninS ne_bv_bm nin0)
  replace X_bm := X_bm.keep K_bm
  replace F_bm_memory := F_bm_memory'
  replace F_bm_state := F_bm_state'
  replace F_bm_action := F_bm_action'
  have Z_bm' : n0 ≤ h2_bm.size := Nat.le_trans Z_bm K_bm.1
  obtain ⟨fe, e_fe, H⟩ : ∃ fe : Int32, fe = (if im = m2 then (if is = s2 then (if it = c2 then (if iv = t2 then (1 : Int32) else (0 : Int32)) else (0 : Int32)) else (0 : Int32)) else (0 : Int32)) ∧ K 132 #[.val (.int im), .val (.int is), .val (.int it), .val (.int iv), .val (.int ix), .val (.int ik), .val (.int m2), .val (.int s2), .val (.int c2), .val (.int t2), .val (.ref bu), .val (.ref bv), .val (.ref bm), .unset, .unset] [(.int fe)] h2_bm 3 11 := by
    replace H := k_astore C H at_101 (L' := #[.val (.int im), .val (.int is), .val (.int it), .val (.int iv), .val (.int ix), .val (.int ik), .val (.int m2), .val (.int s2), .val (.int c2), .val (.int t2), .val (.ref bu), .val (.ref bv), .val (.ref bm), .unset, .unset]) rfl rfl (pc' := 103) rfl
    replace H := k_iloadN C H at_103 rfl (pc' := 104) rfl
    replace H := k_iload C H at_104 rfl (pc' := 106) rfl
    by_cases hc106 : im = m2
    · replace H := k_icmpN C H at_106 (teq hc106).2 (pc' := 109) rfl
      replace H := k_iloadN C H at_109 rfl (pc' := 110) rfl
      replace H := k_iload C H at_110 rfl (pc' := 112) rfl
      by_cases hc112 : is = s2
      · replace H := k_icmpN C H at_112 (teq hc112).2 (pc' := 115) rfl
        replace H := k_iloadN C H at_115 rfl (pc' := 116) rfl
        replace H := k_iload C H at_116 rfl (pc' := 118) rfl
        by_cases hc118 : it = c2
        · replace H := k_icmpN C H at_118 (teq hc118).2 (pc' := 121) rfl
          replace H := k_iloadN C H at_121 rfl (pc' := 122) rfl
          replace H := k_iload C H at_122 rfl (pc' := 124) rfl
          by_cases hc124 : iv = t2
          · replace H := k_icmpN C H at_124 (teq hc124).2 (pc' := 127) rfl
            replace H := k_iconst C H (v := 1) at_127 rfl (pc' := 128) rfl
            replace H := k_goto C H at_128 (by decide) (pc' := 132) rfl
            exact ⟨(1 : Int32), by rw [if_pos hc106, if_pos hc112, if_pos hc118, if_pos hc124], H⟩
          · replace H := k_icmpY C H at_124 (feq hc124).2 (by decide) (pc' := 131) rfl
            replace H := k_iconst C H (v := 0) at_131 rfl (pc' := 132) rfl
            exact ⟨(0 : Int32), by rw [if_pos hc106, if_pos hc112, if_pos hc118, if_neg hc124], H⟩
        · replace H := k_icmpY C H at_118 (feq hc118).2 (by decide) (pc' := 131) rfl
          replace H := k_iconst C H (v := 0) at_131 rfl (pc' := 132) rfl
          exact ⟨(0 : Int32), by rw [if_pos hc106, if_pos hc112, if_neg hc118], H⟩
      · replace H := k_icmpY C H at_112 (feq hc112).2 (by decide) (pc' := 131) rfl
        replace H := k_iconst C H (v := 0) at_131 rfl (pc' := 132) rfl
        exact ⟨(0 : Int32), by rw [if_pos hc106, if_neg hc112], H⟩
    · replace H := k_icmpY C H at_106 (feq hc106).2 (by decide) (pc' := 131) rfl
      replace H := k_iconst C H (v := 0) at_131 rfl (pc' := 132) rfl
      exact ⟨(0 : Int32), by rw [if_neg hc106], H⟩
  have e_f : own_eq im m2 is s2 it c2 iv t2 = fe := e_fe.symm
  replace H := k_istore C H at_132 (L' := #[.val (.int im), .val (.int is), .val (.int it), .val (.int iv), .val (.int ix), .val (.int ik), .val (.int m2), .val (.int s2), .val (.int c2), .val (.int t2), .val (.ref bu), .val (.ref bv), .val (.ref bm), .val (.int fe), .unset]) rfl (pc' := 134) rfl
  replace H := k_aload C H at_134 rfl rfl (pc' := 136) rfl
  replace H := k_aload C H at_136 rfl rfl (pc' := 138) rfl
  obtain ⟨_, _, ⟨rfl, rfl⟩, H⟩ := k_callVir C H (rm5 l Z a0 hw bu bv h2_bm n0 im is it iv m2 s2 c2 t2 X_bv F_bu_memory F_bu_state F_bu_combination F_bu_target F_bv_memory F_bv_state F_bv_combination F_bv_target) X_bu (hw _ (List.mem_of_getElem? (i := 30) rfl)) (hw _ (List.mem_of_getElem? (i := 31) rfl)) (hw _ (List.mem_of_getElem? (i := 33) rfl)) (hw _ (List.mem_of_getElem? (i := 32) rfl)) (hw _ (List.mem_of_getElem? (i := 2) rfl)) (hw _ (List.mem_of_getElem? (i := 34) rfl)) (by decide) at_138 rfl [(.ref bv)] [] pd0_2 rfl rfl rfl 0 rfl (by decide) (by decide) (by decide) (by decide) (pc' := 141) rfl
  replace H : K 141 #[.val (.int im), .val (.int is), .val (.int it), .val (.int iv), .val (.int ix), .val (.int ik), .val (.int m2), .val (.int s2), .val (.int c2), .val (.int t2), .val (.ref bu), .val (.ref bv), .val (.ref bm), .val (.int fe), .unset] [(.int (own_eq im m2 is s2 it c2 iv t2))] h2_bm 3 11 := H
  replace H := k_iload C H at_141 rfl (pc' := 143) rfl
  replace H := k_icmpN C H at_143 (teq e_f).2 (pc' := 146) rfl
  replace H := k_iconst C H (v := 1) at_146 rfl (pc' := 147) rfl
  replace H := k_goto C H at_147 (by decide) (pc' := 151) rfl
  replace H := k_istore C H at_151 (L' := #[.val (.int im), .val (.int is), .val (.int it), .val (.int iv), .val (.int ix), .val (.int ik), .val (.int m2), .val (.int s2), .val (.int c2), .val (.int t2), .val (.ref bu), .val (.ref bv), .val (.ref bm), .val (.int fe), .val (.int (1 : Int32))]) rfl (pc' := 153) rfl
  replace H := k_iload C H at_153 rfl (pc' := 155) rfl
  replace H := k_ifcN C H at_155 (feq (by decide : ¬ (1 : Int32) = 0)).1 (pc' := 158) rfl
  replace H := k_aload C H at_158 rfl rfl (pc' := 160) rfl
  replace H := k_aload C H at_160 rfl rfl (pc' := 162) rfl
  obtain ⟨_, _, ⟨rfl, rfl⟩, H⟩ := k_callVir C H (rm5 l Z a0 hw bv bu h2_bm n0 m2 s2 c2 t2 im is it iv X_bu F_bv_memory F_bv_state F_bv_combination F_bv_target F_bu_memory F_bu_state F_bu_combination F_bu_target) X_bv (hw _ (List.mem_of_getElem? (i := 30) rfl)) (hw _ (List.mem_of_getElem? (i := 31) rfl)) (hw _ (List.mem_of_getElem? (i := 33) rfl)) (hw _ (List.mem_of_getElem? (i := 32) rfl)) (hw _ (List.mem_of_getElem? (i := 2) rfl)) (hw _ (List.mem_of_getElem? (i := 34) rfl)) (by decide) at_162 rfl [(.ref bu)] [] pd0_2 rfl rfl rfl 0 rfl (by decide) (by decide) (by decide) (by decide) (pc' := 165) rfl
  replace H : K 165 #[.val (.int im), .val (.int is), .val (.int it), .val (.int iv), .val (.int ix), .val (.int ik), .val (.int m2), .val (.int s2), .val (.int c2), .val (.int t2), .val (.ref bu), .val (.ref bv), .val (.ref bm), .val (.int fe), .val (.int (1 : Int32))] [(.int (own_eq m2 im s2 is c2 it t2 iv))] h2_bm 3 11 := H
  replace H := k_iload C H at_165 rfl (pc' := 167) rfl
  replace H := k_icmpN C H at_167 (teq ((own_eq_symm im m2 is s2 it c2 iv t2).trans e_f)).2 (pc' := 170) rfl
  replace H := k_iconst C H (v := 1) at_170 rfl (pc' := 171) rfl
  replace H := k_goto C H at_171 (by decide) (pc' := 175) rfl
  replace H := k_istore C H at_175 (L' := #[.val (.int im), .val (.int is), .val (.int it), .val (.int iv), .val (.int ix), .val (.int ik), .val (.int m2), .val (.int s2), .val (.int c2), .val (.int t2), .val (.ref bu), .val (.ref bv), .val (.ref bm), .val (.int fe), .val (.int (1 : Int32))]) rfl (pc' := 177) rfl
  replace H := k_iload C H at_177 rfl (pc' := 179) rfl
  replace H := k_ifcN C H at_179 (feq (by decide : ¬ (1 : Int32) = 0)).1 (pc' := 182) rfl
  replace H := k_aload C H at_182 rfl rfl (pc' := 184) rfl
  replace H := k_aload C H at_184 rfl rfl (pc' := 186) rfl
  obtain ⟨_, _, ⟨rfl, rfl⟩, H⟩ := k_callVir C H (rm5 l Z a0 hw bu bu h2_bm n0 im is it iv im is it iv X_bu F_bu_memory F_bu_state F_bu_combination F_bu_target F_bu_memory F_bu_state F_bu_combination F_bu_target) X_bu (hw _ (List.mem_of_getElem? (i := 30) rfl)) (hw _ (List.mem_of_getElem? (i := 31) rfl)) (hw _ (List.mem_of_getElem? (i := 33) rfl)) (hw _ (List.mem_of_getElem? (i := 32) rfl)) (hw _ (List.mem_of_getElem? (i := 2) rfl)) (hw _ (List.mem_of_getElem? (i := 34) rfl)) (by decide) at_186 rfl [(.ref bu)] [] pd0_2 rfl rfl rfl 0 rfl (by decide) (by decide) (by decide) (by decide) (pc' := 189) rfl
  replace H : K 189 #[.val (.int im), .val (.int is), .val (.int it), .val (.int iv), .val (.int ix), .val (.int ik), .val (.int m2), .val (.int s2), .val (.int c2), .val (.int t2), .val (.ref bu), .val (.ref bv), .val (.ref bm), .val (.int fe), .val (.int (1 : Int32))] [(.int (own_eq im im is is it it iv iv))] h2_bm 3 11 := H
  replace H := k_ifcN C H at_189 (feq (by rw [own_eq_self]; decide : ¬ own_eq im im is is it it iv iv = 0)).1 (pc' := 192) rfl
  replace H := k_iconst C H (v := 1) at_192 rfl (pc' := 193) rfl
  replace H := k_goto C H at_193 (by decide) (pc' := 197) rfl
  replace H := k_istore C H at_197 (L' := #[.val (.int im), .val (.int is), .val (.int it), .val (.int iv), .val (.int ix), .val (.int ik), .val (.int m2), .val (.int s2), .val (.int c2), .val (.int t2), .val (.ref bu), .val (.ref bv), .val (.ref bm), .val (.int fe), .val (.int (1 : Int32))]) rfl (pc' := 199) rfl
  replace H := k_iload C H at_199 rfl (pc' := 201) rfl
  replace H := k_ifcN C H at_201 (feq (by decide : ¬ (1 : Int32) = 0)).1 (pc' := 204) rfl
  replace H := k_aload C H at_204 rfl rfl (pc' := 206) rfl
  replace H := k_anull C H at_206 (pc' := 207) rfl
  obtain ⟨_, _, ⟨rfl, rfl⟩, H⟩ := k_callVir C H (rm3 l Z a0 hw bu h2_bm n0) X_bu (hw _ (List.mem_of_getElem? (i := 30) rfl)) (hw _ (List.mem_of_getElem? (i := 31) rfl)) (hw _ (List.mem_of_getElem? (i := 33) rfl)) (hw _ (List.mem_of_getElem? (i := 32) rfl)) (hw _ (List.mem_of_getElem? (i := 2) rfl)) (hw _ (List.mem_of_getElem? (i := 34) rfl)) (by decide) at_207 rfl [.null] [] pd0_2 rfl rfl rfl 0 rfl (by decide) (by decide) (by decide) (by decide) (pc' := 210) rfl
  replace H : K 210 #[.val (.int im), .val (.int is), .val (.int it), .val (.int iv), .val (.int ix), .val (.int ik), .val (.int m2), .val (.int s2), .val (.int c2), .val (.int t2), .val (.ref bu), .val (.ref bv), .val (.ref bm), .val (.int fe), .val (.int (1 : Int32))] [(.int (0 : Int32))] h2_bm 3 11 := H
  replace H := k_ifcN C H at_210 (teq (rfl : (0 : Int32) = 0)).2 (pc' := 213) rfl
  replace H := k_iconst C H (v := 1) at_213 rfl (pc' := 214) rfl
  replace H := k_goto C H at_214 (by decide) (pc' := 218) rfl
  replace H := k_istore C H at_218 (L' := #[.val (.int im), .val (.int is), .val (.int it), .val (.int iv), .val (.int ix), .val (.int ik), .val (.int m2), .val (.int s2), .val (.int c2), .val (.int t2), .val (.ref bu), .val (.ref bv), .val (.ref bm), .val (.int fe), .val (.int (1 : Int32))]) rfl (pc' := 220) rfl
  replace H := k_iload C H at_220 rfl (pc' := 222) rfl
  replace H := k_ifcN C H at_222 (feq (by decide : ¬ (1 : Int32) = 0)).1 (pc' := 225) rfl
  replace H := k_aload C H at_225 rfl rfl (pc' := 227) rfl
  replace H := k_aload C H at_227 rfl rfl (pc' := 229) rfl
  obtain ⟨_, _, ⟨rfl, rfl⟩, H⟩ := k_callVir C H (rm4 l Z a0 hw bu bm h2_bm n0 X_bm) X_bu (hw _ (List.mem_of_getElem? (i := 30) rfl)) (hw _ (List.mem_of_getElem? (i := 31) rfl)) (hw _ (List.mem_of_getElem? (i := 33) rfl)) (hw _ (List.mem_of_getElem? (i := 32) rfl)) (hw _ (List.mem_of_getElem? (i := 2) rfl)) (hw _ (List.mem_of_getElem? (i := 34) rfl)) (by decide) at_229 rfl [(.ref bm)] [] pd0_2 rfl rfl rfl 0 rfl (by decide) (by decide) (by decide) (by decide) (pc' := 232) rfl
  replace H : K 232 #[.val (.int im), .val (.int is), .val (.int it), .val (.int iv), .val (.int ix), .val (.int ik), .val (.int m2), .val (.int s2), .val (.int c2), .val (.int t2), .val (.ref bu), .val (.ref bv), .val (.ref bm), .val (.int fe), .val (.int (1 : Int32))] [(.int (0 : Int32))] h2_bm 3 11 := H
  replace H := k_ifcN C H at_232 (teq (rfl : (0 : Int32) = 0)).2 (pc' := 235) rfl
  replace H := k_iconst C H (v := 1) at_235 rfl (pc' := 236) rfl
  replace H := k_goto C H at_236 (by decide) (pc' := 240) rfl
  replace H := k_istore C H at_240 (L' := #[.val (.int im), .val (.int is), .val (.int it), .val (.int iv), .val (.int ix), .val (.int ik), .val (.int m2), .val (.int s2), .val (.int c2), .val (.int t2), .val (.ref bu), .val (.ref bv), .val (.ref bm), .val (.int fe), .val (.int (1 : Int32))]) rfl (pc' := 242) rfl
  replace H := k_iload C H at_242 rfl (pc' := 244) rfl
  exact k_retZ C H at_244 (by decide) (by decide) (by decide) rfl
set_option maxRecDepth 65536 in
set_option maxHeartbeats 40000000 in
theorem comes_1 {Post : Tables → Env → Array Value → State → Outcome → State → Prop} (hpost : ∀ tb e args s v u, (limb_1_1.after args s (.returned v) u = true ∧ limb_1_2.after args s (.returned v) u = true) → FrameEnd s (.returned v) u (Jvm.fieldLocs frame_1_writes args s ++ Jvm.arrayLocs frame_1_arrays args s ++ Jvm.staticLocs frame_1_statics s) 16 128 → Post tb e args s (.returned v) u) :
    ArmFor flags0 classFile x code maxLocals ret World_1 tables_1 room_1 Calls_1 rest_1 Pre_1 Post := by
  intro l hfl _ _ p e ha hc hk s m args below hf hA hF happ hP
  obtain ⟨hcalls, hrest, hpre⟩ := hP
  obtain ⟨-, -, -, hnamed, -, -, -, hat⟩ := (Spec.applies_iff hf).mp happ
  obtain ⟨hg, hn⟩ := and_e (Cond.before_iff.mp (show (Jvm.Cond.and given_1 narrow_1).before args s = true from hpre))
  obtain ⟨g0, r0⟩ := and_e hg
  obtain ⟨g1, r1⟩ := and_e r0
  obtain ⟨g2, r2⟩ := and_e r1
  obtain ⟨g3, r3⟩ := and_e r2
  obtain ⟨g4, r4⟩ := and_e r3
  obtain ⟨g5, r5⟩ := and_e r4
  obtain ⟨w0, w1, w2, w3, w4, w5, rfl⟩ : ∃ w0 w1 w2 w3 w4 w5 : Value, args = #[w0, w1, w2, w3, w4, w5] := by
    have hs : args.size = 6 := by simpa [Cond.value, given_1] using g0
    obtain ⟨L⟩ := args
    match L, hs with
    | [w0, w1, w2, w3, w4, w5], _ => exact ⟨w0, w1, w2, w3, w4, w5, rfl⟩
  have hw := fun d (hd : d ∈ tables_1) => atoms_spec (ws := Jvm.Cond.code x code maxLocals ret :: tables_1) hat d (List.mem_cons_of_mem _ hd)
  obtain ⟨i0, ei0⟩ := is_v g1
  obtain rfl : w0 = (.int i0) := Option.some.inj ei0
  obtain ⟨i1, ei1⟩ := is_v g2
  obtain rfl : w1 = (.int i1) := Option.some.inj ei1
  obtain ⟨i2, ei2⟩ := is_v g3
  obtain rfl : w2 = (.int i2) := Option.some.inj ei2
  obtain ⟨i3, ei3⟩ := is_v g4
  obtain rfl : w3 = (.int i3) := Option.some.inj ei3
  obtain ⟨i4, ei4⟩ := is_v g5
  obtain rfl : w4 = (.int i4) := Option.some.inj ei4
  obtain ⟨i5, ei5⟩ := is_v r5
  obtain rfl : w5 = (.int i5) := Option.some.inj ei5
  obtain ⟨n, o, h1, h2, h3, _, L, rfl, ⟨rfl, N⟩, hq⟩ := rm0 l s _ hw i0 i1 i2 i3 i4 i5 s.heap s.heap.size (Nat.le_refl _) tables_1 p e ha hc hk s m _ below hf ((Spec.applies_iff_loose hf).mp happ).1 ⟨rfl, State.Warmed39.refl s, rfl⟩ trivial
  refine ⟨n, _, h1, h2, h3, hpost _ _ _ _ _ _ ⟨Cond.after_iff.mpr rfl, Cond.after_iff.mpr (eq_i res_at (Term.int_eval (1)) rfl)⟩ ⟨hq.1, hq.2.1, (hq.2.2.sift fun y hy => Or.inr (N y hy)).mono (by decide) (by decide)⟩⟩
theorem main_1_1 : Claimed_1_1 := comes_1 fun _ _ _ _ _ _ h hF => ⟨h.1, hF⟩
theorem main_1_2 : Claimed_1_2 := comes_1 fun _ _ _ _ _ _ h hF => ⟨h.2, hF⟩
end Jvm.Pilot.@@N@@
namespace Jvm.Pilot.@@N@@
open Jvm Jvm.ClassFile Sem Op Lib Jvm.Free Jvm.Stand Jvm.Pilot.@@N@@.Jvm.D
/-! MADE BY PROGRAM (witnessworld.py) out of the Statement's table words and the real class files: 10 classes; the members and pool entries that the words name. The judged class is class 1, her method 1. -/
namespace start1
open Jvm.ClassFile
def u (s : String) : CpInfo := .utf8 (stringToUtf16 s)
/-- a pool by its gaps: so many unusable entries, then the entry; so many at the end -/
def gap : Nat → List CpInfo → List CpInfo
  | 0, r => r
  | n + 1, r => .unusable :: gap n r
def poolList (es : List (Nat × CpInfo)) (last : Nat) : List CpInfo := es.foldr (fun e r => gap e.1 (e.2 :: r)) (gap last [])
def pool (es : List (Nat × CpInfo)) (last : Nat) : Array CpInfo := ⟨poolList es last⟩
def fileOf (pool : Array CpInfo) (this : Nat) (attrs : Array Attribute := #[]) (ms : Array MethodInfo := #[]) (fl : Nat := 33) (sup : Nat := 0) (ifs : Array Nat := #[]) (fds : Array FieldInfo := #[]) : ClassFile where
  minorVersion := 0
  majorVersion := 65
  constantPool := pool
  accessFlags := fl
  thisClass := this
  superClass := sup
  interfaces := ifs
  fields := fds
  methods := ms
  attributes := attrs
def plain (name : String) (sup : Option ClassId) : Class where
  name := name
  kind := .ordinary
  loader := none
  accessFlags := 33
  super := sup
  interfaces := #[]
  cf := none
  fields := #[]
  methods := #[]
  instanceTypes := #[]
  staticTypes := #[]
  resolved := #[]
  callSites := []
  init := .initialized
  statics := none
  mirror := none

def pool0 : Array CpInfo := pool [(5, u "<init>"), (0, u "()V"), (1, .class_ 10), (1, u "java/lang/Object")] 113

def k0c0 : Code := { maxStack := 0, maxLocals := 1, code := object_method_1_code, exceptionTable := #[], attributes := #[] }
def k0m0 : Method := { name := "<init>", desc := "()V", sig := { parameters := [], returnType := none }, accessFlags := 1, code := some k0c0 }
/-- java/lang/Object -/
def k0 : Class := { plain "java/lang/Object" none with
  accessFlags := 33
  interfaces := #[]
  cf := some (fileOf pool0 8 #[] #[{ accessFlags := 1, nameIndex := 5, descriptorIndex := 6, attributes := #[] }] 33 0 #[] #[])
  fields := #[]
  methods := #[k0m0]
  instanceTypes := #[]
  staticTypes := #[]
  resolved := Array.replicate 124 none
  statics := none }

def pool1 : Array CpInfo := pool [(2, .class_ 4), (1, u "java/lang/Object"), (0, u "<init>"), (0, u "()V"), (0, .class_ 8), (0, u "com/example/equilibrate/equilibrate/model/ConcurrentController$Update"), (0, .methodref 7 10), (0, .nameAndType 5 11), (0, u "(IIII)V"), (0, .class_ 13), (0, u "com/example/equilibrate/equilibrate/model/ConcurrentController$Move"), (0, .methodref 12 15), (0, .nameAndType 5 16), (0, u "(III)V"), (0, .methodref 7 18), (0, .nameAndType 19 20), (0, u "equals"), (0, u "(Ljava/lang/Object;)Z"), (0, .class_ 22), (0, u "com/example/equilibrate/equilibrate/model/UpdateEqualsPinLaw"), (2, u "law"), (0, u "(IIIIII)Z")] 8

def k1m0 : Method := { name := "<init>", desc := "()V", sig := { parameters := [], returnType := none }, accessFlags := 1, code := none }
def k1c1 : Code := { maxStack := 6, maxLocals := 15, code := code, exceptionTable := #[], attributes := #[] }
def k1m1 : Method := { name := "law", desc := "(IIIIII)Z", sig := { parameters := [.int, .int, .int, .int, .int, .int], returnType := some .boolean }, accessFlags := 9, code := some k1c1 }
/-- com/example/equilibrate/equilibrate/model/UpdateEqualsPinLaw -/
def k1 : Class := { plain "com/example/equilibrate/equilibrate/model/UpdateEqualsPinLaw" (some 0) with
  accessFlags := 49
  interfaces := #[]
  cf := some (fileOf pool1 21 #[] #[{ accessFlags := 1, nameIndex := 5, descriptorIndex := 6, attributes := #[] }, { accessFlags := 9, nameIndex := 25, descriptorIndex := 26, attributes := #[] }] 49 2 #[] #[])
  fields := #[]
  methods := #[k1m0, k1m1]
  instanceTypes := #[]
  staticTypes := #[]
  resolved := Array.replicate 35 none
  statics := none }

def pool2 : Array CpInfo := pool [(1, .methodref 2 3), (0, .class_ 4), (0, .nameAndType 5 6), (0, u "java/lang/Object"), (0, u "<init>"), (0, u "()V"), (0, .fieldref 8 9), (0, .class_ 10), (0, .nameAndType 11 12), (0, u "com/example/equilibrate/equilibrate/model/ConcurrentController$Update"), (0, u "memory"), (0, u "I"), (0, .fieldref 8 14), (0, .nameAndType 15 12), (0, u "state"), (0, .fieldref 8 17), (0, .nameAndType 18 12), (0, u "combination"), (0, .fieldref 8 20), (0, .nameAndType 21 12), (0, u "target"), (16, u "(IIII)V"), (7, u "equals"), (0, u "(Ljava/lang/Object;)Z"), (7, .class_ 56), (0, u "com/example/equilibrate/equilibrate/model/ConcurrentController")] 16

def k2c0 : Code := { maxStack := 2, maxLocals := 5, code := prog_45_method_1_code, exceptionTable := #[], attributes := #[] }
def k2m0 : Method := { name := "<init>", desc := "(IIII)V", sig := { parameters := [.int, .int, .int, .int], returnType := none }, accessFlags := 1, code := some k2c0 }
def k2c1 : Code := { maxStack := 2, maxLocals := 3, code := prog_45_method_6_code, exceptionTable := #[], attributes := #[] }
def k2m1 : Method := { name := "equals", desc := "(Ljava/lang/Object;)Z", sig := { parameters := [(.object "java/lang/Object")], returnType := some .boolean }, accessFlags := 1, code := some k2c1 }
/-- com/example/equilibrate/equilibrate/model/ConcurrentController$Update -/
def k2 : Class := { plain "com/example/equilibrate/equilibrate/model/ConcurrentController$Update" (some 0) with
  accessFlags := 33
  interfaces := #[]
  cf := some (fileOf pool2 8 #[.nestHost 55] #[{ accessFlags := 1, nameIndex := 5, descriptorIndex := 38, attributes := #[] }, { accessFlags := 1, nameIndex := 46, descriptorIndex := 47, attributes := #[] }] 33 2 #[] #[{ accessFlags := 18, nameIndex := 11, descriptorIndex := 12, attributes := #[] }, { accessFlags := 18, nameIndex := 15, descriptorIndex := 12, attributes := #[] }, { accessFlags := 18, nameIndex := 18, descriptorIndex := 12, attributes := #[] }, { accessFlags := 18, nameIndex := 21, descriptorIndex := 12, attributes := #[] }])
  fields := #[{ name := "memory", type := .int, accessFlags := 18, slot := 0, constantValue := 0 }, { name := "state", type := .int, accessFlags := 18, slot := 1, constantValue := 0 }, { name := "combination", type := .int, accessFlags := 18, slot := 2, constantValue := 0 }, { name := "target", type := .int, accessFlags := 18, slot := 3, constantValue := 0 }]
  methods := #[k2m0, k2m1]
  instanceTypes := #[.int, .int, .int, .int]
  staticTypes := #[]
  resolved := Array.replicate 73 none
  statics := none }

def pool3 : Array CpInfo := pool [(1, .methodref 2 3), (0, .class_ 4), (0, .nameAndType 5 6), (0, u "java/lang/Object"), (0, u "<init>"), (0, u "()V"), (0, .fieldref 8 9), (0, .class_ 10), (0, .nameAndType 11 12), (0, u "com/example/equilibrate/equilibrate/model/ConcurrentController$Move"), (0, u "memory"), (0, u "I"), (0, .fieldref 8 14), (0, .nameAndType 15 12), (0, u "state"), (0, .fieldref 8 17), (0, .nameAndType 18 12), (0, u "action"), (16, u "(III)V"), (15, .class_ 52), (0, u "com/example/equilibrate/equilibrate/model/ConcurrentController")] 16

def k3c0 : Code := { maxStack := 2, maxLocals := 4, code := prog_44_method_1_code, exceptionTable := #[], attributes := #[] }
def k3m0 : Method := { name := "<init>", desc := "(III)V", sig := { parameters := [.int, .int, .int], returnType := none }, accessFlags := 1, code := some k3c0 }
/-- com/example/equilibrate/equilibrate/model/ConcurrentController$Move -/
def k3 : Class := { plain "com/example/equilibrate/equilibrate/model/ConcurrentController$Move" (some 0) with
  accessFlags := 33
  interfaces := #[]
  cf := some (fileOf pool3 8 #[.nestHost 51] #[{ accessFlags := 1, nameIndex := 5, descriptorIndex := 35, attributes := #[] }] 33 2 #[] #[{ accessFlags := 18, nameIndex := 11, descriptorIndex := 12, attributes := #[] }, { accessFlags := 18, nameIndex := 15, descriptorIndex := 12, attributes := #[] }, { accessFlags := 18, nameIndex := 18, descriptorIndex := 12, attributes := #[] }])
  fields := #[{ name := "memory", type := .int, accessFlags := 18, slot := 0, constantValue := 0 }, { name := "state", type := .int, accessFlags := 18, slot := 1, constantValue := 0 }, { name := "action", type := .int, accessFlags := 18, slot := 2, constantValue := 0 }]
  methods := #[k3m0]
  instanceTypes := #[.int, .int, .int]
  staticTypes := #[]
  resolved := Array.replicate 69 none
  statics := none }

def pool4 : Array CpInfo := pool [(1, u "java/lang/Cloneable"), (0, .class_ 1), (0, u "java/lang/Object"), (0, .class_ 3)] 3

/-- java/lang/Cloneable -/
def k4 : Class := { plain "java/lang/Cloneable" (some 0) with
  accessFlags := 1537
  interfaces := #[]
  cf := some (fileOf pool4 2 #[] #[] 1537 4 #[] #[])
  fields := #[]
  methods := #[]
  instanceTypes := #[]
  staticTypes := #[]
  resolved := Array.replicate 8 none
  statics := none }

def pool5 : Array CpInfo := pool [(1, u "java/io/Serializable"), (0, .class_ 1), (0, u "java/lang/Object"), (0, .class_ 3)] 3

/-- java/io/Serializable -/
def k5 : Class := { plain "java/io/Serializable" (some 0) with
  accessFlags := 1537
  interfaces := #[]
  cf := some (fileOf pool5 2 #[] #[] 1537 4 #[] #[])
  fields := #[]
  methods := #[]
  instanceTypes := #[]
  staticTypes := #[]
  resolved := Array.replicate 8 none
  statics := none }

/-- the primitive byte -/
def k6 : Class := { plain "byte" none with kind := .primitive 'B', accessFlags := 0x411 }
/-- [B -/
def k7 : Class := { plain "[B" (some 0) with kind := .array 6 .byte, interfaces := #[4, 5], accessFlags := 1041 }

/-- the primitive int -/
def k8 : Class := { plain "int" none with kind := .primitive 'I', accessFlags := 0x411 }
/-- [I -/
def k9 : Class := { plain "[I" (some 0) with kind := .array 8 .int, interfaces := #[4, 5], accessFlags := 1041 }

def heap : Heap := #[]
def classes : Array Class := #[k0, k1, k2, k3, k4, k5, k6, k7, k8, k9]
def interned : List (Array UInt16 × Addr) := []
def slotsUsed : Nat := 0
def theMethod : MethodId := ⟨1, 1⟩
def args0 : Array Value := #[.int 1, .int 2, .int 3, .int 4, .int 5, .int 6]
def aboutOver (below : List Frame) : State where
  vm := { classes := classes, interned := interned.toArray }
  heap := heap
  slotsUsed := slotsUsed
  threads := #[{ frames := .invoking theMethod args0 :: below }]
def below0 : List Frame := [.native { method := ⟨0, 0⟩, args := #[] }]
def about1 : State := aboutOver below0
def p0 : Program := .bare "" "" ""
def e0 : Env := launch0.env 0 0 0
theorem w_frames : about1.frames = Frame.invoking theMethod args0 :: below0 := rfl
set_option maxRecDepth 65536 in
theorem w_args : argsFit about1.vm theMethod args0 = true := by decide +kernel
set_option maxRecDepth 65536 in
theorem w_heap : heapFits about1 = true := by decide +kernel
set_option maxRecDepth 65536 in
theorem w_runnable : about1.curStatus? = some .runnable := by decide +kernel
set_option maxRecDepth 65536 in
theorem w_alone : about1.alone = true := by decide +kernel
set_option maxRecDepth 65536 in
theorem w_named : about1.methodNamed? x = some theMethod := by decide +kernel
set_option maxRecDepth 65536 in
theorem w_hears : about1.hears theMethod below0 = true := by decide +kernel
set_option maxRecDepth 65536 in
theorem w_ripe : about1.ripe theMethod args0 below0 = true := by decide +kernel
theorem w_running : about1.status = .running := rfl
set_option maxRecDepth 65536 in
theorem w_room : about1.hasRoom e0.platform room_1 = true :=
  launch0.hasRoom_least _ room_1 (by decide +kernel) (by decide +kernel) (by decide +kernel) (by decide +kernel) (by decide +kernel) (by decide +kernel)
theorem allAtoms_all (ts : List Jvm.Cond) (a : Array Jvm.Value) (st : Jvm.State) : (allAtoms ts).before a st = ts.all (fun c => c.before a st) := by
  induction ts with
  | nil => rfl
  | cons c t ih =>
    show (Jvm.Cond.and c (allAtoms t)).before a st = _
    rw [Jvm.Cond.before_and, ih, List.all_cons]
def words1 : List Jvm.Cond := Jvm.Cond.code x code maxLocals ret :: tables_1
/-- a 'code' word, met by the world's own term for the bytes: nothing is compared byte by byte -/
theorem code_word {y : MethodName} {bytes : ByteArray} {mx : Nat} {rt : Option FieldType} {a : Array Value} {s : State} {m : MethodId} {meth : Method} {c : Code} (h1 : s.methodNamed? y = some m) (h2 : s.vm.method? m = some meth) (h3 : meth.code = some c) (h4 : c.code = bytes)
    (h5 : (c.maxLocals == mx && c.exceptionTable.isEmpty && decide (c.maxStack ≤ mostOperands) && decide (meth.sig.returnType = rt) && !meth.locks && decide (parseMethodDescriptor y.desc = some meth.sig)) = true) : (Jvm.Cond.code y bytes mx rt).before a s = true := by
  simp only [Bool.and_eq_true, beq_iff_eq, Bool.not_eq_true', decide_eq_true_eq] at h5
  obtain ⟨⟨⟨⟨⟨g1, g2⟩, g3⟩, g4⟩, g5⟩, g6⟩ := h5
  simp [Cond.before, Cond.holds, Cond.value, h1, h2, h3, h4, g1, g2, g3, g4, g5, g6]
def isCode : Jvm.Cond → Bool
  | .code _ _ _ _ => true
  | _ => false
theorem all_split {L : List Jvm.Cond} {P : Jvm.Cond → Bool} (h1 : L.all (fun c => isCode c || P c) = true) (h2 : ∀ c ∈ L.filter isCode, P c = true) : L.all P = true := by
  refine List.all_eq_true.mpr fun c hc => ?_
  have h := List.all_eq_true.mp h1 c hc
  rcases Bool.eq_false_or_eq_true (isCode c) with hi | hi
  · exact h2 c (List.mem_filter.mpr ⟨hc, hi⟩)
  · simpa [hi] using h
set_option maxRecDepth 65536 in
theorem w_c0 : (Jvm.Cond.code x code maxLocals ret).before args0 about1 = true := code_word (m := ⟨1, 1⟩) (meth := k1m1) (c := k1c1) (by decide +kernel) rfl rfl rfl (by decide +kernel)
set_option maxRecDepth 65536 in
theorem w_c1 : (Jvm.Cond.code ({ cls := "com/example/equilibrate/equilibrate/model/ConcurrentController$Update", name := "<init>", desc := "(IIII)V" } : Jvm.MethodName) prog_45_method_1_code (5 : Nat) (Option.none : Option Jvm.ClassFile.FieldType)).before args0 about1 = true := code_word (m := ⟨2, 0⟩) (meth := k2m0) (c := k2c0) (by decide +kernel) rfl rfl rfl (by decide +kernel)
set_option maxRecDepth 65536 in
theorem w_c2 : (Jvm.Cond.code ({ cls := "java/lang/Object", name := "<init>", desc := "()V" } : Jvm.MethodName) object_method_1_code (1 : Nat) (Option.none : Option Jvm.ClassFile.FieldType)).before args0 about1 = true := code_word (m := ⟨0, 0⟩) (meth := k0m0) (c := k0c0) (by decide +kernel) rfl rfl rfl (by decide +kernel)
set_option maxRecDepth 65536 in
theorem w_c3 : (Jvm.Cond.code ({ cls := "com/example/equilibrate/equilibrate/model/ConcurrentController$Move", name := "<init>", desc := "(III)V" } : Jvm.MethodName) prog_44_method_1_code (4 : Nat) (Option.none : Option Jvm.ClassFile.FieldType)).before args0 about1 = true := code_word (m := ⟨3, 0⟩) (meth := k3m0) (c := k3c0) (by decide +kernel) rfl rfl rfl (by decide +kernel)
set_option maxRecDepth 65536 in
theorem w_c4 : (Jvm.Cond.code ({ cls := "com/example/equilibrate/equilibrate/model/ConcurrentController$Update", name := "equals", desc := "(Ljava/lang/Object;)Z" } : Jvm.MethodName) prog_45_method_6_code (3 : Nat) (Option.some Jvm.ClassFile.FieldType.boolean)).before args0 about1 = true := code_word (m := ⟨2, 1⟩) (meth := k2m1) (c := k2c1) (by decide +kernel) rfl rfl rfl (by decide +kernel)
def codes1 : List Jvm.Cond := [Jvm.Cond.code x code maxLocals ret, Jvm.Cond.code ({ cls := "com/example/equilibrate/equilibrate/model/ConcurrentController$Update", name := "<init>", desc := "(IIII)V" } : Jvm.MethodName) prog_45_method_1_code (5 : Nat) (Option.none : Option Jvm.ClassFile.FieldType), Jvm.Cond.code ({ cls := "java/lang/Object", name := "<init>", desc := "()V" } : Jvm.MethodName) object_method_1_code (1 : Nat) (Option.none : Option Jvm.ClassFile.FieldType), Jvm.Cond.code ({ cls := "com/example/equilibrate/equilibrate/model/ConcurrentController$Move", name := "<init>", desc := "(III)V" } : Jvm.MethodName) prog_44_method_1_code (4 : Nat) (Option.none : Option Jvm.ClassFile.FieldType), Jvm.Cond.code ({ cls := "com/example/equilibrate/equilibrate/model/ConcurrentController$Update", name := "equals", desc := "(Ljava/lang/Object;)Z" } : Jvm.MethodName) prog_45_method_6_code (3 : Nat) (Option.some Jvm.ClassFile.FieldType.boolean)]
set_option maxRecDepth 65536 in
theorem codes_eq : words1.filter isCode = codes1 := rfl
theorem w_codes : ∀ c ∈ words1.filter isCode, c.before args0 about1 = true := by
  rw [codes_eq]
  intro c hc
  simp only [codes1, List.mem_cons, List.not_mem_nil, or_false] at hc
  rcases hc with rfl | rfl | rfl | rfl | rfl
  · exact w_c0
  · exact w_c1
  · exact w_c2
  · exact w_c3
  · exact w_c4
set_option maxRecDepth 65536 in
theorem w_t1 : (words1.take 24).all (fun c => isCode c || c.before args0 about1) = true := by decide +kernel
set_option maxRecDepth 65536 in
theorem w_t2 : (words1.drop 24).all (fun c => isCode c || c.before args0 about1) = true := by decide +kernel
theorem w_tables : (allAtoms (Jvm.Cond.code x code maxLocals ret :: tables_1)).before args0 about1 = true := by
  rw [allAtoms_all]
  show words1.all (fun c => c.before args0 about1) = true
  refine all_split ?_ w_codes
  rw [← List.take_append_drop 24 words1, List.all_append, w_t1, w_t2]
  rfl
set_option maxRecDepth 65536 in
theorem w_case : (Jvm.Cond.and given_1 narrow_1).before args0 about1 = true := by decide +kernel
theorem w_applies : (headSpec (Jvm.Cond.code x code maxLocals ret :: tables_1) room_1).applies x e0.platform about1 = true :=
  (Spec.applies_iff w_frames).mpr ⟨w_running, w_runnable, w_alone, w_named, w_hears, w_ripe, w_room, w_tables⟩
theorem atStart : AtStart classFile x code maxLocals ret World_1 tables_1 room_1 Calls_1 rest_1 Pre_1 launch0 p0 e0 about1 theMethod args0 below0 :=
  ⟨lists_1, trivial, launch0.admits_env _ _ _, launch0.least_env, fairChoices_fair.cas, fairChoices_fair.clock, w_frames, w_args, w_heap, w_applies, trivial, trivial, w_case⟩
end start1
theorem witness_1 : WitnessClaimed_1 := ⟨start1.p0, start1.e0, start1.about1, start1.theMethod, start1.args0, start1.below0, start1.atStart⟩
end Jvm.Pilot.@@N@@
