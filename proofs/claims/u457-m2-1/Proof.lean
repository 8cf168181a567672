import JvmDerived
import JvmDerived.Pilot.@@N@@Statement
import JvmDerived.Pilot.@@N@@Code
set_option linter.unusedVariables false
set_option linter.unusedSimpArgs false
namespace Jvm.OwnK
open Jvm Sem ClassFile Op Lib Jvm.Stand Jvm.Free Jvm.LawKit Jvm.RoadKit Bundle
/-- where a walk stands: pc, locals, stack, heap, cells and slots made so far -/
abbrev Kt := Nat → Array Slot → List Value → Heap → Nat → Nat → Prop
/-- what a body leaves: the value that it returns, the heap -/
abbrev Qt := Option Value → Heap → Prop
/-- a body's end, as its contract asks it -/
def Out (p : Program) (e : Env) (below : List Frame) (s s1 : State) (f0 : JFrame) (R : Room) (n0 : Nat) (Q : Qt) : Prop :=
  ∃ s2 o, Steps p.tables e below (s1.setTop f0) s2 ∧ s2.status = .running ∧ Ended s2 below o ∧ ∃ v L, o = .returned v ∧ (Q v s2.heap ∧ Fr n0 L) ∧ FrameEnd s o s2 L R.cells R.slots
/-- what doesn't change along a walk, and what K and O mean -/
def Ctx (l : Launch) (R : Room) (n0 : Nat) (Z : State) (own : String) (bytes : ByteArray) (ml : Nat) (nm : String) (rt : Option FieldType) (Q : Qt) (K : Kt) (O : Prop) : Prop :=
  ∃ (p : Program) (e : Env) (s : State) (m : MethodId) (args : Array Value) (below : List Frame) (meth : Method) (c : Code) (s1 : State) (f0 : JFrame),
    p.tables.exec = Jvm.exec ∧ c.code = bytes ∧ Z.Warmed39 s.vm ∧ s.vm.findClass own = some m.cls ∧ c.maxLocals = ml ∧ meth.name = nm ∧ meth.sig.returnType = rt ∧ meth.locks = false ∧
    (∀ pc L S h cl sl, K pc L S h cl sl ↔ ∃ T locs, Stand p l e R s m args below meth c T locs cl sl ∧ T.heap = h ∧ Fr n0 locs ∧ ∀ t, Steps p.tables e below (T.setTop (mkF m pc L S)) t → Steps p.tables e below (s1.setTop f0) t) ∧
    (Out p e below s s1 f0 R n0 Q → O)
/-- a body's contract -/
def Con (l : Launch) (y : MethodName) (bytes : ByteArray) (ml : Nat) (rt : Option FieldType) (rm : Room) (Z : State) (as : Array Value) (h : Heap) (n0 : Nat) (Q : Qt) : Prop :=
  ∀ ws : List Jvm.Cond, MetFree l y (head1 (Jvm.Cond.code y bytes ml rt :: ws) rm) (fun a U => a = as ∧ Z.Warmed39 U.vm ∧ U.heap = h) (fun _ _ _ _ _ => True) (fun _ U o U' => ∃ v L, o = .returned v ∧ (Q v U'.heap ∧ Fr n0 L) ∧ FrameEnd U o U' L rm.cells rm.slots)
theorem Con.mono {l : Launch} {y : MethodName} {bytes : ByteArray} {ml : Nat} {rt : Option FieldType} {rm : Room} {Z : State} {as : Array Value} {h : Heap} {n0 : Nat} {Q Q' : Qt} (K : Con l y bytes ml rt rm Z as h n0 Q) (q : ∀ v h', Q v h' → Q' v h') : Con l y bytes ml rt rm Z as h n0 Q' := by
  intro ws p e ha hc hk s m args below hf happ hP hK
  obtain ⟨n, o, h1, h2, h3, v, L, h4, ⟨h5, h6⟩, h7⟩ := K ws p e ha hc hk s m args below hf happ hP hK
  exact ⟨n, o, h1, h2, h3, v, L, h4, ⟨q _ _ h5, h6⟩, h7⟩
theorem Con.enter {l : Launch} {y : MethodName} {bytes : ByteArray} {ml : Nat} {rt : Option FieldType} {rm : Room} {Z : State} {as : Array Value} {h : Heap} {n0 : Nat} {Q : Qt} {L0 : Array Slot} (hpl : plainFor y = true) (hef : ∀ m, entryFrame m as ml = mkF m 0 L0 [])
    (hb : ∀ (K : Kt) (O : Prop), Ctx l rm n0 Z y.cls bytes ml y.name rt Q K O → K 0 L0 [] h 0 0 → O) : Con l y bytes ml rt rm Z as h n0 Q := by
  intro ws
  refine MetFree.of_bodySF hpl hisR ?_
  intro p e s m args below meth c s1 Bd hml0 hP hK
  obtain ⟨rfl, hZ, hh⟩ := hP
  have X0 : Stand p l e rm s m args below meth c s1 [] 0 0 := Stand.of_body Bd
  have e0 : s1.heap = h := by rw [← hh, Bd.state]; rfl
  exact hb (fun pc L S h cl sl => ∃ T locs, Stand p l e rm s m args below meth c T locs cl sl ∧ T.heap = h ∧ Fr n0 locs ∧ ∀ t, Steps p.tables e below (T.setTop (mkF m pc L S)) t → Steps p.tables e below (s1.setTop (entryFrame m args ml)) t)
    (Out p e below s s1 (entryFrame m args ml) rm n0 Q)
    ⟨p, e, s, m, args, below, meth, c, s1, entryFrame m args ml, Bd.exec, Bd.bytes, hZ, findClass_of_methodNamed Bd.named, hml0, (name_of_methodNamed Bd.named Bd.method).1, Bd.returns, Bd.notSynchronized, fun _ _ _ _ _ _ => Iff.rfl, id⟩
    ⟨s1, [], X0, e0, Fr.nil n0, fun t k => castTop (hef m) k⟩
section Steps
variable {l : Launch} {R : Room} {n0 : Nat} {Z : State} {own : String} {bytes : ByteArray} {ml : Nat} {nm : String} {rt : Option FieldType} {Q : Qt} {K : Kt} {O : Prop} {a0 : Array Value} {pc : Nat} {L : Array Slot} {S rest : List Value} {h : Heap} {cl sl : Nat} {pc' : Nat}
theorem Ctx.pure (C : Ctx l R n0 Z own bytes ml nm rt Q K O) (H : K pc L S h cl sl) {L' : Array Slot} {S' : List Value}
    (f : ∀ (p : Program) (e : Env) (s : State) (m : MethodId) (args : Array Value) (below : List Frame) (meth : Method) (c : Code) (T : State) (locs : List Loc), Stand p l e R s m args below meth c T locs cl sl → p.tables.exec = Jvm.exec → c.code = bytes → Z.Warmed39 s.vm → s.vm.findClass own = some m.cls → T.heap = h →
      ∀ t, Steps p.tables e below (T.setTop (mkF m pc' L' S')) t → Steps p.tables e below (T.setTop (mkF m pc L S)) t) : K pc' L' S' h cl sl := by
  obtain ⟨p, e, s, m, args, below, meth, c, s1, f0, hx, hby, hZ, hown, hml, hnm, hrt, hlk, hK, hO⟩ := C
  obtain ⟨T, locs, X, eT, N, st⟩ := (hK _ _ _ _ _ _).mp H
  exact (hK _ _ _ _ _ _).mpr ⟨T, locs, X, eT, N, fun t k => st t (f p e s m args below meth c T locs X hx hby hZ hown eT t k)⟩
/-- a step that may note something in the tables -/
theorem Ctx.note (C : Ctx l R n0 Z own bytes ml nm rt Q K O) (H : K pc L S h cl sl) {L' : Array Slot} {S' : List Value}
    (f : ∀ (p : Program) (e : Env) (s : State) (m : MethodId) (args : Array Value) (below : List Frame) (meth : Method) (c : Code) (T : State) (locs : List Loc), Stand p l e R s m args below meth c T locs cl sl → p.tables.exec = Jvm.exec → c.code = bytes → Z.Warmed39 s.vm → s.vm.findClass own = some m.cls → c.maxLocals = ml → T.heap = h →
      ∃ T', Stand p l e R s m args below meth c T' locs cl sl ∧ T'.heap = h ∧ ∀ t, Steps p.tables e below (T'.setTop (mkF m pc' L' S')) t → Steps p.tables e below (T.setTop (mkF m pc L S)) t) : K pc' L' S' h cl sl := by
  obtain ⟨p, e, s, m, args, below, meth, c, s1, f0, hx, hby, hZ, hown, hml, hnm, hrt, hlk, hK, hO⟩ := C
  obtain ⟨T, locs, X, eT, N, st⟩ := (hK _ _ _ _ _ _).mp H
  obtain ⟨T', X', eT', st'⟩ := f p e s m args below meth c T locs X hx hby hZ hown hml eT
  exact (hK _ _ _ _ _ _).mpr ⟨T', locs, X', eT', N, fun t k => st t (st' t k)⟩

theorem k_iloadN (C : Ctx l R n0 Z own bytes ml nm rt Q K O) {k : Fin 4} {v : Int32} (H : K pc L (S) h cl sl) (d : decode bytes pc = .ok (.iload_n k, 1)) (hl : L[k.val]? = some (.val (.int v))) (hp : pc + 1 = pc') : K pc' L ((.int v) :: S) h cl sl := by
  subst hp
  exact C.pure H fun p e s m args below meth c T locs X hx hby _ _ _ t k => XS.iloadN X.here hx rfl (hb hby d) hl k
theorem k_iload (C : Ctx l R n0 Z own bytes ml nm rt Q K O) {k : Nat} {v : Int32} (H : K pc L (S) h cl sl) (d : decode bytes pc = .ok (.iload k, 2)) (hl : L[k]? = some (.val (.int v))) (hp : pc + 2 = pc') : K pc' L ((.int v) :: S) h cl sl := by
  subst hp
  exact C.pure H fun p e s m args below meth c T locs X hx hby _ _ _ t k => XS.iload X.here hx rfl (hb hby d) hl k
theorem k_lloadN (C : Ctx l R n0 Z own bytes ml nm rt Q K O) {k : Fin 4} {v : Int64} (H : K pc L (S) h cl sl) (d : decode bytes pc = .ok (.lload_n k, 1)) (hl : L[k.val]? = some (.val (.long v))) (hp : pc + 1 = pc') : K pc' L ((.long v) :: S) h cl sl := by
  subst hp
  exact C.pure H fun p e s m args below meth c T locs X hx hby _ _ _ t k => XS.lloadN X.here hx rfl (hb hby d) hl k
theorem k_lload (C : Ctx l R n0 Z own bytes ml nm rt Q K O) {k : Nat} {v : Int64} (H : K pc L (S) h cl sl) (d : decode bytes pc = .ok (.lload k, 2)) (hl : L[k]? = some (.val (.long v))) (hp : pc + 2 = pc') : K pc' L ((.long v) :: S) h cl sl := by
  subst hp
  exact C.pure H fun p e s m args below meth c T locs X hx hby _ _ _ t k => XS.lload X.here hx rfl (hb hby d) hl k
theorem k_aloadN (C : Ctx l R n0 Z own bytes ml nm rt Q K O) {k : Fin 4} {v : Value} (H : K pc L (S) h cl sl) (d : decode bytes pc = .ok (.aload_n k, 1)) (hl : L[k.val]? = some (.val v)) (hv : v.isRef = true) (hp : pc + 1 = pc') : K pc' L (v :: S) h cl sl := by
  subst hp
  exact C.pure H fun p e s m args below meth c T locs X hx hby _ _ _ t k => XS.aloadN X.here hx rfl (hb hby d) hl hv k
theorem k_aload (C : Ctx l R n0 Z own bytes ml nm rt Q K O) {k : Nat} {v : Value} (H : K pc L (S) h cl sl) (d : decode bytes pc = .ok (.aload k, 2)) (hl : L[k]? = some (.val v)) (hv : v.isRef = true) (hp : pc + 2 = pc') : K pc' L (v :: S) h cl sl := by
  subst hp
  exact C.pure H fun p e s m args below meth c T locs X hx hby _ _ _ t k => XS.aload X.here hx rfl (hb hby d) hl hv k
theorem k_istoreN (C : Ctx l R n0 Z own bytes ml nm rt Q K O) {k : Fin 4} {v : Int32} {L' : Array Slot} (H : K pc L ((.int v) :: rest) h cl sl) (d : decode bytes pc = .ok (.istore_n k, 1)) (hl : storeLocals L k.val (.int v) = some L') (hp : pc + 1 = pc') : K pc' L' (rest) h cl sl := by
  subst hp
  exact C.pure H fun p e s m args below meth c T locs X hx hby _ _ _ t k => XS.istoreN X.here hx rfl (hb hby d) rfl hl k
theorem k_istore (C : Ctx l R n0 Z own bytes ml nm rt Q K O) {k : Nat} {v : Int32} {L' : Array Slot} (H : K pc L ((.int v) :: rest) h cl sl) (d : decode bytes pc = .ok (.istore k, 2)) (hl : storeLocals L k (.int v) = some L') (hp : pc + 2 = pc') : K pc' L' (rest) h cl sl := by
  subst hp
  exact C.pure H fun p e s m args below meth c T locs X hx hby _ _ _ t k => XS.istore X.here hx rfl (hb hby d) rfl hl k
theorem k_lstoreN (C : Ctx l R n0 Z own bytes ml nm rt Q K O) {k : Fin 4} {v : Int64} {L' : Array Slot} (H : K pc L ((.long v) :: rest) h cl sl) (d : decode bytes pc = .ok (.lstore_n k, 1)) (hl : storeLocals L k.val (.long v) = some L') (hp : pc + 1 = pc') : K pc' L' (rest) h cl sl := by
  subst hp
  exact C.pure H fun p e s m args below meth c T locs X hx hby _ _ _ t k => XS.lstoreN X.here hx rfl (hb hby d) rfl hl k
theorem k_lstore (C : Ctx l R n0 Z own bytes ml nm rt Q K O) {k : Nat} {v : Int64} {L' : Array Slot} (H : K pc L ((.long v) :: rest) h cl sl) (d : decode bytes pc = .ok (.lstore k, 2)) (hl : storeLocals L k (.long v) = some L') (hp : pc + 2 = pc') : K pc' L' (rest) h cl sl := by
  subst hp
  exact C.pure H fun p e s m args below meth c T locs X hx hby _ _ _ t k => XS.lstore X.here hx rfl (hb hby d) rfl hl k
theorem k_astoreN (C : Ctx l R n0 Z own bytes ml nm rt Q K O) {k : Fin 4} {v : Value} {L' : Array Slot} (H : K pc L (v :: rest) h cl sl) (d : decode bytes pc = .ok (.astore_n k, 1)) (hv : v.isRef = true) (hl : storeLocals L k.val v = some L') (hp : pc + 1 = pc') : K pc' L' (rest) h cl sl := by
  subst hp
  exact C.pure H fun p e s m args below meth c T locs X hx hby _ _ _ t k => XS.astoreN X.here hx rfl (hb hby d) rfl hv hl k
theorem k_astore (C : Ctx l R n0 Z own bytes ml nm rt Q K O) {k : Nat} {v : Value} {L' : Array Slot} (H : K pc L (v :: rest) h cl sl) (d : decode bytes pc = .ok (.astore k, 2)) (hv : v.isRef = true) (hl : storeLocals L k v = some L') (hp : pc + 2 = pc') : K pc' L' (rest) h cl sl := by
  subst hp
  exact C.pure H fun p e s m args below meth c T locs X hx hby _ _ _ t k => XS.astore X.here hx rfl (hb hby d) rfl hv hl k
theorem k_iconst (C : Ctx l R n0 Z own bytes ml nm rt Q K O) {i : Int} {v : Int32} (H : K pc L (S) h cl sl) (d : decode bytes pc = .ok (.iconst i, 1)) (hv : Int32.ofInt i = v) (hp : pc + 1 = pc') : K pc' L (.int v :: S) h cl sl := by
  subst hp
  exact C.pure H fun p e s m args below meth c T locs X hx hby _ _ _ t k => XS.iconst X.here hx rfl (hb hby d) (by rw [hv]; exact k)
theorem k_bipush (C : Ctx l R n0 Z own bytes ml nm rt Q K O) {i : Int} {v : Int32} (H : K pc L (S) h cl sl) (d : decode bytes pc = .ok (.bipush i, 2)) (hv : (Int8.ofInt i).toInt32 = v) (hp : pc + 2 = pc') : K pc' L (.int v :: S) h cl sl := by
  subst hp
  exact C.pure H fun p e s m args below meth c T locs X hx hby _ _ _ t k => XS.bipush X.here hx rfl (hb hby d) (by rw [hv]; exact k)
theorem k_sipush (C : Ctx l R n0 Z own bytes ml nm rt Q K O) {i : Int} {v : Int32} (H : K pc L (S) h cl sl) (d : decode bytes pc = .ok (.sipush i, 3)) (hv : (Int16.ofInt i).toInt32 = v) (hp : pc + 3 = pc') : K pc' L (.int v :: S) h cl sl := by
  subst hp
  exact C.pure H fun p e s m args below meth c T locs X hx hby _ _ _ t k => XS.sipush X.here hx rfl (hb hby d) (by rw [hv]; exact k)
theorem k_lconst (C : Ctx l R n0 Z own bytes ml nm rt Q K O) {i : Fin 2} {v : Int64} (H : K pc L (S) h cl sl) (d : decode bytes pc = .ok (.lconst i, 1)) (hv : Int64.ofNat i = v) (hp : pc + 1 = pc') : K pc' L (.long v :: S) h cl sl := by
  subst hp
  exact C.pure H fun p e s m args below meth c T locs X hx hby _ _ _ t k => XS.lconst X.here hx rfl (hb hby d) (by rw [hv]; exact k)
theorem k_anull (C : Ctx l R n0 Z own bytes ml nm rt Q K O)  (H : K pc L (S) h cl sl) (d : decode bytes pc = .ok (.aconst_null, 1))  (hp : pc + 1 = pc') : K pc' L (.null :: S) h cl sl := by
  subst hp
  exact C.pure H fun p e s m args below meth c T locs X hx hby _ _ _ t k => XS.aconstNull X.here hx rfl (hb hby d) k
theorem k_iadd (C : Ctx l R n0 Z own bytes ml nm rt Q K O) {x y : Int32} (H : K pc L (.int y :: .int x :: rest) h cl sl) (d : decode bytes pc = .ok (.iadd, 1))  (hp : pc + 1 = pc') : K pc' L (.int (x + y) :: rest) h cl sl := by
  subst hp
  exact C.pure H fun p e s m args below meth c T locs X hx hby _ _ _ t k => XS.iadd X.here hx rfl (hb hby d) rfl k
theorem k_isub (C : Ctx l R n0 Z own bytes ml nm rt Q K O) {x y : Int32} (H : K pc L (.int y :: .int x :: rest) h cl sl) (d : decode bytes pc = .ok (.isub, 1))  (hp : pc + 1 = pc') : K pc' L (.int (x - y) :: rest) h cl sl := by
  subst hp
  exact C.pure H fun p e s m args below meth c T locs X hx hby _ _ _ t k => XS.isub X.here hx rfl (hb hby d) rfl k
theorem k_imul (C : Ctx l R n0 Z own bytes ml nm rt Q K O) {x y : Int32} (H : K pc L (.int y :: .int x :: rest) h cl sl) (d : decode bytes pc = .ok (.imul, 1))  (hp : pc + 1 = pc') : K pc' L (.int (x * y) :: rest) h cl sl := by
  subst hp
  exact C.pure H fun p e s m args below meth c T locs X hx hby _ _ _ t k => XS.imul X.here hx rfl (hb hby d) rfl k
theorem k_iand (C : Ctx l R n0 Z own bytes ml nm rt Q K O) {x y : Int32} (H : K pc L (.int y :: .int x :: rest) h cl sl) (d : decode bytes pc = .ok (.iand, 1))  (hp : pc + 1 = pc') : K pc' L (.int (x &&& y) :: rest) h cl sl := by
  subst hp
  exact C.pure H fun p e s m args below meth c T locs X hx hby _ _ _ t k => XS.iand X.here hx rfl (hb hby d) rfl k
theorem k_ior (C : Ctx l R n0 Z own bytes ml nm rt Q K O) {x y : Int32} (H : K pc L (.int y :: .int x :: rest) h cl sl) (d : decode bytes pc = .ok (.ior, 1))  (hp : pc + 1 = pc') : K pc' L (.int (x ||| y) :: rest) h cl sl := by
  subst hp
  exact C.pure H fun p e s m args below meth c T locs X hx hby _ _ _ t k => XS.ior X.here hx rfl (hb hby d) rfl k
theorem k_ixor (C : Ctx l R n0 Z own bytes ml nm rt Q K O) {x y : Int32} (H : K pc L (.int y :: .int x :: rest) h cl sl) (d : decode bytes pc = .ok (.ixor, 1))  (hp : pc + 1 = pc') : K pc' L (.int (x ^^^ y) :: rest) h cl sl := by
  subst hp
  exact C.pure H fun p e s m args below meth c T locs X hx hby _ _ _ t k => XS.ixor X.here hx rfl (hb hby d) rfl k
theorem k_ishl (C : Ctx l R n0 Z own bytes ml nm rt Q K O) {x y : Int32} (H : K pc L (.int y :: .int x :: rest) h cl sl) (d : decode bytes pc = .ok (.ishl, 1))  (hp : pc + 1 = pc') : K pc' L (.int (x <<< (y &&& 31)) :: rest) h cl sl := by
  subst hp
  exact C.pure H fun p e s m args below meth c T locs X hx hby _ _ _ t k => XS.ishl X.here hx rfl (hb hby d) rfl k
theorem k_ishr (C : Ctx l R n0 Z own bytes ml nm rt Q K O) {x y : Int32} (H : K pc L (.int y :: .int x :: rest) h cl sl) (d : decode bytes pc = .ok (.ishr, 1))  (hp : pc + 1 = pc') : K pc' L (.int (x >>> (y &&& 31)) :: rest) h cl sl := by
  subst hp
  exact C.pure H fun p e s m args below meth c T locs X hx hby _ _ _ t k => XS.ishr X.here hx rfl (hb hby d) rfl k
theorem k_iushr (C : Ctx l R n0 Z own bytes ml nm rt Q K O) {x y : Int32} (H : K pc L (.int y :: .int x :: rest) h cl sl) (d : decode bytes pc = .ok (.iushr, 1))  (hp : pc + 1 = pc') : K pc' L (.int ((x.toUInt32 >>> (y &&& 31).toUInt32).toInt32) :: rest) h cl sl := by
  subst hp
  exact C.pure H fun p e s m args below meth c T locs X hx hby _ _ _ t k => XS.iushr X.here hx rfl (hb hby d) rfl k
theorem k_ladd (C : Ctx l R n0 Z own bytes ml nm rt Q K O) {x y : Int64} (H : K pc L (.long y :: .long x :: rest) h cl sl) (d : decode bytes pc = .ok (.ladd, 1))  (hp : pc + 1 = pc') : K pc' L (.long (x + y) :: rest) h cl sl := by
  subst hp
  exact C.pure H fun p e s m args below meth c T locs X hx hby _ _ _ t k => XS.ladd X.here hx rfl (hb hby d) rfl k
theorem k_lsub (C : Ctx l R n0 Z own bytes ml nm rt Q K O) {x y : Int64} (H : K pc L (.long y :: .long x :: rest) h cl sl) (d : decode bytes pc = .ok (.lsub, 1))  (hp : pc + 1 = pc') : K pc' L (.long (x - y) :: rest) h cl sl := by
  subst hp
  exact C.pure H fun p e s m args below meth c T locs X hx hby _ _ _ t k => XS.lsub X.here hx rfl (hb hby d) rfl k
theorem k_lmul (C : Ctx l R n0 Z own bytes ml nm rt Q K O) {x y : Int64} (H : K pc L (.long y :: .long x :: rest) h cl sl) (d : decode bytes pc = .ok (.lmul, 1))  (hp : pc + 1 = pc') : K pc' L (.long (x * y) :: rest) h cl sl := by
  subst hp
  exact C.pure H fun p e s m args below meth c T locs X hx hby _ _ _ t k => XS.lmul X.here hx rfl (hb hby d) rfl k
theorem k_land (C : Ctx l R n0 Z own bytes ml nm rt Q K O) {x y : Int64} (H : K pc L (.long y :: .long x :: rest) h cl sl) (d : decode bytes pc = .ok (.land, 1))  (hp : pc + 1 = pc') : K pc' L (.long (x &&& y) :: rest) h cl sl := by
  subst hp
  exact C.pure H fun p e s m args below meth c T locs X hx hby _ _ _ t k => XS.land X.here hx rfl (hb hby d) rfl k
theorem k_lor (C : Ctx l R n0 Z own bytes ml nm rt Q K O) {x y : Int64} (H : K pc L (.long y :: .long x :: rest) h cl sl) (d : decode bytes pc = .ok (.lor, 1))  (hp : pc + 1 = pc') : K pc' L (.long (x ||| y) :: rest) h cl sl := by
  subst hp
  exact C.pure H fun p e s m args below meth c T locs X hx hby _ _ _ t k => XS.lor X.here hx rfl (hb hby d) rfl k
theorem k_lxor (C : Ctx l R n0 Z own bytes ml nm rt Q K O) {x y : Int64} (H : K pc L (.long y :: .long x :: rest) h cl sl) (d : decode bytes pc = .ok (.lxor, 1))  (hp : pc + 1 = pc') : K pc' L (.long (x ^^^ y) :: rest) h cl sl := by
  subst hp
  exact C.pure H fun p e s m args below meth c T locs X hx hby _ _ _ t k => XS.lxor X.here hx rfl (hb hby d) rfl k
theorem k_lshl (C : Ctx l R n0 Z own bytes ml nm rt Q K O) {x : Int64} {y : Int32} (H : K pc L (.int y :: .long x :: rest) h cl sl) (d : decode bytes pc = .ok (.lshl, 1))  (hp : pc + 1 = pc') : K pc' L (.long (x <<< (y &&& 0x3f).toInt64) :: rest) h cl sl := by
  subst hp
  exact C.pure H fun p e s m args below meth c T locs X hx hby _ _ _ t k => XS.lshl X.here hx rfl (hb hby d) rfl k
theorem k_lshr (C : Ctx l R n0 Z own bytes ml nm rt Q K O) {x : Int64} {y : Int32} (H : K pc L (.int y :: .long x :: rest) h cl sl) (d : decode bytes pc = .ok (.lshr, 1))  (hp : pc + 1 = pc') : K pc' L (.long (x >>> (y &&& 0x3f).toInt64) :: rest) h cl sl := by
  subst hp
  exact C.pure H fun p e s m args below meth c T locs X hx hby _ _ _ t k => XS.lshr X.here hx rfl (hb hby d) rfl k
theorem k_lushr (C : Ctx l R n0 Z own bytes ml nm rt Q K O) {x : Int64} {y : Int32} (H : K pc L (.int y :: .long x :: rest) h cl sl) (d : decode bytes pc = .ok (.lushr, 1))  (hp : pc + 1 = pc') : K pc' L (.long ((x.toUInt64 >>> (y &&& 0x3f).toInt64.toUInt64).toInt64) :: rest) h cl sl := by
  subst hp
  exact C.pure H fun p e s m args below meth c T locs X hx hby _ _ _ t k => XS.lushr X.here hx rfl (hb hby d) rfl k
theorem k_lcmp (C : Ctx l R n0 Z own bytes ml nm rt Q K O) {x y : Int64} (H : K pc L (.long y :: .long x :: rest) h cl sl) (d : decode bytes pc = .ok (.lcmp, 1))  (hp : pc + 1 = pc') : K pc' L (.int (lcmpW x y) :: rest) h cl sl := by
  subst hp
  exact C.pure H fun p e s m args below meth c T locs X hx hby _ _ _ t k => XS.lcmp X.here hx rfl (hb hby d) rfl k
theorem k_ineg (C : Ctx l R n0 Z own bytes ml nm rt Q K O) {x : Int32} (H : K pc L (.int x :: rest) h cl sl) (d : decode bytes pc = .ok (.ineg, 1))  (hp : pc + 1 = pc') : K pc' L (.int (-x) :: rest) h cl sl := by
  subst hp
  exact C.pure H fun p e s m args below meth c T locs X hx hby _ _ _ t k => XS.ineg X.here hx rfl (hb hby d) rfl k
theorem k_idiv (C : Ctx l R n0 Z own bytes ml nm rt Q K O) {x y : Int32} (H : K pc L (.int y :: .int x :: rest) h cl sl) (d : decode bytes pc = .ok (.idiv, 1)) (hy : y ≠ 0) (hp : pc + 1 = pc') : K pc' L (.int (x / y) :: rest) h cl sl := by
  subst hp
  exact C.pure H fun p e s m args below meth c T locs X hx hby _ _ _ t k => XS.idiv X.here hx rfl (hb hby d) rfl hy k
theorem k_irem (C : Ctx l R n0 Z own bytes ml nm rt Q K O) {x y : Int32} (H : K pc L (.int y :: .int x :: rest) h cl sl) (d : decode bytes pc = .ok (.irem, 1)) (hy : y ≠ 0) (hp : pc + 1 = pc') : K pc' L (.int (x % y) :: rest) h cl sl := by
  subst hp
  exact C.pure H fun p e s m args below meth c T locs X hx hby _ _ _ t k => iremM X hx rfl (hb hby d) rfl hy k
theorem k_ldiv (C : Ctx l R n0 Z own bytes ml nm rt Q K O) {x y : Int64} (H : K pc L (.long y :: .long x :: rest) h cl sl) (d : decode bytes pc = .ok (.ldiv, 1)) (hy : y ≠ 0) (hp : pc + 1 = pc') : K pc' L (.long (x / y) :: rest) h cl sl := by
  subst hp
  exact C.pure H fun p e s m args below meth c T locs X hx hby _ _ _ t k => XS.ldiv X.here hx rfl (hb hby d) rfl hy k
theorem k_i2l (C : Ctx l R n0 Z own bytes ml nm rt Q K O) {x : Int32} (H : K pc L (.int x :: rest) h cl sl) (d : decode bytes pc = .ok (.i2l, 1))  (hp : pc + 1 = pc') : K pc' L (.long (x.toInt64) :: rest) h cl sl := by
  subst hp
  exact C.pure H fun p e s m args below meth c T locs X hx hby _ _ _ t k => XS.i2l X.here hx rfl (hb hby d) rfl k
theorem k_l2i (C : Ctx l R n0 Z own bytes ml nm rt Q K O) {x : Int64} (H : K pc L (.long x :: rest) h cl sl) (d : decode bytes pc = .ok (.l2i, 1))  (hp : pc + 1 = pc') : K pc' L (.int (x.toInt32) :: rest) h cl sl := by
  subst hp
  exact C.pure H fun p e s m args below meth c T locs X hx hby _ _ _ t k => XS.l2i X.here hx rfl (hb hby d) rfl k
theorem k_i2b (C : Ctx l R n0 Z own bytes ml nm rt Q K O) {x : Int32} (H : K pc L (.int x :: rest) h cl sl) (d : decode bytes pc = .ok (.i2b, 1))  (hp : pc + 1 = pc') : K pc' L (.int (x.toInt8.toInt32) :: rest) h cl sl := by
  subst hp
  exact C.pure H fun p e s m args below meth c T locs X hx hby _ _ _ t k => XS.i2b X.here hx rfl (hb hby d) rfl k
theorem k_i2c (C : Ctx l R n0 Z own bytes ml nm rt Q K O) {x : Int32} (H : K pc L (.int x :: rest) h cl sl) (d : decode bytes pc = .ok (.i2c, 1))  (hp : pc + 1 = pc') : K pc' L (.int (x.toUInt32.toUInt16.toUInt32.toInt32) :: rest) h cl sl := by
  subst hp
  exact C.pure H fun p e s m args below meth c T locs X hx hby _ _ _ t k => XS.i2c X.here hx rfl (hb hby d) rfl k
theorem k_i2s (C : Ctx l R n0 Z own bytes ml nm rt Q K O) {x : Int32} (H : K pc L (.int x :: rest) h cl sl) (d : decode bytes pc = .ok (.i2s, 1))  (hp : pc + 1 = pc') : K pc' L (.int (x.toInt16.toInt32) :: rest) h cl sl := by
  subst hp
  exact C.pure H fun p e s m args below meth c T locs X hx hby _ _ _ t k => XS.i2s X.here hx rfl (hb hby d) rfl k
theorem k_dup (C : Ctx l R n0 Z own bytes ml nm rt Q K O) {x : Value} (H : K pc L (x :: rest) h cl sl) (d : decode bytes pc = .ok (.dup, 1)) (hc : x.category = 1) (hp : pc + 1 = pc') : K pc' L (x :: x :: rest) h cl sl := by
  subst hp
  exact C.pure H fun p e s m args below meth c T locs X hx hby _ _ _ t k => XS.dup X.here hx rfl (hb hby d) rfl hc k
theorem k_pop (C : Ctx l R n0 Z own bytes ml nm rt Q K O) {x : Value} (H : K pc L (x :: rest) h cl sl) (d : decode bytes pc = .ok (.pop, 1)) (hc : x.category = 1) (hp : pc + 1 = pc') : K pc' L (rest) h cl sl := by
  subst hp
  exact C.pure H fun p e s m args below meth c T locs X hx hby _ _ _ t k => XS.pop X.here hx rfl (hb hby d) rfl hc k
theorem k_dupX1 (C : Ctx l R n0 Z own bytes ml nm rt Q K O) {x y : Value} (H : K pc L (x :: y :: rest) h cl sl) (d : decode bytes pc = .ok (.dup_x1, 1)) (hc : x.category = 1) (hc' : y.category = 1) (hp : pc + 1 = pc') : K pc' L (x :: y :: x :: rest) h cl sl := by
  subst hp
  exact C.pure H fun p e s m args below meth c T locs X hx hby _ _ _ t k => XS.dupX1 X.here hx rfl (hb hby d) rfl hc hc' k
theorem k_dup2 (C : Ctx l R n0 Z own bytes ml nm rt Q K O) {x y : Value} (H : K pc L (x :: y :: rest) h cl sl) (d : decode bytes pc = .ok (.dup2, 1)) (hc : x.category = 1) (hc' : y.category = 1) (hp : pc + 1 = pc') : K pc' L (x :: y :: x :: y :: rest) h cl sl := by
  subst hp
  exact C.pure H fun p e s m args below meth c T locs X hx hby _ _ _ t k => Jvm.Free.XT.dup2 X.here hx rfl (hb hby d) rfl hc hc' k
theorem k_iinc (C : Ctx l R n0 Z own bytes ml nm rt Q K O) {k : Nat} {i : Int} {x y : Int32} {L' : Array Slot} (H : K pc L (S) h cl sl) (d : decode bytes pc = .ok (.iinc k i, 3)) (hl : L[k]? = some (.val (.int x))) (hv : x + Int32.ofInt i = y) (hl' : storeLocals L k (.int y) = some L') (hp : pc + 3 = pc') : K pc' L' (S) h cl sl := by
  subst hp
  exact C.pure H fun p e s m args below meth c T locs X hx hby _ _ _ t k => XS.iinc X.here hx rfl (hb hby d) hl (by rw [hv]; exact hl') k
theorem k_ifcY (C : Ctx l R n0 Z own bytes ml nm rt Q K O) {cd : ClassFile.Cond} {o : Int} {x : Int32} (H : K pc L (.int x :: rest) h cl sl) (d : decode bytes pc = .ok (.ifCond cd o, 3)) (hc : if_icmp.holds cd x 0 = true) (ho : 0 ≤ (pc : Int) + o) (hp : ((pc : Int) + o).toNat = pc') : K pc' L rest h cl sl :=
  C.pure H fun p e s m args below meth c T locs X hx hby _ _ _ t k => XS.ifYes X.here hx rfl (pc0 := pc) rfl (hb hby d) rfl ((if0 _ _).trans hc) ho hp k
theorem k_ifcN (C : Ctx l R n0 Z own bytes ml nm rt Q K O) {cd : ClassFile.Cond} {o : Int} {x : Int32} (H : K pc L (.int x :: rest) h cl sl) (d : decode bytes pc = .ok (.ifCond cd o, 3)) (hc : if_icmp.holds cd x 0 = false) (hp : pc + 3 = pc') : K pc' L rest h cl sl := by
  subst hp
  exact C.pure H fun p e s m args below meth c T locs X hx hby _ _ _ t k => XS.ifNo X.here hx rfl (hb hby d) rfl ((if0 _ _).trans hc) k
theorem k_icmpY (C : Ctx l R n0 Z own bytes ml nm rt Q K O) {cd : ClassFile.Cond} {o : Int} {x y : Int32} (H : K pc L (.int y :: .int x :: rest) h cl sl) (d : decode bytes pc = .ok (.if_icmp cd o, 3)) (hc : if_icmp.holds cd x y = true) (ho : 0 ≤ (pc : Int) + o) (hp : ((pc : Int) + o).toNat = pc') : K pc' L rest h cl sl :=
  C.pure H fun p e s m args below meth c T locs X hx hby _ _ _ t k => XS.icmpYes X.here hx rfl (pc0 := pc) rfl (hb hby d) rfl hc ho hp k
theorem k_icmpN (C : Ctx l R n0 Z own bytes ml nm rt Q K O) {cd : ClassFile.Cond} {o : Int} {x y : Int32} (H : K pc L (.int y :: .int x :: rest) h cl sl) (d : decode bytes pc = .ok (.if_icmp cd o, 3)) (hc : if_icmp.holds cd x y = false) (hp : pc + 3 = pc') : K pc' L rest h cl sl := by
  subst hp
  exact C.pure H fun p e s m args below meth c T locs X hx hby _ _ _ t k => XS.icmpNo X.here hx rfl (hb hby d) rfl hc k
theorem k_goto (C : Ctx l R n0 Z own bytes ml nm rt Q K O) (H : K pc L S h cl sl) {o : Int} (d : decode bytes pc = .ok (.goto o, 3)) (ho : 0 ≤ (pc : Int) + o) (hp : ((pc : Int) + o).toNat = pc') : K pc' L S h cl sl :=
  C.pure H fun p e s m args below meth c T locs X hx hby _ _ _ t k => XS.goto X.here hx rfl (pc0 := pc) rfl (hb hby d) ho hp k
theorem k_ifnullY (C : Ctx l R n0 Z own bytes ml nm rt Q K O) (H : K pc L (.null :: rest) h cl sl) {o : Int} (d : decode bytes pc = .ok (.ifnull o, 3)) (ho : 0 ≤ (pc : Int) + o) (hp : ((pc : Int) + o).toNat = pc') : K pc' L rest h cl sl :=
  C.pure H fun p e s m args below meth c T locs X hx hby _ _ _ t k => XS.ifnullYes X.here hx rfl (pc0 := pc) rfl (hb hby d) rfl ho hp k
theorem k_ifnullN (C : Ctx l R n0 Z own bytes ml nm rt Q K O) {b : Addr} (H : K pc L (.ref b :: rest) h cl sl) {o : Int} (d : decode bytes pc = .ok (.ifnull o, 3)) (hp : pc + 3 = pc') : K pc' L rest h cl sl := by
  subst hp
  exact C.pure H fun p e s m args below meth c T locs X hx hby _ _ _ t k => XS.ifnullNo X.here hx rfl (hb hby d) rfl k
theorem k_ifnonnullY (C : Ctx l R n0 Z own bytes ml nm rt Q K O) {b : Addr} (H : K pc L (.ref b :: rest) h cl sl) {o : Int} (d : decode bytes pc = .ok (.ifnonnull o, 3)) (ho : 0 ≤ (pc : Int) + o) (hp : ((pc : Int) + o).toNat = pc') : K pc' L rest h cl sl :=
  C.pure H fun p e s m args below meth c T locs X hx hby _ _ _ t k => XS.ifnonnullYes X.here hx rfl (pc0 := pc) rfl (hb hby d) rfl ho hp k
theorem k_ifnonnullN (C : Ctx l R n0 Z own bytes ml nm rt Q K O) (H : K pc L (.null :: rest) h cl sl) {o : Int} (d : decode bytes pc = .ok (.ifnonnull o, 3)) (hp : pc + 3 = pc') : K pc' L rest h cl sl := by
  subst hp
  exact C.pure H fun p e s m args below meth c T locs X hx hby _ _ _ t k => XS.ifnonnullNo X.here hx rfl (hb hby d) rfl k
theorem k_acmp (C : Ctx l R n0 Z own bytes ml nm rt Q K O) {x y : Value} (H : K pc L (y :: x :: rest) h cl sl) {cd : ACond} {o : Int} (d : decode bytes pc = .ok (.if_acmp cd o, 3)) (h1 : x.isRef = true) (h2 : y.isRef = true) {same : Bool} (hq : decide (x = y) = same) (ho : 0 ≤ (pc : Int) + o) (hp : pc' = if acV cd same = true then ((pc : Int) + o).toNat else pc + 3) : K pc' L rest h cl sl :=
  C.pure H fun p e s m args below meth c T locs X hx hby _ _ _ t k => Jvm.RoadKit.acmp X hx rfl h1 h2 (pc0 := pc) rfl (hb hby d) rfl hq ho hp k
theorem k_dupX2 (C : Ctx l R n0 Z own bytes ml nm rt Q K O) {x y z : Value} (H : K pc L (x :: y :: z :: rest) h cl sl) (d : decode bytes pc = .ok (.dup_x2, 1)) (h1 : x.category = 1) (h2 : y.category = 1) (h3 : z.category = 1) (hp : pc + 1 = pc') : K pc' L (x :: y :: z :: x :: rest) h cl sl := by
  subst hp
  refine C.pure H fun p e s m args below meth c T locs X hx hby _ _ _ t k => ?_
  jvm_step X.here [X.here.top, hx, hb hby d, h1, h2, h3]
  exact k
theorem k_ldcI (C : Ctx l R n0 Z own bytes ml nm rt Q K O) (H : K pc L S h cl sl) {i : Nat} {v : Int32} (w : (Cond.constant own i v).before a0 Z = true) (d : decode bytes pc = .ok (.ldc i, 2)) (hp : pc + 2 = pc') : K pc' L (.int v :: S) h cl sl := by
  subst hp
  exact C.pure H fun p e s m args below meth c T locs X hx hby hZ hown _ t k => X.ldcInt hx hown (mvT hZ w) (g := mkF m pc L S) rfl (hb hby d) t k
theorem k_ldcL (C : Ctx l R n0 Z own bytes ml nm rt Q K O) (H : K pc L S h cl sl) {i : Nat} {v : Int64} (w : (Cond.constantLong own i v).before a0 Z = true) (d : decode bytes pc = .ok (.ldc2_w i, 3)) (hp : pc + 3 = pc') : K pc' L (.long v :: S) h cl sl := by
  subst hp
  exact C.pure H fun p e s m args below meth c T locs X hx hby hZ hown _ t k => X.ldc2Long hx hown (mvT hZ w) (g := mkF m pc L S) rfl (hb hby d) t k
theorem k_getFld (C : Ctx l R n0 Z own bytes ml nm rt Q K O) {a : Addr} (H : K pc L (.ref a :: rest) h cl sl) {i : Nat} {O' n d' : String} {v : Value} (w : (Cond.fieldLink own i O' n d').before a0 Z = true) (F : Fld Z h a O' n d' v) (d : decode bytes pc = .ok (.getfield i, 3)) (hp : pc + 3 = pc') : K pc' L (v :: rest) h cl sl := by
  subst hp
  exact C.note H fun p e s m args below meth c T locs X hx hby hZ hown _ eT => getF X hx hZ hown (host := "") (Or.inl w) Via.refl eT F (g := mkF m pc L (.ref a :: rest)) rfl rfl (hb hby d)
theorem k_getFldN (C : Ctx l R n0 Z own bytes ml nm rt Q K O) {a : Addr} (H : K pc L (.ref a :: rest) h cl sl) {i : Nat} {O' n d' host : String} {v : Value} (w : (Cond.fieldLinkNest own i O' n d' host).before a0 Z = true) (F : Fld Z h a O' n d' v) (d : decode bytes pc = .ok (.getfield i, 3)) (hp : pc + 3 = pc') : K pc' L (v :: rest) h cl sl := by
  subst hp
  exact C.note H fun p e s m args below meth c T locs X hx hby hZ hown _ eT => getF X hx hZ hown (Or.inr w) Via.refl eT F (g := mkF m pc L (.ref a :: rest)) rfl rfl (hb hby d)
theorem k_getSta (C : Ctx l R n0 Z own bytes ml nm rt Q K O) (H : K pc L S h cl sl) {i : Nat} {O' n d' : String} {v : Value} (w : (Cond.fieldLink own i O' n d').before a0 Z = true) (F : Sta Z h O' n d' v) (d : decode bytes pc = .ok (.getstatic i, 3)) (hp : pc + 3 = pc') : K pc' L (v :: S) h cl sl := by
  subst hp
  exact C.note H fun p e s m args below meth c T locs X hx hby hZ hown _ eT => getS2 X hx hZ hown (host := "") (Or.inl w) Via.refl eT F (g := mkF m pc L S) rfl (hb hby d)
theorem k_initObj (C : Ctx l R n0 Z own bytes ml nm rt Q K O) {a : Addr} (H : K pc L (.ref a :: rest) h cl sl) {i : Nat} (w1 : (Cond.methodLink own i Lib.objectInit).before a0 Z = true) (w2 : (Cond.instanceMethod Lib.objectInit).before a0 Z = true) (w3 : (Cond.code Lib.objectInit ⟨#[0xb1]⟩ 1 none).before a0 Z = true) (d : decode bytes pc = .ok (.invokespecial i, 3)) (hsz : L.size = ml)
    (hf : 1 ≤ R.frames) (W : Nat) (hW : (rest.map fun v => v.category).sum = W) (hl : W + 12 ≤ R.locals) (hp : pc + 3 = pc') : K pc' L rest h cl sl := by
  subst hp
  exact C.note H fun p e s m args below meth c T locs X hx hby hZ hown hml eT => initO X hx hZ hown w1 w2 w3 eT (g := mkF m pc L (.ref a :: rest)) rfl (hsz.trans hml.symm) rfl (hb hby d) hf (W := W) (by show 2 * 0 + _ ≤ _; omega) hl
theorem k_castYes (C : Ctx l R n0 Z own bytes ml nm rt Q K O) {a : Addr} (H : K pc L (.ref a :: rest) h cl sl) {i : Nat} {C' : String} (w : (Cond.classLink own i C').before a0 Z = true) (F : Ins Z h a C' true) (d : decode bytes pc = .ok (.checkcast i, 3)) (hp : pc + 3 = pc') : K pc' L (.ref a :: rest) h cl sl := by
  subst hp
  exact C.note H fun p e s m args below meth c T locs X hx hby hZ hown _ eT => castY X hx hZ hown w eT F (g := mkF m pc L (.ref a :: rest)) rfl rfl (hb hby d)
theorem k_castNull (C : Ctx l R n0 Z own bytes ml nm rt Q K O) (H : K pc L (.null :: rest) h cl sl) {i : Nat} (d : decode bytes pc = .ok (.checkcast i, 3)) (hp : pc + 3 = pc') : K pc' L (.null :: rest) h cl sl := by
  subst hp
  exact C.pure H fun p e s m args below meth c T locs X hx hby hZ hown _ t k => X.checkcastNull hx (g := mkF m pc L (.null :: rest)) rfl rfl (hb hby d) t k
theorem k_instYes (C : Ctx l R n0 Z own bytes ml nm rt Q K O) {a : Addr} (H : K pc L (.ref a :: rest) h cl sl) {i : Nat} {C' : String} (w : (Cond.classLink own i C').before a0 Z = true) (F : Ins Z h a C' true) (d : decode bytes pc = .ok (.instanceof i, 3)) (hp : pc + 3 = pc') : K pc' L (.int 1 :: rest) h cl sl := by
  subst hp
  exact C.note H fun p e s m args below meth c T locs X hx hby hZ hown _ eT => instY X hx hZ hown w eT F (g := mkF m pc L (.ref a :: rest)) rfl rfl (hb hby d)
theorem k_instNull (C : Ctx l R n0 Z own bytes ml nm rt Q K O) (H : K pc L (.null :: rest) h cl sl) {i : Nat} (d : decode bytes pc = .ok (.instanceof i, 3)) (hp : pc + 3 = pc') : K pc' L (.int 0 :: rest) h cl sl := by
  subst hp
  exact C.pure H fun p e s m args below meth c T locs X hx hby hZ hown _ t k => X.instanceofNull hx (g := mkF m pc L (.null :: rest)) rfl rfl (hb hby d) t k
theorem k_instNot (C : Ctx l R n0 Z own bytes ml nm rt Q K O) {a : Addr} (H : K pc L (.ref a :: rest) h cl sl) {i : Nat} {C' D' : String} (w : (Cond.classLink own i C').before a0 Z = true) (E : Exa Z h a D') (F : ∃ c t, Z.vm.findClass D' = some c ∧ Z.vm.findClass C' = some t ∧ Z.vm.assignable c t = false) (d : decode bytes pc = .ok (.instanceof i, 3)) (hp : pc + 3 = pc') : K pc' L (.int 0 :: rest) h cl sl := by
  subst hp
  exact C.note H fun p e s m args below meth c T locs X hx hby hZ hown _ eT => instNo X hx hZ hown w eT E F (g := mkF m pc L (.ref a :: rest)) rfl rfl (hb hby d)
/-! what writes or makes -/
theorem k_putFld (C : Ctx l R n0 Z own bytes ml nm rt Q K O) {a : Addr} {v : Value} (H : K pc L (v :: .ref a :: rest) h cl sl) {i kk : Nat} {O' n d' C' : String} {ty : FieldType} {old : Value} (w : (Cond.fieldLink own i O' n d').before a0 Z = true) (F : Fld Z h a O' n d' old) (E : Exa Z h a C')
    (Lw : (Cond.lays C' O' n d').before a0 Z = true ∨ ((Cond.laysFinal C' O' n d').before a0 Z = true ∧ own = O' ∧ nm = "<init>")) (wi : (Cond.instantiable C' kk).before a0 Z = true) (hty : parseFieldDescriptor d' = some ty) {v' : Value} (hn : narrow ty v = v') (hf : fits ty v' = true) (g : n0 ≤ a) (d : decode bytes pc = .ok (.putfield i, 3)) (hp : pc + 3 = pc') :
    ∃ h', Wr h h' a (Jvm.RoadKit.slotOf Z O' n d') v' ∧ K pc' L rest h' cl sl := by
  subst hp
  obtain ⟨p, e, s, m, args, below, meth, c, s1, f0, hx, hby, hZ, hown, hml, hnm, hrt, hlk, hK, hO⟩ := C
  obtain ⟨T, locs, X, eT, N, st⟩ := (hK _ _ _ _ _ _).mp H
  obtain ⟨T', h', X', e', W', st'⟩ := putFN X hx hZ hown w Via.refl eT F E (Lw.imp id fun q => ⟨q.1, q.2.1, hnm.trans q.2.2⟩) wi hty hn hf (g := mkF m pc L (v :: .ref a :: rest)) rfl rfl (hb hby d)
  exact ⟨h', W', (hK _ _ _ _ _ _).mpr ⟨T', _, X', e', Fr.snoc X' N g, fun t k => st t (st' t k)⟩⟩
theorem k_newObj (C : Ctx l R n0 Z own bytes ml nm rt Q K O) (H : K pc L S h cl sl) {i n : Nat} {C' : String} (w : (Cond.classLink own i C').before a0 Z = true) (wi : (Cond.instantiable C' n).before a0 Z = true) (wz : (Cond.initialized C').before a0 Z = true) (d : decode bytes pc = .ok (.new i, 3)) (hc : cl + 1 ≤ R.cells) (hl : sl + n ≤ R.slots) (hp : pc + 3 = pc') :
    ∃ h' b, b = h.size ∧ Ext h h' ∧ Exa Z h' b C' ∧ (∀ {O' nm' d' : String} {ty : FieldType}, Laid Z a0 C' O' nm' d' → parseFieldDescriptor d' = some ty → Fld Z h' b O' nm' d' (defaultValue ty)) ∧ K pc' L (.ref b :: S) h' (cl + 1) (sl + n) := by
  subst hp
  obtain ⟨p, e, s, m, args, below, meth, c, s1, f0, hx, hby, hZ, hown, hml, hnm, hrt, hlk, hK, hO⟩ := C
  obtain ⟨T, locs, X, eT, N, st⟩ := (hK _ _ _ _ _ _).mp H
  obtain ⟨T', h', X', e', E', A', D', -, st'⟩ := newO X hx hZ hown w wi wz eT (g := mkF m pc L S) rfl (hb hby d) hc hl
  exact ⟨h', _, rfl, E', A', D', (hK _ _ _ _ _ _).mpr ⟨T', _, X', e', N, fun t k => st t (st' t k)⟩⟩
theorem k_newArr (C : Ctx l R n0 Z own bytes ml nm rt Q K O) {n : Int32} (H : K pc L (.int n :: rest) h cl sl) {aty : ArrayType} (w : (Cond.arrayClass (newarray.typeOf aty)).before a0 Z = true) (d : decode bytes pc = .ok (.newarray aty, 2)) (hn : ¬ n < 0) {cap : Nat} (hcap : n.toNatClampNeg ≤ cap) (hb' : cap * 8 ≤ 536870912) (hc : cl + 1 ≤ R.cells) (hl : sl + cap ≤ R.slots) (hp : pc + 2 = pc') :
    ∃ h' b cA, b = h.size ∧ Ext h h' ∧ Arr Z h' b (newA cA (newarray.typeOf aty) n) (newarray.typeOf aty) ∧ K pc' L (.ref b :: rest) h' (cl + 1) (sl + cap) := by
  subst hp
  obtain ⟨p, e, s, m, args, below, meth, c, s1, f0, hx, hby, hZ, hown, hml, hnm, hrt, hlk, hK, hO⟩ := C
  obtain ⟨T, locs, X, eT, N, st⟩ := (hK _ _ _ _ _ _).mp H
  obtain ⟨T', h', cA, X', e', E', A', st'⟩ := newP X hx hZ w eT (g := mkF m pc L (.int n :: rest)) rfl (hb hby d) rfl hn hcap hb' hc hl
  exact ⟨h', _, cA, rfl, E', A', (hK _ _ _ _ _ _).mpr ⟨T', _, X', e', N, fun t k => st t (st' t k)⟩⟩
/-! the returns -/
theorem k_out_of (C : Ctx l R n0 Z own bytes ml nm rt Q K O) (H : K pc L S h cl sl) {v : Option Value} (hv : rt = none → v = none) (hq : Q v h) (hc : cl ≤ R.cells) (hl : sl ≤ R.slots)
    (f : ∀ (p : Program) (e : Env) (s : State) (m : MethodId) (args : Array Value) (below : List Frame) (meth : Method) (c : Code) (T : State) (locs : List Loc) (fs : List Frame), Stand p l e R s m args below meth c T locs cl sl → p.tables.exec = Jvm.exec → c.code = bytes → meth.sig.returnType = rt →
      (∀ (f : JFrame) (acts : List Action), f.method = m → f.locked = none → f.entered = [] → (doReturn e (T.setTop f) acts v).1 = T.setFrames fs) → Steps p.tables e below (T.setTop (mkF m pc L S)) (T.setFrames fs)) : O := by
  obtain ⟨p, e, s, m, args, below, meth, c, s1, f0, hx, hby, hZ, hown, hml, hnm, hrt, hlk, hK, hO⟩ := C
  obtain ⟨T, locs, X, eT, N, st⟩ := (hK _ _ _ _ _ _).mp H
  obtain ⟨fs, hr, hrun, hended, hW, hsame⟩ := X.leave (v := v) (fun q => hv (hrt.symm.trans q)) hlk
  refine hO ⟨_, _, st _ (f p e s m args below meth c T locs fs X hx hby hrt hr), hrun, hended, v, locs, rfl, ⟨?_, N⟩, ⟨_, rfl⟩, hW, hsame.mono hc hl⟩
  show Q v T.heap
  rw [eT]; exact hq
theorem k_retV (C : Ctx l R n0 Z own bytes ml nm none Q K O) (H : K pc L [] h cl sl) (d : decode bytes pc = .ok (.return_, 1)) (hc : cl ≤ R.cells) (hl : sl ≤ R.slots) (hq : Q none h) : O :=
  k_out_of C H (fun _ => rfl) hq hc hl fun p e s m args below meth c T locs fs X hx hby hrt hr => X.returnOut hx hrt (hb hby d) hr
theorem k_retI (C : Ctx l R n0 Z own bytes ml nm (some .int) Q K O) {z : Int32} (H : K pc L (.int z :: rest) h cl sl) (d : decode bytes pc = .ok (.ireturn, 1)) (hc : cl ≤ R.cells) (hl : sl ≤ R.slots) (hq : Q (some (.int z)) h) : O :=
  k_out_of C H (fun q => nomatch q) hq hc hl fun p e s m args below meth c T locs fs X hx hby hrt hr => retOut X hx hrt (i := .ireturn) rfl (Or.inl ⟨rfl, Or.inl rfl, _, rfl⟩) (hb hby d) hr
theorem k_retJ (C : Ctx l R n0 Z own bytes ml nm (some .long) Q K O) {z : Int64} (H : K pc L (.long z :: rest) h cl sl) (d : decode bytes pc = .ok (.lreturn, 1)) (hc : cl ≤ R.cells) (hl : sl ≤ R.slots) (hq : Q (some (.long z)) h) : O :=
  k_out_of C H (fun q => nomatch q) hq hc hl fun p e s m args below meth c T locs fs X hx hby hrt hr => retOut X hx hrt (i := .lreturn) rfl (Or.inr (Or.inl ⟨rfl, rfl, _, rfl⟩)) (hb hby d) hr
theorem k_retA {t : FieldType} (C : Ctx l R n0 Z own bytes ml nm (some t) Q K O) {v : Value} (H : K pc L (v :: rest) h cl sl) (d : decode bytes pc = .ok (.areturn, 1)) (ht : t.isReference = true) (hv : v.isRef = true) (hc : cl ≤ R.cells) (hl : sl ≤ R.slots) (hq : Q (some v) h) : O :=
  k_out_of C H (fun q => nomatch q) hq hc hl fun p e s m args below meth c T locs fs X hx hby hrt hr => retOut X hx hrt (i := .areturn) (by rcases ref_cases hv with rfl | ⟨a, rfl⟩ <;> cases t <;> first | rfl | cases ht) (Or.inr (Or.inr (Or.inr (Or.inr ⟨rfl, ht, hv⟩)))) (hb hby d) hr
theorem k_retN {t : FieldType} (C : Ctx l R n0 Z own bytes ml nm (some t) Q K O) {z : Int32} (H : K pc L (.int z :: rest) h cl sl) (d : decode bytes pc = .ok (.ireturn, 1)) (ht : t = .boolean ∨ t = .byte ∨ t = .char ∨ t = .short) (hc : cl ≤ R.cells) (hl : sl ≤ R.slots) (hq : Q (some (.int (nar t z))) h) : O :=
  k_out_of C H (fun q => nomatch q) hq hc hl fun p e s m args below meth c T locs fs X hx hby hrt hr => Jvm.RoadKit.retN X hx hrt ht (hb hby d) hr
theorem k_retZ (C : Ctx l R n0 Z own bytes ml nm (some .boolean) Q K O) {z : Int32} (H : K pc L (.int z :: rest) h cl sl) (d : decode bytes pc = .ok (.ireturn, 1)) (hz : z &&& 1 = z) (hc : cl ≤ R.cells) (hl : sl ≤ R.slots) (hq : Q (some (.int z)) h) : O :=
  k_retN C H d (Or.inl rfl) hc hl (by show Q (some (.int (z &&& 1))) h; rw [hz]; exact hq)
/-! the calls -/
theorem k_callSta (C : Ctx l R n0 Z own bytes ml nm rt Q K O) (H : K pc L S h cl sl) {i : Nat} {y : MethodName} {bytes' : ByteArray} {ml' : Nat} {rt' : Option FieldType} {rm : Room} {as : Array Value} {Q' : Qt} (k : Con l y bytes' ml' rt' rm Z as h n0 Q')
    (w1 : (Cond.methodLink own i y).before a0 Z = true) (w2 : (Cond.static y).before a0 Z = true) (w3 : (Cond.initialized y.cls).before a0 Z = true) (w4 : (Cond.code y bytes' ml' rt').before a0 Z = true) (hy : y.cls ≠ "java/lang/invoke/MethodHandle" ∧ y.cls ≠ "java/lang/invoke/VarHandle")
    (d : decode bytes pc = .ok (.invokestatic i, 3)) (hsz : L.size = ml) (argsL rest : List Value) {ps : List FieldType} (hd : parseMethodDescriptor y.desc = some ⟨ps, rt'⟩) (hlen : argsL.length = ps.length) (hS : S = argsL.reverse ++ rest) (has : argsL.toArray = as) (W : Nat) (hW : (rest.map fun v => v.category).sum = W)
    (hfr : rm.frames + 1 ≤ R.frames) (hlo : W + (ml' + 11) + rm.locals ≤ R.locals) (hc : cl + rm.cells ≤ R.cells) (hs : sl + rm.slots ≤ R.slots) (hp : pc + 3 = pc') :
    ∃ v h', Q' v h' ∧ K pc' L (v.toList ++ rest) h' (cl + rm.cells) (sl + rm.slots) := by
  subst hp
  obtain ⟨p, e, s, m, args, below, meth, c, s1, f0, hx, hby, hZ, hown, hml, hnm, hrt, hlk, hK, hO⟩ := C
  obtain ⟨T, locs, X, eT, N, st⟩ := (hK _ _ _ _ _ _).mp H
  obtain ⟨v, _, ⟨T', L', k', n'⟩, -, X', ⟨Lc, ⟨hQ, hF⟩, l', y', z'⟩, st'⟩ := Jvm.LawKit.callS X hx (y := y) hown (mvT hZ w1) (mvT hZ w2) (mvT hZ w3) (mvT hZ w4) hy (backOf (Q := fun v h' L => Q' v h' ∧ Fr n0 L) (W := W) (k []) hZ w4 w3 hfr hlo) (g := mkF m pc L S) rfl (hsz.trans hml.symm) (argsL := argsL) (rest := rest) (lenOf hd hlen) hS (by show 2 * 0 + _ ≤ _; omega) (hb hby d) (fun _ _ => ⟨has, eT, hc, hs⟩)
  dsimp only [Pt.U, Pt.locs, Pt.cells, Pt.slots] at X' l' y' z' st' hQ
  subst l' y' z'
  exact ⟨v, T'.heap, hQ, (hK _ _ _ _ _ _).mpr ⟨T', _, X', rfl, N.app hF, fun t k => st t (st' t k)⟩⟩
theorem k_callCon (C : Ctx l R n0 Z own bytes ml nm rt Q K O) (H : K pc L S h cl sl) {i : Nat} {y : MethodName} {bytes' : ByteArray} {ml' : Nat} {rm : Room} {as : Array Value} {Q' : Qt} (k : Con l y bytes' ml' none rm Z as h n0 Q') (hi : y.name = "<init>")
    (w1 : (Cond.methodLink own i y).before a0 Z = true) (w2 : (Cond.instanceMethod y).before a0 Z = true) (w3 : (Cond.initialized y.cls).before a0 Z = true) (w4 : (Cond.code y bytes' ml' none).before a0 Z = true) (hy : y.cls ≠ "java/lang/invoke/MethodHandle" ∧ y.cls ≠ "java/lang/invoke/VarHandle")
    (d : decode bytes pc = .ok (.invokespecial i, 3)) (hsz : L.size = ml) (a : Addr) (argsL rest : List Value) {ps : List FieldType} (hd : parseMethodDescriptor y.desc = some ⟨ps, none⟩) (hlen : argsL.length = ps.length) (hS : S = argsL.reverse ++ .ref a :: rest) (has : (.ref a :: argsL).toArray = as) (W : Nat) (hW : (rest.map fun v => v.category).sum = W)
    (hfr : rm.frames + 1 ≤ R.frames) (hlo : W + (ml' + 11) + rm.locals ≤ R.locals) (hc : cl + rm.cells ≤ R.cells) (hs : sl + rm.slots ≤ R.slots) (hp : pc + 3 = pc') :
    ∃ v h', Q' v h' ∧ K pc' L (v.toList ++ rest) h' (cl + rm.cells) (sl + rm.slots) := by
  subst hp
  obtain ⟨p, e, s, m, args, below, meth, c, s1, f0, hx, hby, hZ, hown, hml, hnm, hrt, hlk, hK, hO⟩ := C
  obtain ⟨T, locs, X, eT, N, st⟩ := (hK _ _ _ _ _ _).mp H
  obtain ⟨v, _, ⟨T', L', k', n'⟩, -, X', ⟨Lc, ⟨hQ, hF⟩, l', y', z'⟩, st'⟩ := X.specialBack hx (y := y) hi hown (mvT hZ w1) (mvT hZ w2) (mvT hZ w4) hy (backOf (Q := fun v h' L => Q' v h' ∧ Fr n0 L) (W := W) (k []) hZ w4 w3 hfr hlo) (g := mkF m pc L S) rfl (hsz.trans hml.symm) (Steps.refl _) (a := a) (argsL := argsL) (rest := rest) (lenOf hd hlen) hS (by show 2 * 0 + _ ≤ _; omega) (hb hby d) (fun _ _ => ⟨has, eT, hc, hs⟩)
  dsimp only [Pt.U, Pt.locs, Pt.cells, Pt.slots] at X' l' y' z' st' hQ
  subst l' y' z'
  exact ⟨v, T'.heap, hQ, (hK _ _ _ _ _ _).mpr ⟨T', _, X', rfl, N.app hF, fun t k => st t (st'.trans k)⟩⟩
theorem k_callVir (C : Ctx l R n0 Z own bytes ml nm rt Q K O) (H : K pc L S h cl sl) {i : Nat} {y : MethodName} {bytes' : ByteArray} {ml' : Nat} {rt' : Option FieldType} {rm : Room} {as : Array Value} {Q' : Qt} (k : Con l y bytes' ml' rt' rm Z as h n0 Q') {a : Addr} {C' : String} (E : Exa Z h a C')
    (w1 : (Cond.methodLink own i y).before a0 Z = true) (w2 : (Cond.declares y).before a0 Z = true) (w3 : (Cond.selects C' y y).before a0 Z = true) (w4 : (Cond.instanceMethod y).before a0 Z = true) (w5 : (Cond.initialized y.cls).before a0 Z = true) (w6 : (Cond.code y bytes' ml' rt').before a0 Z = true) (hy : y.cls ≠ "java/lang/invoke/MethodHandle" ∧ y.cls ≠ "java/lang/invoke/VarHandle")
    (d : decode bytes pc = .ok (.invokevirtual i, 3)) (hsz : L.size = ml) (argsL rest : List Value) {ps : List FieldType} {rt2 : Option FieldType} (hd : parseMethodDescriptor y.desc = some ⟨ps, rt2⟩) (hlen : argsL.length = ps.length) (hS : S = argsL.reverse ++ .ref a :: rest) (has : (.ref a :: argsL).toArray = as) (W : Nat) (hW : (rest.map fun v => v.category).sum = W)
    (hfr : rm.frames + 1 ≤ R.frames) (hlo : W + (ml' + 11) + rm.locals ≤ R.locals) (hc : cl + rm.cells ≤ R.cells) (hs : sl + rm.slots ≤ R.slots) (hp : pc + 3 = pc') :
    ∃ v h', Q' v h' ∧ K pc' L (v.toList ++ rest) h' (cl + rm.cells) (sl + rm.slots) := by
  subst hp
  obtain ⟨p, e, s, m, args, below, meth, c, s1, f0, hx, hby, hZ, hown, hml, hnm, hrt, hlk, hK, hO⟩ := C
  obtain ⟨T, locs, X, eT, N, st⟩ := (hK _ _ _ _ _ _).mp H
  obtain ⟨cq, kq, qa, qb, qc⟩ := isOf hZ eT E
  obtain ⟨v, _, ⟨T', L', k', n'⟩, -, X', ⟨Lc, ⟨hQ, hF⟩, l', y', z'⟩, st'⟩ := X.virtualBack hx (y := y) (z := y) hown (mvT hZ w1) (mvT hZ w2) (notFace_of_selects (args := #[]) (mvT hZ w3)) (mvT hZ w3) (mvT hZ w4) hy (backOf (Q := fun v h' L => Q' v h' ∧ Fr n0 L) (W := W) (k []) hZ w6 w5 hfr hlo) qa qc (g := mkF m pc L S) rfl (hsz.trans hml.symm) (Steps.refl _) (argsL := argsL) (rest := rest) (lenOf hd hlen) hS (by show 2 * 0 + _ ≤ _; omega) (hb hby d) (fun _ _ => ⟨has, eT, hc, hs⟩)
  dsimp only [Pt.U, Pt.locs, Pt.cells, Pt.slots] at X' l' y' z' st' hQ
  subst l' y' z'
  exact ⟨v, T'.heap, hQ, (hK _ _ _ _ _ _).mpr ⟨T', _, X', rfl, N.app hF, fun t k => st t (st'.trans k)⟩⟩
end Steps
/-- a class whose only superclass is one without a superclass is no subclass of a third, ordinary one -/
theorem noSub {Z : State} {a0 : Array Value} {C S K : String} {n : Nat} (w : (Cond.superclass C S).before a0 Z = true) (wo : (Cond.noSuperclass S).before a0 Z = true) (wk : (Cond.instantiable K n).before a0 Z = true) (h1 : S ≠ K) (h2 : C ≠ K) :
    ∃ c t, Z.vm.findClass C = some c ∧ Z.vm.findClass K = some t ∧ Z.vm.assignable c t = false := by
  obtain ⟨t, kt, g1, g2, g3, g4, -⟩ := Cond.instantiable_spec wk
  obtain ⟨co, ko, o1, o2, o3, -, -⟩ := Cond.noSuperclass_spec wo
  have nsO : NS Z S K := ⟨co, t, o1, g1, fun fuel => by
    have ne := ids_ne o1 g1 h1
    cases fuel with
    | zero => rfl
    | succ f => simp [Vm.isSubclassAux, ne, o2, o3]⟩
  obtain ⟨c, t', h0, g0, n3⟩ := NS.step w nsO h2
  cases g1.symm.trans g0
  obtain ⟨p, k, kp, q1, q2, q3, q4, q5, -, q7⟩ := Cond.superclass_spec h0 w
  have ne := ids_ne h0 g0 h2
  have gi : kt.isInterface = false := by
    cases hi : kt.isInterface with
    | false => rfl
    | true => simp [hi] at g4
  refine ⟨c, t, h0, g1, ?_⟩
  show Z.vm.assignableAux (255 + 1) c t = false
  simp [Vm.assignableAux, ne, q2, g2, q5, g3, gi, Vm.isSubclass, n3]
/-! arrays of ints, bytes, chars: what lies at each place -/
def Ari (Z : State) (h : Heap) (a : Addr) (ty : FieldType) (n : Nat) (f : Nat → Int32) : Prop := ∃ c : Cell, Arr Z h a c ty ∧ c.slots.size = n ∧ n < 2 ^ 31 ∧ ∀ i, i < n → c.slots[i]? = some (.int (f i))
section Arrays
variable {Z : State} {h h' : Heap} {a b : Addr} {ty : FieldType} {n : Nat} {f : Nat → Int32} {sl : Nat} {v : Value} {ws : List Addr}
theorem Ari.lt (F : Ari Z h a ty n f) : a < h.size := by obtain ⟨c, A, -⟩ := F; exact A.lt
theorem Ari.ext (F : Ari Z h a ty n f) (E : Ext h h') : Ari Z h' a ty n f := by obtain ⟨c, A, r⟩ := F; exact ⟨c, A.ext E, r⟩
theorem Ari.other (F : Ari Z h b ty n f) (W : Wr h h' a sl v) (q : b ≠ a) : Ari Z h' b ty n f := by obtain ⟨c, A, r⟩ := F; exact ⟨c, A.other W q, r⟩
theorem Ari.keep (F : Ari Z h a ty n f) (K : Keep h h' ws) (q : a ∉ ws) : Ari Z h' a ty n f := by obtain ⟨c, A, r⟩ := F; exact ⟨c, ⟨K.2.1 a c A.1 q, A.2⟩, r⟩
theorem Ari.congr {g : Nat → Int32} (F : Ari Z h a ty n f) (q : ∀ i, i < n → f i = g i) : Ari Z h a ty n g := by obtain ⟨c, A, r1, r2, r3⟩ := F; exact ⟨c, A, r1, r2, fun i hi => by rw [← q i hi]; exact r3 i hi⟩
theorem Ari.set (F : Ari Z h a ty n f) {i : Nat} {x : Int32} (W : Wr h h' a i (.int x)) : Ari Z h' a ty n (fun k => if k = i then x else f k) := by
  obtain ⟨c, A, r1, r2, r3⟩ := F
  refine ⟨c.setSlot i (.int x), A.same W, by rw [sz_set]; exact r1, r2, fun k hk => ?_⟩
  by_cases q : k = i
  · subst q
    simp [Cell.setSlot, r1, hk]
  · have : i ≠ k := fun z => q z.symm
    simp [Cell.setSlot, q, this, Array.getElem?_setIfInBounds_ne this, r3 k hk]
theorem addN {x y : Int32} {i j : Nat} (hx : x.toInt = i) (hy : y.toInt = j) (h : i + j < 2147483648) : (x + y).toInt = ((i + j : Nat) : Int) := by
  have a := c_iadd x y
  have r := rng32 (x + y)
  omega
theorem toNatClampNeg_of {j : Int32} {i : Nat} (hj : j.toInt = i) : j.toNatClampNeg = i := by rw [Int32.toNatClampNeg, hj]; rfl
theorem inb {j : Int32} {i m : Nat} (hj : j.toInt = i) (hi : i < m) : ¬ (j < 0 ∨ m ≤ j.toNatClampNeg) := by
  rw [toNatClampNeg_of hj, Int32.lt_iff_toInt_lt, hj]
  simp; omega
theorem Ari.ofNew {cA : ClassId} {z : Int32} (A : Arr Z h a (newA cA ty z) ty) (hz : z.toInt = n) (hd : defaultValue ty = .int 0) : Ari Z h a ty n (fun _ => 0) := by
  have hn : z.toNatClampNeg = n := toNatClampNeg_of hz
  refine ⟨_, A, by rw [sz_new, hn], by have := z.toInt_lt; omega, fun i hi => ?_⟩
  simp [newA, hn, hi, hd]
end Arrays
section ArrSteps
variable {l : Launch} {R : Room} {n0 : Nat} {Z : State} {own : String} {bytes : ByteArray} {ml : Nat} {nm : String} {rt : Option FieldType} {Q : Qt} {K : Kt} {O : Prop} {a0 : Array Value} {pc : Nat} {L : Array Slot} {S rest : List Value} {h : Heap} {cl sl : Nat} {pc' : Nat}
theorem k_arrlen (C : Ctx l R n0 Z own bytes ml nm rt Q K O) {a : Addr} (H : K pc L (.ref a :: rest) h cl sl) {ty : FieldType} {n : Nat} {f : Nat → Int32} (F : Ari Z h a ty n f) (d : decode bytes pc = .ok (.arraylength, 1)) (hp : pc + 1 = pc') : K pc' L (.int n.toInt32 :: rest) h cl sl := by
  subst hp
  obtain ⟨c', A, r1, r2, r3⟩ := F
  exact C.pure H fun p e s m args below meth c T locs X hx hby hZ hown eT t k => X.arraylength hx (by rw [eT]; exact A.1) (State.isArrayOf_alike hZ.alike A.2.1) (g := mkF m pc L (.ref a :: rest)) rfl rfl (hb hby d) t (by rw [r1]; exact k)

theorem k_iaload (C : Ctx l R n0 Z own bytes ml nm rt Q K O) {a : Addr} {j : Int32} (H : K pc L (.int j :: .ref a :: rest) h cl sl) {n : Nat} {f : Nat → Int32} (F : Ari Z h a .int n f) {i : Nat} (hj : j.toInt = i) (hi : i < n) (d : decode bytes pc = .ok (.iaload, 1)) (hp : pc + 1 = pc') : K pc' L (.int (f i) :: rest) h cl sl := by
  subst hp
  obtain ⟨c', A, r1, r2, r3⟩ := F
  exact C.pure H fun p e s m args below meth c T locs X hx hby hZ hown eT t k => X.iaload hx (by rw [eT]; exact A.1) (State.isArrayOf_alike hZ.alike A.2.1) A.2.2 (inb hj (r1.symm ▸ hi)) (by rw [toNatClampNeg_of hj]; exact r3 i hi) (g := mkF m pc L (.int j :: .ref a :: rest)) rfl rfl (hb hby d) t k
theorem k_baload (C : Ctx l R n0 Z own bytes ml nm rt Q K O) {a : Addr} {j : Int32} (H : K pc L (.int j :: .ref a :: rest) h cl sl) {n : Nat} {f : Nat → Int32} (F : Ari Z h a .byte n f) {i : Nat} (hj : j.toInt = i) (hi : i < n) (d : decode bytes pc = .ok (.baload, 1)) (hp : pc + 1 = pc') : K pc' L (.int (f i) :: rest) h cl sl := by
  subst hp
  obtain ⟨c', A, r1, r2, r3⟩ := F
  exact C.pure H fun p e s m args below meth c T locs X hx hby hZ hown eT t k => X.baloadBytes hx (by rw [eT]; exact A.1) (State.isArrayOf_alike hZ.alike A.2.1) A.2.2 (inb hj (r1.symm ▸ hi)) (by rw [toNatClampNeg_of hj]; exact r3 i hi) (g := mkF m pc L (.int j :: .ref a :: rest)) rfl rfl (hb hby d) t k
theorem k_caload (C : Ctx l R n0 Z own bytes ml nm rt Q K O) {a : Addr} {j : Int32} (H : K pc L (.int j :: .ref a :: rest) h cl sl) {n : Nat} {f : Nat → Int32} (F : Ari Z h a .char n f) {i : Nat} (hj : j.toInt = i) (hi : i < n) (d : decode bytes pc = .ok (.caload, 1)) (hp : pc + 1 = pc') : K pc' L (.int (f i) :: rest) h cl sl := by
  subst hp
  obtain ⟨c', A, r1, r2, r3⟩ := F
  exact C.pure H fun p e s m args below meth c T locs X hx hby hZ hown eT t k => X.caload hx (by rw [eT]; exact A.1) (State.isArrayOf_alike hZ.alike A.2.1) A.2.2 (inb hj (r1.symm ▸ hi)) (by rw [toNatClampNeg_of hj]; exact r3 i hi) (g := mkF m pc L (.int j :: .ref a :: rest)) rfl rfl (hb hby d) t k
theorem k_iastore (C : Ctx l R n0 Z own bytes ml nm rt Q K O) {a : Addr} {j x : Int32} (H : K pc L (.int x :: .int j :: .ref a :: rest) h cl sl) {n : Nat} {f : Nat → Int32} (F : Ari Z h a .int n f) {i : Nat} (hj : j.toInt = i) (hi : i < n) (g : n0 ≤ a) (d : decode bytes pc = .ok (.iastore, 1)) (hp : pc + 1 = pc') : ∃ h', Wr h h' a i (.int (x)) ∧ Ari Z h' a .int n (fun k => if k = i then x else f k) ∧ K pc' L rest h' cl sl := by
  subst hp
  have F0 := F
  obtain ⟨c', A, r1, r2, r3⟩ := F
  obtain ⟨p, e, s, m, args, below, meth, c, s1, f0, hx, hby, hZ, hown, hml, hnm, hrt, hlk, hK, hO⟩ := C
  obtain ⟨T, locs, X, eT, N, st⟩ := (hK _ _ _ _ _ _).mp H
  obtain ⟨T', h', X', e', W', st'⟩ := stI X hx hZ eT A (inb hj (r1.symm ▸ hi)) (g := mkF m pc L (.int x :: .int j :: .ref a :: rest)) rfl rfl (hb hby d)
  have N' := Fr.snoc X' N g
  rw [toNatClampNeg_of hj] at W'
  exact ⟨h', W', F0.set W', (hK _ _ _ _ _ _).mpr ⟨T', _, X', e', N', fun t k => st t (st' t k)⟩⟩
theorem k_bastore (C : Ctx l R n0 Z own bytes ml nm rt Q K O) {a : Addr} {j x : Int32} (H : K pc L (.int x :: .int j :: .ref a :: rest) h cl sl) {n : Nat} {f : Nat → Int32} (F : Ari Z h a .byte n f) {i : Nat} (hj : j.toInt = i) (hi : i < n) (g : n0 ≤ a) (d : decode bytes pc = .ok (.bastore, 1)) (hp : pc + 1 = pc') : ∃ h', Wr h h' a i (.int (nar .byte x)) ∧ Ari Z h' a .byte n (fun k => if k = i then nar .byte x else f k) ∧ K pc' L rest h' cl sl := by
  subst hp
  have F0 := F
  obtain ⟨c', A, r1, r2, r3⟩ := F
  obtain ⟨p, e, s, m, args, below, meth, c, s1, f0, hx, hby, hZ, hown, hml, hnm, hrt, hlk, hK, hO⟩ := C
  obtain ⟨T, locs, X, eT, N, st⟩ := (hK _ _ _ _ _ _).mp H
  obtain ⟨T', h', X', e', W', st'⟩ := stB X hx hZ eT A (inb hj (r1.symm ▸ hi)) (g := mkF m pc L (.int x :: .int j :: .ref a :: rest)) rfl rfl (hb hby d)
  have N' := Fr.snoc X' N g
  rw [toNatClampNeg_of hj] at W'
  exact ⟨h', W', F0.set W', (hK _ _ _ _ _ _).mpr ⟨T', _, X', e', N', fun t k => st t (st' t k)⟩⟩
theorem k_castore (C : Ctx l R n0 Z own bytes ml nm rt Q K O) {a : Addr} {j x : Int32} (H : K pc L (.int x :: .int j :: .ref a :: rest) h cl sl) {n : Nat} {f : Nat → Int32} (F : Ari Z h a .char n f) {i : Nat} (hj : j.toInt = i) (hi : i < n) (g : n0 ≤ a) (d : decode bytes pc = .ok (.castore, 1)) (hp : pc + 1 = pc') : ∃ h', Wr h h' a i (.int (nar .char x)) ∧ Ari Z h' a .char n (fun k => if k = i then nar .char x else f k) ∧ K pc' L rest h' cl sl := by
  subst hp
  have F0 := F
  obtain ⟨c', A, r1, r2, r3⟩ := F
  obtain ⟨p, e, s, m, args, below, meth, c, s1, f0, hx, hby, hZ, hown, hml, hnm, hrt, hlk, hK, hO⟩ := C
  obtain ⟨T, locs, X, eT, N, st⟩ := (hK _ _ _ _ _ _).mp H
  obtain ⟨T', h', X', e', W', st'⟩ := stC X hx hZ eT A (inb hj (r1.symm ▸ hi)) (g := mkF m pc L (.int x :: .int j :: .ref a :: rest)) rfl rfl (hb hby d)
  have N' := Fr.snoc X' N g
  rw [toNatClampNeg_of hj] at W'
  exact ⟨h', W', F0.set W', (hK _ _ _ _ _ _).mpr ⟨T', _, X', e', N', fun t k => st t (st' t k)⟩⟩
end ArrSteps
end Jvm.OwnK
namespace Jvm.Pilot.@@N@@
open Jvm Jvm.ClassFile Sem Op Lib Jvm.Free Jvm.Stand Jvm.LawKit Jvm.RoadKit Bundle Jvm.OwnK Jvm.Pilot.@@N@@.Jvm.D
def own_can (p1 : Int32) : Int32 := (if (255 : Int32) < p1 then (0 : Int32) else (1 : Int32))
theorem d1_0 : decode jdk_43_method_3_code 0 = .ok (.iload_n 0, 1) := by decide +kernel
theorem d1_1 : decode jdk_43_method_3_code 1 = .ok (.sipush 255, 3) := by decide +kernel
theorem d1_4 : decode jdk_43_method_3_code 4 = .ok (.if_icmp .gt 7, 3) := by decide +kernel
theorem d1_7 : decode jdk_43_method_3_code 7 = .ok (.iconst 1, 1) := by decide +kernel
theorem d1_8 : decode jdk_43_method_3_code 8 = .ok (.goto 4, 3) := by decide +kernel
theorem d1_11 : decode jdk_43_method_3_code 11 = .ok (.iconst 0, 1) := by decide +kernel
theorem d1_12 : decode jdk_43_method_3_code 12 = .ok (.ireturn, 1) := by decide +kernel
theorem pl_1 : plainFor (⟨"java/lang/StringLatin1", "canEncode", "(C)Z"⟩ : MethodName) = true := plainFor_of_name (by first | (simp [plainName, overriddenIn]; done) | decide +kernel)
theorem ef_1 (mm : MethodId) (p1 : Int32) : entryFrame mm #[(.int p1)] 1 = mkF mm 0 #[.val (.int p1)] [] := by first | (simp [entryFrame, mkF, argsToLocals, Value.category]; done) | rfl
set_option maxRecDepth 65536 in
set_option maxHeartbeats 40000000 in
theorem rm1 (l : Launch) (Z : State) (a0 : Array Value) (hw : ∀ d ∈ tables_1, d.before a0 Z = true) (p1 : Int32) (h0 : Heap) (n0 : Nat)  :
    Con l (⟨"java/lang/StringLatin1", "canEncode", "(C)Z"⟩ : MethodName) jdk_43_method_3_code 1 (some .boolean) ({ frames := 0, cells := 0, slots := 0, locals := 0 } : Room) Z #[(.int p1)] h0 n0 (fun o h => o = some (.int (own_can p1)) ∧ h0 = h) := by
  refine Con.enter pl_1 (fun mm => ef_1 mm p1) ?_
  intro K O C H
  replace H := k_iloadN C H d1_0 rfl (pc' := 1) rfl
  replace H := k_sipush C H (v := 255) d1_1 rfl (pc' := 4) rfl
  by_cases hc4 : (255 : Int32) < p1
  · replace H := k_icmpY C H d1_4 (tlt hc4).2.2.1 (by decide) (pc' := 11) rfl
    replace H := k_iconst C H (v := 0) d1_11 rfl (pc' := 12) rfl
    exact k_retZ C H d1_12 (by decide) (by decide) (by decide) ⟨by rw [own_can, if_pos hc4], rfl⟩
  · replace H := k_icmpN C H d1_4 (flt hc4).2.2.1 (pc' := 7) rfl
    replace H := k_iconst C H (v := 1) d1_7 rfl (pc' := 8) rfl
    replace H := k_goto C H d1_8 (by decide) (pc' := 12) rfl
    exact k_retZ C H d1_12 (by decide) (by decide) (by decide) ⟨by rw [own_can, if_neg hc4], rfl⟩
theorem d2_0 : decode jdk_43_method_46_code 0 = .ok (.iconst 1, 1) := by decide +kernel
theorem d2_1 : decode jdk_43_method_46_code 1 = .ok (.newarray .byte, 2) := by decide +kernel
theorem d2_3 : decode jdk_43_method_46_code 3 = .ok (.dup, 1) := by decide +kernel
theorem d2_4 : decode jdk_43_method_46_code 4 = .ok (.iconst 0, 1) := by decide +kernel
theorem d2_5 : decode jdk_43_method_46_code 5 = .ok (.iload_n 0, 1) := by decide +kernel
theorem d2_6 : decode jdk_43_method_46_code 6 = .ok (.i2b, 1) := by decide +kernel
theorem d2_7 : decode jdk_43_method_46_code 7 = .ok (.bastore, 1) := by decide +kernel
theorem d2_8 : decode jdk_43_method_46_code 8 = .ok (.areturn, 1) := by decide +kernel
theorem pl_2 : plainFor (⟨"java/lang/StringLatin1", "toBytes", "(C)[B"⟩ : MethodName) = true := plainFor_of_name (by first | (simp [plainName, overriddenIn]; done) | decide +kernel)
theorem ef_2 (mm : MethodId) (p1 : Int32) : entryFrame mm #[(.int p1)] 1 = mkF mm 0 #[.val (.int p1)] [] := by first | (simp [entryFrame, mkF, argsToLocals, Value.category]; done) | rfl
set_option maxRecDepth 65536 in
set_option maxHeartbeats 40000000 in
theorem rm2 (l : Launch) (Z : State) (a0 : Array Value) (hw : ∀ d ∈ tables_1, d.before a0 Z = true) (p1 : Int32) (h0 : Heap) (n0 : Nat) (Z0 : n0 ≤ h0.size) :
    Con l (⟨"java/lang/StringLatin1", "toBytes", "(C)[B"⟩ : MethodName) jdk_43_method_46_code 1 (some (.array .byte)) ({ frames := 0, cells := 1, slots := 1, locals := 0 } : Room) Z #[(.int p1)] h0 n0 (fun o h => ∃ b f, o = some (.ref b) ∧ b = h0.size ∧ Keep h0 h [] ∧ Ari Z h b .byte 1 f) := by
  refine Con.enter pl_2 (fun mm => ef_2 mm p1) ?_
  intro K O C H
  replace H := k_iconst C H (v := 1) d2_0 rfl (pc' := 1) rfl
  obtain ⟨h1, b, c_b, g_b, E_b, A_b, H⟩ := k_newArr C H (hw _ (List.mem_of_getElem? (i := 14) rfl)) d2_1 (by decide) (cap := 1) (by decide) (by decide) (by decide) (by decide) (pc' := 3) rfl
  replace H : K 3 #[.val (.int p1)] [(.ref b)] h1 1 1 := H
  have n_b : n0 ≤ b := Nat.le_trans Z0 (Nat.le_of_eq g_b.symm)
  have Z_b : n0 ≤ h1.size := Nat.le_trans Z0 E_b.1
  have A : Ari Z h1 b .byte 1 (fun _ => 0) := Ari.ofNew A_b (by decide) rfl
  replace H := k_dup C H d2_3 rfl (pc' := 4) rfl
  replace H := k_iconst C H (v := 0) d2_4 rfl (pc' := 5) rfl
  replace H := k_iloadN C H d2_5 rfl (pc' := 6) rfl
  replace H := k_i2b C H d2_6 (pc' := 7) rfl
  obtain ⟨h2, W, A, H⟩ := k_bastore C H A (i := 0) (by decide) (by decide) n_b d2_7 (pc' := 8) rfl
  have Z_h2 : n0 ≤ h2.size := by rw [W.size]; exact Z_b
  exact k_retA C H d2_8 rfl rfl (by decide) (by decide) ⟨b, _, rfl, g_b, ((Keep.refl h0 []).ext E_b).wr W (Or.inr (Nat.le_of_eq g_b.symm)), A⟩
theorem d3_0 : decode jdk_42_method_151_code 0 = .ok (.aload_n 0, 1) := by decide +kernel
theorem d3_1 : decode jdk_42_method_151_code 1 = .ok (.invokespecial 1, 3) := by decide +kernel
theorem d3_4 : decode jdk_42_method_151_code 4 = .ok (.aload_n 0, 1) := by decide +kernel
theorem d3_5 : decode jdk_42_method_151_code 5 = .ok (.aload_n 1, 1) := by decide +kernel
theorem d3_6 : decode jdk_42_method_151_code 6 = .ok (.putfield 9, 3) := by decide +kernel
theorem d3_9 : decode jdk_42_method_151_code 9 = .ok (.aload_n 0, 1) := by decide +kernel
theorem d3_10 : decode jdk_42_method_151_code 10 = .ok (.iload_n 2, 1) := by decide +kernel
theorem d3_11 : decode jdk_42_method_151_code 11 = .ok (.putfield 15, 3) := by decide +kernel
theorem d3_14 : decode jdk_42_method_151_code 14 = .ok (.return_, 1) := by decide +kernel
theorem pl_3 : plainFor (⟨"java/lang/String", "<init>", "([BB)V"⟩ : MethodName) = true := plainFor_of_name (by first | (simp [plainName, overriddenIn]; done) | decide +kernel)
theorem ef_3 (mm : MethodId) (a1 : Addr) (a2 : Addr) (p3 : Int32) : entryFrame mm #[(.ref a1), (.ref a2), (.int p3)] 3 = mkF mm 0 #[.val (.ref a1), .val (.ref a2), .val (.int p3)] [] := by first | (simp [entryFrame, mkF, argsToLocals, Value.category]; done) | rfl
set_option maxRecDepth 65536 in
set_option maxHeartbeats 40000000 in
theorem rm3 (l : Launch) (Z : State) (a0 : Array Value) (hw : ∀ d ∈ tables_1, d.before a0 Z = true) (a1 : Addr) (a2 : Addr) (p3 : Int32) (h0 : Heap) (n0 : Nat) (u1 u2 : Value) (E : Exa Z h0 a1 "java/lang/String") (Fv : Fld Z h0 a1 "java/lang/String" "value" "[B" u1) (Fc : Fld Z h0 a1 "java/lang/String" "coder" "B" u2) (g : n0 ≤ a1) :
    Con l (⟨"java/lang/String", "<init>", "([BB)V"⟩ : MethodName) jdk_42_method_151_code 3 none ({ frames := 1, cells := 0, slots := 0, locals := 12 } : Room) Z #[(.ref a1), (.ref a2), (.int p3)] h0 n0 (fun o h => o = none ∧ Keep h0 h [a1] ∧ Fld Z h a1 "java/lang/String" "value" "[B" (.ref a2)) := by
  refine Con.enter pl_3 (fun mm => ef_3 mm a1 a2 p3) ?_
  intro K O C H
  replace H := k_aloadN C H d3_0 rfl rfl (pc' := 1) rfl
  replace H := k_initObj C H (hw _ (List.mem_of_getElem? (i := 19) rfl)) (hw _ (List.mem_of_getElem? (i := 20) rfl)) (hw _ (List.mem_of_getElem? (i := 21) rfl)) d3_1 rfl (by decide) 0 rfl (by decide) (pc' := 4) rfl
  replace H := k_aloadN C H d3_4 rfl rfl (pc' := 5) rfl
  replace H := k_aloadN C H d3_5 rfl rfl (pc' := 6) rfl
  obtain ⟨h1, W1, H⟩ := k_putFld C H (hw _ (List.mem_of_getElem? (i := 22) rfl)) Fv E (Or.inr ⟨(hw _ (List.mem_of_getElem? (i := 23) rfl)), rfl, rfl⟩) (hw _ (List.mem_of_getElem? (i := 10) rfl)) (ty := (.array .byte)) (by decide) (v' := (.ref a2)) rfl rfl g d3_6 (pc' := 9) rfl
  replace Fv := Fv.same W1
  replace Fc := Fc.other W1 (Or.inr (slot_ne (Or.inr (hw _ (List.mem_of_getElem? (i := 25) rfl))) (Or.inr (hw _ (List.mem_of_getElem? (i := 23) rfl))) (by decide) (t := .byte) (t' := (.array .byte)) (by decide) (by decide)))
  replace H := k_aloadN C H d3_9 rfl rfl (pc' := 10) rfl
  replace H := k_iloadN C H d3_10 rfl (pc' := 11) rfl
  obtain ⟨h2, W2, H⟩ := k_putFld C H (hw _ (List.mem_of_getElem? (i := 24) rfl)) Fc (E.wr W1) (Or.inr ⟨(hw _ (List.mem_of_getElem? (i := 25) rfl)), rfl, rfl⟩) (hw _ (List.mem_of_getElem? (i := 10) rfl)) (ty := .byte) (by decide) (v' := (.int p3.toInt8.toInt32)) rfl (fits_nar_byte p3) g d3_11 (pc' := 14) rfl
  replace Fv := Fv.other W2 (Or.inr (slot_ne (Or.inr (hw _ (List.mem_of_getElem? (i := 23) rfl))) (Or.inr (hw _ (List.mem_of_getElem? (i := 25) rfl))) (by decide) (t := (.array .byte)) (t' := .byte) (by decide) (by decide)))
  exact k_retV C H d3_14 (by decide) (by decide) ⟨rfl, (Keep.of_wr W1).wr W2 (Or.inl (List.mem_of_getElem? (i := 0) rfl)), Fv⟩
theorem d4_0 : decode jdk_42_method_139_code 0 = .ok (.getstatic 38, 3) := by decide +kernel
theorem d4_3 : decode jdk_42_method_139_code 3 = .ok (.ifCond .eq 23, 3) := by decide +kernel
theorem d4_6 : decode jdk_42_method_139_code 6 = .ok (.iload_n 0, 1) := by decide +kernel
theorem d4_7 : decode jdk_42_method_139_code 7 = .ok (.invokestatic 1015, 3) := by decide +kernel
theorem d4_10 : decode jdk_42_method_139_code 10 = .ok (.ifCond .eq 16, 3) := by decide +kernel
theorem d4_13 : decode jdk_42_method_139_code 13 = .ok (.new 10, 3) := by decide +kernel
theorem d4_16 : decode jdk_42_method_139_code 16 = .ok (.dup, 1) := by decide +kernel
theorem d4_17 : decode jdk_42_method_139_code 17 = .ok (.iload_n 0, 1) := by decide +kernel
theorem d4_18 : decode jdk_42_method_139_code 18 = .ok (.invokestatic 1018, 3) := by decide +kernel
theorem d4_21 : decode jdk_42_method_139_code 21 = .ok (.iconst 0, 1) := by decide +kernel
theorem d4_22 : decode jdk_42_method_139_code 22 = .ok (.invokespecial 209, 3) := by decide +kernel
theorem d4_25 : decode jdk_42_method_139_code 25 = .ok (.areturn, 1) := by decide +kernel
theorem pd4_0 : parseMethodDescriptor "(C)Z" = some ⟨[.char], some .boolean⟩ := by decide +kernel
theorem pd4_1 : parseMethodDescriptor "(C)[B" = some ⟨[.char], some (.array .byte)⟩ := by decide +kernel
theorem pd4_2 : parseMethodDescriptor "([BB)V" = some ⟨[(.array .byte), .byte], none⟩ := by decide +kernel
theorem pl_4 : plainFor (⟨"java/lang/String", "valueOf", "(C)Ljava/lang/String;"⟩ : MethodName) = true := plainFor_of_name (by first | (simp [plainName, overriddenIn]; done) | decide +kernel)
theorem ef_4 (mm : MethodId) (p1 : Int32) : entryFrame mm #[(.int p1)] 1 = mkF mm 0 #[.val (.int p1)] [] := by first | (simp [entryFrame, mkF, argsToLocals, Value.category]; done) | rfl
set_option maxRecDepth 65536 in
set_option maxHeartbeats 40000000 in
theorem rm4 (l : Launch) (Z : State) (a0 : Array Value) (hw : ∀ d ∈ tables_1, d.before a0 Z = true) (p1 : Int32) (h0 : Heap) (n0 : Nat) (cs : Int32) (S : Sta Z h0 "java/lang/String" "COMPACT_STRINGS" "Z" (.int cs)) (hcs : ¬ cs = 0) (hp : ¬ own_can p1 = 0) (Z0 : n0 ≤ h0.size) :
    Con l (⟨"java/lang/String", "valueOf", "(C)Ljava/lang/String;"⟩ : MethodName) jdk_42_method_139_code 1 (some (.object "java/lang/String")) ({ frames := 2, cells := 2, slots := 5, locals := 27 } : Room) Z #[(.int p1)] h0 n0 (fun o h => ∃ b a f, o = some (.ref b) ∧ h0.size ≤ b ∧ h0.size ≤ a ∧ Keep h0 h [] ∧ Exa Z h b "java/lang/String" ∧ Fld Z h b "java/lang/String" "value" "[B" (.ref a) ∧ Ari Z h a .byte 1 f) := by
  refine Con.enter pl_4 (fun mm => ef_4 mm p1) ?_
  intro K O C H
  replace H := k_getSta C H (hw _ (List.mem_of_getElem? (i := 4) rfl)) S d4_0 (pc' := 3) rfl
  replace H := k_ifcN C H d4_3 (feq hcs).1 (pc' := 6) rfl
  replace H := k_iloadN C H d4_6 rfl (pc' := 7) rfl
  obtain ⟨_, _, ⟨rfl, rfl⟩, H⟩ := k_callSta C H (rm1 l Z a0 hw p1 h0 n0) (hw _ (List.mem_of_getElem? (i := 5) rfl)) (hw _ (List.mem_of_getElem? (i := 6) rfl)) (hw _ (List.mem_of_getElem? (i := 7) rfl)) (hw _ (List.mem_of_getElem? (i := 8) rfl)) (by decide) d4_7 rfl [(.int p1)] [] pd4_0 rfl rfl rfl 0 rfl (by decide) (by decide) (by decide) (by decide) (pc' := 10) rfl
  replace H : K 10 #[.val (.int p1)] [(.int (own_can p1))] h0 0 0 := H
  replace H := k_ifcN C H d4_10 (feq hp).1 (pc' := 13) rfl
  obtain ⟨h1, b, g_b, E_b, X_b, D_b, H⟩ := k_newObj C H (hw _ (List.mem_of_getElem? (i := 9) rfl)) (hw _ (List.mem_of_getElem? (i := 10) rfl)) (hw _ (List.mem_of_getElem? (i := 2) rfl)) d4_13 (by decide) (by decide) (pc' := 16) rfl
  replace H : K 16 #[.val (.int p1)] [(.ref b)] h1 1 4 := H
  have n_b : n0 ≤ b := Nat.le_trans Z0 (Nat.le_of_eq g_b.symm)
  have Z_b : n0 ≤ h1.size := Nat.le_trans Z0 E_b.1
  have F_b_value : Fld Z h1 b "java/lang/String" "value" "[B" .null := D_b (Or.inr (hw _ (List.mem_of_getElem? (i := 23) rfl))) (ty := (.array .byte)) (by decide)
  have F_b_coder : Fld Z h1 b "java/lang/String" "coder" "B" (.int (0 : Int32)) := D_b (Or.inr (hw _ (List.mem_of_getElem? (i := 25) rfl))) (ty := .byte) (by decide)
  replace H := k_dup C H d4_16 rfl (pc' := 17) rfl
  replace H := k_iloadN C H d4_17 rfl (pc' := 18) rfl
  have xb_lt : b < h1.size := X_b.lt
  obtain ⟨_, h2, ⟨a, f, rfl, e_a, K2, A⟩, H⟩ := k_callSta C H (rm2 l Z a0 hw p1 h1 n0 Z_b) (hw _ (List.mem_of_getElem? (i := 11) rfl)) (hw _ (List.mem_of_getElem? (i := 12) rfl)) (hw _ (List.mem_of_getElem? (i := 7) rfl)) (hw _ (List.mem_of_getElem? (i := 13) rfl)) (by decide) d4_18 rfl [(.int p1)] [(.ref b), (.ref b)] pd4_1 rfl rfl rfl 2 rfl (by decide) (by decide) (by decide) (by decide) (pc' := 21) rfl
  replace H : K 21 #[.val (.int p1)] [(.ref a), (.ref b), (.ref b)] h2 2 5 := H
  replace X_b := X_b.keep K2
  replace F_b_value := F_b_value.keep K2 nin0
  replace F_b_coder := F_b_coder.keep K2 nin0
  replace H := k_iconst C H (v := 0) d4_21 rfl (pc' := 22) rfl
  obtain ⟨_, h3, ⟨rfl, K3, F3⟩, H⟩ := k_callCon C H (rm3 l Z a0 hw b a (0 : Int32) h2 n0 _ _ X_b F_b_value F_b_coder n_b) rfl (hw _ (List.mem_of_getElem? (i := 15) rfl)) (hw _ (List.mem_of_getElem? (i := 16) rfl)) (hw _ (List.mem_of_getElem? (i := 2) rfl)) (hw _ (List.mem_of_getElem? (i := 18) rfl)) (by decide) d4_22 rfl b [(.ref a), (.int (0 : Int32))] [(.ref b)] pd4_2 rfl rfl rfl 1 rfl (by decide) (by decide) (by decide) (by decide) (pc' := 25) rfl
  replace H : K 25 #[.val (.int p1)] [(.ref b)] h3 2 5 := H
  exact k_retA C H d4_25 rfl rfl (by decide) (by decide) ⟨b, a, f, rfl, Nat.le_of_eq g_b.symm, Nat.le_trans E_b.1 (Nat.le_of_eq e_a.symm), (((Keep.refl h0 []).ext E_b).trans K2 (fun x hx => nomatch hx)).trans K3 (allS (Or.inr (Nat.le_of_eq g_b.symm)) all0), X_b.keep K3, F3, A.keep K3 (ninS (Nat.ne_of_gt (Nat.lt_of_lt_of_le xb_lt (Nat.le_of_eq e_a.symm))) nin0)⟩
theorem d5_0 : decode jdk_42_method_55_code 0 = .ok (.aload_n 0, 1) := by decide +kernel
theorem d5_1 : decode jdk_42_method_55_code 1 = .ok (.getfield 9, 3) := by decide +kernel
theorem d5_4 : decode jdk_42_method_55_code 4 = .ok (.arraylength, 1) := by decide +kernel
theorem d5_5 : decode jdk_42_method_55_code 5 = .ok (.ifCond .ne 7, 3) := by decide +kernel
theorem d5_12 : decode jdk_42_method_55_code 12 = .ok (.iconst 0, 1) := by decide +kernel
theorem d5_13 : decode jdk_42_method_55_code 13 = .ok (.ireturn, 1) := by decide +kernel
theorem pl_5 : plainFor (⟨"java/lang/String", "isEmpty", "()Z"⟩ : MethodName) = true := plainFor_of_name (by first | (simp [plainName, overriddenIn]; done) | decide +kernel)
theorem ef_5 (mm : MethodId) (a1 : Addr) : entryFrame mm #[(.ref a1)] 1 = mkF mm 0 #[.val (.ref a1)] [] := by first | (simp [entryFrame, mkF, argsToLocals, Value.category]; done) | rfl
set_option maxRecDepth 65536 in
set_option maxHeartbeats 40000000 in
theorem rm5 (l : Launch) (Z : State) (a0 : Array Value) (hw : ∀ d ∈ tables_1, d.before a0 Z = true) (a1 : Addr) (h0 : Heap) (n0 : Nat) (a2 : Addr) (f : Nat → Int32) (F : Fld Z h0 a1 "java/lang/String" "value" "[B" (.ref a2)) (A : Ari Z h0 a2 .byte 1 f) :
    Con l (⟨"java/lang/String", "isEmpty", "()Z"⟩ : MethodName) jdk_42_method_55_code 1 (some .boolean) ({ frames := 0, cells := 0, slots := 0, locals := 0 } : Room) Z #[(.ref a1)] h0 n0 (fun o h => o = some (.int 0) ∧ h0 = h) := by
  refine Con.enter pl_5 (fun mm => ef_5 mm a1) ?_
  intro K O C H
  replace H := k_aloadN C H d5_0 rfl rfl (pc' := 1) rfl
  replace H := k_getFld C H (hw _ (List.mem_of_getElem? (i := 22) rfl)) F d5_1 (pc' := 4) rfl
  replace H := k_arrlen C H A d5_4 (pc' := 5) rfl
  replace H : K 5 #[.val (.ref a1)] [(.int (1 : Int32))] h0 0 0 := H
  replace H := k_ifcY C H d5_5 (feq (by decide : ¬ (1 : Int32) = 0)).2 (by decide) (pc' := 12) rfl
  replace H := k_iconst C H (v := 0) d5_12 rfl (pc' := 13) rfl
  exact k_retZ C H d5_13 (by decide) (by decide) (by decide) ⟨rfl, rfl⟩
theorem d6_0 : decode prog_21_method_1_code 0 = .ok (.aload_n 0, 1) := by decide +kernel
theorem d6_1 : decode prog_21_method_1_code 1 = .ok (.invokespecial 1, 3) := by decide +kernel
theorem d6_4 : decode prog_21_method_1_code 4 = .ok (.aload_n 1, 1) := by decide +kernel
theorem d6_5 : decode prog_21_method_1_code 5 = .ok (.invokevirtual 7, 3) := by decide +kernel
theorem d6_8 : decode prog_21_method_1_code 8 = .ok (.ifCond .ne 10, 3) := by decide +kernel
theorem d6_11 : decode prog_21_method_1_code 11 = .ok (.aload_n 2, 1) := by decide +kernel
theorem d6_12 : decode prog_21_method_1_code 12 = .ok (.invokevirtual 7, 3) := by decide +kernel
theorem d6_15 : decode prog_21_method_1_code 15 = .ok (.ifCond .eq 13, 3) := by decide +kernel
theorem d6_28 : decode prog_21_method_1_code 28 = .ok (.aload_n 0, 1) := by decide +kernel
theorem d6_29 : decode prog_21_method_1_code 29 = .ok (.aload_n 1, 1) := by decide +kernel
theorem d6_30 : decode prog_21_method_1_code 30 = .ok (.putfield 20, 3) := by decide +kernel
theorem d6_33 : decode prog_21_method_1_code 33 = .ok (.aload_n 0, 1) := by decide +kernel
theorem d6_34 : decode prog_21_method_1_code 34 = .ok (.aload_n 2, 1) := by decide +kernel
theorem d6_35 : decode prog_21_method_1_code 35 = .ok (.putfield 26, 3) := by decide +kernel
theorem d6_38 : decode prog_21_method_1_code 38 = .ok (.aload_n 0, 1) := by decide +kernel
theorem d6_39 : decode prog_21_method_1_code 39 = .ok (.iload_n 3, 1) := by decide +kernel
theorem d6_40 : decode prog_21_method_1_code 40 = .ok (.putfield 29, 3) := by decide +kernel
theorem d6_43 : decode prog_21_method_1_code 43 = .ok (.return_, 1) := by decide +kernel
theorem pd6_0 : parseMethodDescriptor "()Z" = some ⟨[], some .boolean⟩ := by decide +kernel
theorem pl_6 : plainFor (⟨"com/example/verlap/verlap/format/Judgment", "<init>", "(Ljava/lang/String;Ljava/lang/String;I)V"⟩ : MethodName) = true := plainFor_of_name (by first | (simp [plainName, overriddenIn]; done) | decide +kernel)
theorem ef_6 (mm : MethodId) (a1 : Addr) (a2 : Addr) (a3 : Addr) (p4 : Int32) : entryFrame mm #[(.ref a1), (.ref a2), (.ref a3), (.int p4)] 4 = mkF mm 0 #[.val (.ref a1), .val (.ref a2), .val (.ref a3), .val (.int p4)] [] := by first | (simp [entryFrame, mkF, argsToLocals, Value.category]; done) | rfl
set_option maxRecDepth 65536 in
set_option maxHeartbeats 40000000 in
theorem rm6 (l : Launch) (Z : State) (a0 : Array Value) (hw : ∀ d ∈ tables_1, d.before a0 Z = true) (a1 : Addr) (a2 : Addr) (a3 : Addr) (p4 : Int32) (h0 : Heap) (n0 : Nat) (c2 : Addr) (f2 : Nat → Int32) (X2 : Exa Z h0 a2 "java/lang/String") (V2 : Fld Z h0 a2 "java/lang/String" "value" "[B" (.ref c2)) (A2 : Ari Z h0 c2 .byte 1 f2) (c3 : Addr) (f3 : Nat → Int32) (X3 : Exa Z h0 a3 "java/lang/String") (V3 : Fld Z h0 a3 "java/lang/String" "value" "[B" (.ref c3)) (A3 : Ari Z h0 c3 .byte 1 f3) (u1 u2 u3 : Value) (E : Exa Z h0 a1 "com/example/verlap/verlap/format/Judgment") (F_topic : Fld Z h0 a1 "com/example/verlap/verlap/format/Judgment" "topic" "Ljava/lang/String;" u1) (F_docno : Fld Z h0 a1 "com/example/verlap/verlap/format/Judgment" "docno" "Ljava/lang/String;" u2) (F_relevance : Fld Z h0 a1 "com/example/verlap/verlap/format/Judgment" "relevance" "I" u3) (g : n0 ≤ a1) :
    Con l (⟨"com/example/verlap/verlap/format/Judgment", "<init>", "(Ljava/lang/String;Ljava/lang/String;I)V"⟩ : MethodName) prog_21_method_1_code 4 none ({ frames := 1, cells := 0, slots := 0, locals := 12 } : Room) Z #[(.ref a1), (.ref a2), (.ref a3), (.int p4)] h0 n0 (fun o h => o = none ∧ Keep h0 h [a1] ∧ Fld Z h a1 "com/example/verlap/verlap/format/Judgment" "relevance" "I" (.int p4)) := by
  refine Con.enter pl_6 (fun mm => ef_6 mm a1 a2 a3 p4) ?_
  intro K O C H
  replace H := k_aloadN C H d6_0 rfl rfl (pc' := 1) rfl
  replace H := k_initObj C H (hw _ (List.mem_of_getElem? (i := 32) rfl)) (hw _ (List.mem_of_getElem? (i := 20) rfl)) (hw _ (List.mem_of_getElem? (i := 21) rfl)) d6_1 rfl (by decide) 0 rfl (by decide) (pc' := 4) rfl
  replace H := k_aloadN C H d6_4 rfl rfl (pc' := 5) rfl
  obtain ⟨_, _, ⟨rfl, rfl⟩, H⟩ := k_callVir C H (rm5 l Z a0 hw a2 h0 n0 c2 f2 V2 A2) X2 (hw _ (List.mem_of_getElem? (i := 33) rfl)) (hw _ (List.mem_of_getElem? (i := 34) rfl)) (hw _ (List.mem_of_getElem? (i := 36) rfl)) (hw _ (List.mem_of_getElem? (i := 35) rfl)) (hw _ (List.mem_of_getElem? (i := 2) rfl)) (hw _ (List.mem_of_getElem? (i := 37) rfl)) (by decide) d6_5 rfl [] [] pd6_0 rfl rfl rfl 0 rfl (by decide) (by decide) (by decide) (by decide) (pc' := 8) rfl
  replace H : K 8 #[.val (.ref a1), .val (.ref a2), .val (.ref a3), .val (.int p4)] [(.int (0 : Int32))] h0 0 0 := H
  replace H := k_ifcN C H d6_8 (teq (rfl : (0 : Int32) = 0)).2 (pc' := 11) rfl
  replace H := k_aloadN C H d6_11 rfl rfl (pc' := 12) rfl
  obtain ⟨_, _, ⟨rfl, rfl⟩, H⟩ := k_callVir C H (rm5 l Z a0 hw a3 h0 n0 c3 f3 V3 A3) X3 (hw _ (List.mem_of_getElem? (i := 33) rfl)) (hw _ (List.mem_of_getElem? (i := 34) rfl)) (hw _ (List.mem_of_getElem? (i := 36) rfl)) (hw _ (List.mem_of_getElem? (i := 35) rfl)) (hw _ (List.mem_of_getElem? (i := 2) rfl)) (hw _ (List.mem_of_getElem? (i := 37) rfl)) (by decide) d6_12 rfl [] [] pd6_0 rfl rfl rfl 0 rfl (by decide) (by decide) (by decide) (by decide) (pc' := 15) rfl
  replace H : K 15 #[.val (.ref a1), .val (.ref a2), .val (.ref a3), .val (.int p4)] [(.int (0 : Int32))] h0 0 0 := H
  replace H := k_ifcY C H d6_15 (teq (rfl : (0 : Int32) = 0)).1 (by decide) (pc' := 28) rfl
  replace H := k_aloadN C H d6_28 rfl rfl (pc' := 29) rfl
  replace H := k_aloadN C H d6_29 rfl rfl (pc' := 30) rfl
  obtain ⟨h1, W1, H⟩ := k_putFld C H (hw _ (List.mem_of_getElem? (i := 38) rfl)) F_topic E (Or.inr ⟨(hw _ (List.mem_of_getElem? (i := 39) rfl)), rfl, rfl⟩) (hw _ (List.mem_of_getElem? (i := 27) rfl)) (ty := (.object "java/lang/String")) (by decide) (v' := (.ref a2)) rfl rfl g d6_30 (pc' := 33) rfl
  replace F_topic := F_topic.same W1
  replace F_docno := F_docno.other W1 (Or.inr (slot_ne (Or.inr (hw _ (List.mem_of_getElem? (i := 41) rfl))) (Or.inr (hw _ (List.mem_of_getElem? (i := 39) rfl))) (by decide) (t := (.object "java/lang/String")) (t' := (.object "java/lang/String")) (by decide) (by decide)))
  replace F_relevance := F_relevance.other W1 (Or.inr (slot_ne (Or.inr (hw _ (List.mem_of_getElem? (i := 43) rfl))) (Or.inr (hw _ (List.mem_of_getElem? (i := 39) rfl))) (by decide) (t := .int) (t' := (.object "java/lang/String")) (by decide) (by decide)))
  replace H := k_aloadN C H d6_33 rfl rfl (pc' := 34) rfl
  replace H := k_aloadN C H d6_34 rfl rfl (pc' := 35) rfl
  obtain ⟨h2, W2, H⟩ := k_putFld C H (hw _ (List.mem_of_getElem? (i := 40) rfl)) F_docno (E.wr W1) (Or.inr ⟨(hw _ (List.mem_of_getElem? (i := 41) rfl)), rfl, rfl⟩) (hw _ (List.mem_of_getElem? (i := 27) rfl)) (ty := (.object "java/lang/String")) (by decide) (v' := (.ref a3)) rfl rfl g d6_35 (pc' := 38) rfl
  replace F_docno := F_docno.same W2
  replace F_topic := F_topic.other W2 (Or.inr (slot_ne (Or.inr (hw _ (List.mem_of_getElem? (i := 39) rfl))) (Or.inr (hw _ (List.mem_of_getElem? (i := 41) rfl))) (by decide) (t := (.object "java/lang/String")) (t' := (.object "java/lang/String")) (by decide) (by decide)))
  replace F_relevance := F_relevance.other W2 (Or.inr (slot_ne (Or.inr (hw _ (List.mem_of_getElem? (i := 43) rfl))) (Or.inr (hw _ (List.mem_of_getElem? (i := 41) rfl))) (by decide) (t := .int) (t' := (.object "java/lang/String")) (by decide) (by decide)))
  replace H := k_aloadN C H d6_38 rfl rfl (pc' := 39) rfl
  replace H := k_iloadN C H d6_39 rfl (pc' := 40) rfl
  obtain ⟨h3, W3, H⟩ := k_putFld C H (hw _ (List.mem_of_getElem? (i := 42) rfl)) F_relevance ((E.wr W1).wr W2) (Or.inr ⟨(hw _ (List.mem_of_getElem? (i := 43) rfl)), rfl, rfl⟩) (hw _ (List.mem_of_getElem? (i := 27) rfl)) (ty := .int) (by decide) (v' := (.int p4)) rfl rfl g d6_40 (pc' := 43) rfl
  replace F_relevance := F_relevance.same W3
  replace F_topic := F_topic.other W3 (Or.inr (slot_ne (Or.inr (hw _ (List.mem_of_getElem? (i := 39) rfl))) (Or.inr (hw _ (List.mem_of_getElem? (i := 43) rfl))) (by decide) (t := (.object "java/lang/String")) (t' := .int) (by decide) (by decide)))
  replace F_docno := F_docno.other W3 (Or.inr (slot_ne (Or.inr (hw _ (List.mem_of_getElem? (i := 41) rfl))) (Or.inr (hw _ (List.mem_of_getElem? (i := 43) rfl))) (by decide) (t := (.object "java/lang/String")) (t' := .int) (by decide) (by decide)))
  exact k_retV C H d6_43 (by decide) (by decide) ⟨rfl, ((Keep.of_wr W1).wr W2 (Or.inl (List.mem_of_getElem? (i := 0) rfl))).wr W3 (Or.inl (List.mem_of_getElem? (i := 0) rfl)), F_relevance⟩
def own_rel (v : Int32) : Int32 := (if (0 : Int32) < v then (1 : Int32) else (0 : Int32))
theorem d7_0 : decode prog_21_method_5_code 0 = .ok (.aload_n 0, 1) := by decide +kernel
theorem d7_1 : decode prog_21_method_5_code 1 = .ok (.getfield 29, 3) := by decide +kernel
theorem d7_4 : decode prog_21_method_5_code 4 = .ok (.ifCond .le 7, 3) := by decide +kernel
theorem d7_7 : decode prog_21_method_5_code 7 = .ok (.iconst 1, 1) := by decide +kernel
theorem d7_8 : decode prog_21_method_5_code 8 = .ok (.goto 4, 3) := by decide +kernel
theorem d7_11 : decode prog_21_method_5_code 11 = .ok (.iconst 0, 1) := by decide +kernel
theorem d7_12 : decode prog_21_method_5_code 12 = .ok (.ireturn, 1) := by decide +kernel
theorem pl_7 : plainFor (⟨"com/example/verlap/verlap/format/Judgment", "isRelevant", "()Z"⟩ : MethodName) = true := plainFor_of_name (by first | (simp [plainName, overriddenIn]; done) | decide +kernel)
theorem ef_7 (mm : MethodId) (a1 : Addr) : entryFrame mm #[(.ref a1)] 1 = mkF mm 0 #[.val (.ref a1)] [] := by first | (simp [entryFrame, mkF, argsToLocals, Value.category]; done) | rfl
set_option maxRecDepth 65536 in
set_option maxHeartbeats 40000000 in
theorem rm7 (l : Launch) (Z : State) (a0 : Array Value) (hw : ∀ d ∈ tables_1, d.before a0 Z = true) (a1 : Addr) (h0 : Heap) (n0 : Nat) (v : Int32) (F : Fld Z h0 a1 "com/example/verlap/verlap/format/Judgment" "relevance" "I" (.int v)) :
    Con l (⟨"com/example/verlap/verlap/format/Judgment", "isRelevant", "()Z"⟩ : MethodName) prog_21_method_5_code 1 (some .boolean) ({ frames := 0, cells := 0, slots := 0, locals := 0 } : Room) Z #[(.ref a1)] h0 n0 (fun o h => o = some (.int (own_rel v)) ∧ h0 = h) := by
  refine Con.enter pl_7 (fun mm => ef_7 mm a1) ?_
  intro K O C H
  replace H := k_aloadN C H d7_0 rfl rfl (pc' := 1) rfl
  replace H := k_getFld C H (hw _ (List.mem_of_getElem? (i := 42) rfl)) F d7_1 (pc' := 4) rfl
  by_cases hc4 : (0 : Int32) < v
  · replace H := k_ifcN C H d7_4 (tlt hc4).2.2.2 (pc' := 7) rfl
    replace H := k_iconst C H (v := 1) d7_7 rfl (pc' := 8) rfl
    replace H := k_goto C H d7_8 (by decide) (pc' := 12) rfl
    exact k_retZ C H d7_12 (by decide) (by decide) (by decide) ⟨by rw [own_rel, if_pos hc4], rfl⟩
  · replace H := k_ifcY C H d7_4 (flt hc4).2.2.2 (by decide) (pc' := 11) rfl
    replace H := k_iconst C H (v := 0) d7_11 rfl (pc' := 12) rfl
    exact k_retZ C H d7_12 (by decide) (by decide) (by decide) ⟨by rw [own_rel, if_neg hc4], rfl⟩
theorem own_ok (y : Int32) : ¬ own_can ((y &&& (255 : Int32)).toUInt32.toUInt16.toUInt32.toInt32) = 0 := by
  rw [i2c_mask, own_can]
  have a := c_and y 255 (by decide)
  have k : (255 : Int32).toInt = 255 := by decide
  have q : ¬ (255 : Int32) < y &&& 255 := by rw [Int32.lt_iff_toInt_lt]; omega
  rw [if_neg q]; decide
theorem own_mon (r1 r2 : Int32) (h : ¬ r2 < r1) (a : ¬ own_rel r1 = 0) : ¬ own_rel r2 = 0 := by
  rw [own_rel] at a ⊢
  have z : (0 : Int32).toInt = 0 := by decide
  by_cases p : (0 : Int32) < r1
  · have q : (0 : Int32) < r2 := by rw [Int32.lt_iff_toInt_lt] at *; omega
    rw [if_pos q]; decide
  · rw [if_neg p] at a; exact absurd rfl a
theorem own_ext {h h' : Heap} (K : Keep h h' []) : Ext h h' := ⟨K.1, fun a c q => K.2.1 a c q nin0⟩
theorem pd0_0 : parseMethodDescriptor "(C)Ljava/lang/String;" = some ⟨[.char], some (.object "java/lang/String")⟩ := by decide +kernel
theorem pd0_1 : parseMethodDescriptor "(Ljava/lang/String;Ljava/lang/String;I)V" = some ⟨[(.object "java/lang/String"), (.object "java/lang/String"), .int], none⟩ := by decide +kernel
theorem pd0_2 : parseMethodDescriptor "()Z" = some ⟨[], some .boolean⟩ := by decide +kernel
theorem pl_0 : plainFor x = true := plainFor_of_name (by first | (simp [plainName, overriddenIn]; done) | decide +kernel)
theorem ef_0 (mm : MethodId) (x0 : Int32) (x1 : Int32) (x2 : Int32) : entryFrame mm #[(.int x0), (.int x1), (.int x2)] maxLocals = mkF mm 0 #[.val (.int x0), .val (.int x1), .val (.int x2), .unset, .unset, .unset, .unset, .unset, .unset] [] := by first | (simp [entryFrame, mkF, argsToLocals, Value.category, maxLocals]; done) | rfl
set_option maxRecDepth 65536 in
set_option maxHeartbeats 40000000 in
theorem rm0 (l : Launch) (Z : State) (a0 : Array Value) (hw : ∀ d ∈ tables_1, d.before a0 Z = true) (x0 : Int32) (x1 : Int32) (x2 : Int32) (h0 : Heap) (n0 : Nat) (cs : Int32) (S : Sta Z h0 "java/lang/String" "COMPACT_STRINGS" "Z" (.int cs)) (hcs : ¬ cs = 0) (Z0 : n0 ≤ h0.size) :
    Con l x code maxLocals ret room_1 Z #[(.int x0), (.int x1), (.int x2)] h0 n0 (fun o h => o = some (.int 1)) := by
  refine Con.enter pl_0 (fun mm => ef_0 mm x0 x1 x2) ?_
  intro K O C H
  replace H := k_iloadN C H at_0 rfl (pc' := 1) rfl
  replace H := k_sipush C H (v := 255) at_1 rfl (pc' := 4) rfl
  replace H := k_iand C H at_4 (pc' := 5) rfl
  replace H := k_i2c C H at_5 (pc' := 6) rfl
  obtain ⟨_, h1, ⟨bt, vt, ft, rfl, gb_t, ga_t, K_t, X_t, V_t, A_t⟩, H⟩ := k_callSta C H (rm4 l Z a0 hw (x2 &&& (255 : Int32)).toUInt32.toUInt16.toUInt32.toInt32 h0 n0 cs S hcs (own_ok x2) Z0) (hw _ (List.mem_of_getElem? (i := 0) rfl)) (hw _ (List.mem_of_getElem? (i := 1) rfl)) (hw _ (List.mem_of_getElem? (i := 2) rfl)) (hw _ (List.mem_of_getElem? (i := 3) rfl)) (by decide) at_6 rfl [(.int (x2 &&& (255 : Int32)).toUInt32.toUInt16.toUInt32.toInt32)] [] pd0_0 rfl rfl rfl 0 rfl (by decide) (by decide) (by decide) (by decide) (pc' := 9) rfl
  replace H : K 9 #[.val (.int x0), .val (.int x1), .val (.int x2), .unset, .unset, .unset, .unset, .unset, .unset] [(.ref bt)] h1 2 5 := H
  have S' := S.ext (own_ext K_t)
  have Z_t : n0 ≤ h1.size := Nat.le_trans Z0 K_t.1
  replace H := k_astoreN C H at_9 (L' := #[.val (.int x0), .val (.int x1), .val (.int x2), .val (.ref bt), .unset, .unset, .unset, .unset, .unset]) rfl rfl (pc' := 10) rfl
  replace H := k_iloadN C H at_10 rfl (pc' := 11) rfl
  replace H := k_bipush C H (v := 8) at_11 rfl (pc' := 13) rfl
  replace H := k_iushr C H at_13 (pc' := 14) rfl
  replace H := k_sipush C H (v := 255) at_14 rfl (pc' := 17) rfl
  replace H := k_iand C H at_17 (pc' := 18) rfl
  replace H := k_i2c C H at_18 (pc' := 19) rfl
  obtain ⟨_, h2, ⟨bd, vd, fd, rfl, gb_d, ga_d, K_d, X_d, V_d, A_d⟩, H⟩ := k_callSta C H (rm4 l Z a0 hw ((x2.toUInt32 >>> ((8 : Int32) &&& 31).toUInt32).toInt32 &&& (255 : Int32)).toUInt32.toUInt16.toUInt32.toInt32 h1 n0 cs S' hcs (own_ok ((x2.toUInt32 >>> ((8 : Int32) &&& 31).toUInt32).toInt32)) Z_t) (hw _ (List.mem_of_getElem? (i := 0) rfl)) (hw _ (List.mem_of_getElem? (i := 1) rfl)) (hw _ (List.mem_of_getElem? (i := 2) rfl)) (hw _ (List.mem_of_getElem? (i := 3) rfl)) (by decide) at_19 rfl [(.int ((x2.toUInt32 >>> ((8 : Int32) &&& 31).toUInt32).toInt32 &&& (255 : Int32)).toUInt32.toUInt16.toUInt32.toInt32)] [] pd0_0 rfl rfl rfl 0 rfl (by decide) (by decide) (by decide) (by decide) (pc' := 22) rfl
  replace H : K 22 #[.val (.int x0), .val (.int x1), .val (.int x2), .val (.ref bt), .unset, .unset, .unset, .unset, .unset] [(.ref bd)] h2 4 10 := H
  replace X_t := X_t.keep K_d
  replace V_t := V_t.keep K_d nin0
  replace A_t := A_t.keep K_d nin0
  have Z_d : n0 ≤ h2.size := Nat.le_trans Z_t K_d.1
  replace H := k_astore C H at_22 (L' := #[.val (.int x0), .val (.int x1), .val (.int x2), .val (.ref bt), .val (.ref bd), .unset, .unset, .unset, .unset]) rfl rfl (pc' := 24) rfl
  obtain ⟨h_j0, j0, g_j0, E_j0, X_j0, D_j0, H⟩ := k_newObj C H (hw _ (List.mem_of_getElem? (i := 26) rfl)) (hw _ (List.mem_of_getElem? (i := 27) rfl)) (hw _ (List.mem_of_getElem? (i := 28) rfl)) at_24 (by decide) (by decide) (pc' := 27) rfl
  replace H : K 27 #[.val (.int x0), .val (.int x1), .val (.int x2), .val (.ref bt), .val (.ref bd), .unset, .unset, .unset, .unset] [(.ref j0)] h_j0 5 13 := H
  have ne_bt_j0 : bt ≠ j0 := Nat.ne_of_lt (Nat.lt_of_lt_of_le X_t.lt (Nat.le_of_eq g_j0.symm))
  have ne_vt_j0 : vt ≠ j0 := Nat.ne_of_lt (Nat.lt_of_lt_of_le A_t.lt (Nat.le_of_eq g_j0.symm))
  have ne_bd_j0 : bd ≠ j0 := Nat.ne_of_lt (Nat.lt_of_lt_of_le X_d.lt (Nat.le_of_eq g_j0.symm))
  have ne_vd_j0 : vd ≠ j0 := Nat.ne_of_lt (Nat.lt_of_lt_of_le A_d.lt (Nat.le_of_eq g_j0.symm))
  have n_j0 : n0 ≤ j0 := Nat.le_trans Z_d (Nat.le_of_eq g_j0.symm)
  replace X_t := X_t.ext E_j0
  replace V_t := V_t.ext E_j0
  replace A_t := A_t.ext E_j0
  replace X_d := X_d.ext E_j0
  replace V_d := V_d.ext E_j0
  replace A_d := A_d.ext E_j0
  have Z_j0 : n0 ≤ h_j0.size := Nat.le_trans Z_d E_j0.1
  have F_j0_topic : Fld Z h_j0 j0 "com/example/verlap/verlap/format/Judgment" "topic" "Ljava/lang/String;" .null := D_j0 (Or.inr (hw _ (List.mem_of_getElem? (i := 39) rfl))) (ty := (.object "java/lang/String")) (by decide)
  have F_j0_docno : Fld Z h_j0 j0 "com/example/verlap/verlap/format/Judgment" "docno" "Ljava/lang/String;" .null := D_j0 (Or.inr (hw _ (List.mem_of_getElem? (i := 41) rfl))) (ty := (.object "java/lang/String")) (by decide)
  have F_j0_relevance : Fld Z h_j0 j0 "com/example/verlap/verlap/format/Judgment" "relevance" "I" (.int (0 : Int32)) := D_j0 (Or.inr (hw _ (List.mem_of_getElem? (i := 43) rfl))) (ty := .int) (by decide)
  replace H := k_dup C H at_27 rfl (pc' := 28) rfl
  replace H := k_aloadN C H at_28 rfl rfl (pc' := 29) rfl
  replace H := k_aload C H at_29 rfl rfl (pc' := 31) rfl
  replace H := k_iloadN C H at_31 rfl (pc' := 32) rfl
  obtain ⟨_, k_j0, ⟨rfl, K_j0, R_j0⟩, H⟩ := k_callCon C H (rm6 l Z a0 hw j0 bt bd x0 h_j0 n0 vt ft X_t V_t A_t vd fd X_d V_d A_d _ _ _ X_j0 F_j0_topic F_j0_docno F_j0_relevance n_j0) rfl (hw _ (List.mem_of_getElem? (i := 29) rfl)) (hw _ (List.mem_of_getElem? (i := 30) rfl)) (hw _ (List.mem_of_getElem? (i := 28) rfl)) (hw _ (List.mem_of_getElem? (i := 31) rfl)) (by decide) at_32 rfl j0 [(.ref bt), (.ref bd), (.int x0)] [(.ref j0)] pd0_1 rfl rfl rfl 1 rfl (by decide) (by decide) (by decide) (by decide) (pc' := 35) rfl
  replace H : K 35 #[.val (.int x0), .val (.int x1), .val (.int x2), .val (.ref bt), .val (.ref bd), .unset, .unset, .unset, .unset] [(.ref j0)] k_j0 5 13 := H
  replace X_t := X_t.keep K_j0
  replace V_t := V_t.keep K_j0 (ninS ne_bt_j0 nin0)
  replace A_t := A_t.keep K_j0 (ninS ne_vt_j0 nin0)
  replace X_d := X_d.keep K_j0
  replace V_d := V_d.keep K_j0 (ninS ne_bd_j0 nin0)
  replace A_d := A_d.keep K_j0 (ninS ne_vd_j0 nin0)
  replace X_j0 := X_j0.keep K_j0
  have Z_j0' : n0 ≤ k_j0.size := Nat.le_trans Z_j0 K_j0.1
  obtain ⟨_, _, ⟨rfl, rfl⟩, H⟩ := k_callVir C H (rm7 l Z a0 hw j0 k_j0 n0 x0 R_j0) X_j0 (hw _ (List.mem_of_getElem? (i := 44) rfl)) (hw _ (List.mem_of_getElem? (i := 45) rfl)) (hw _ (List.mem_of_getElem? (i := 47) rfl)) (hw _ (List.mem_of_getElem? (i := 46) rfl)) (hw _ (List.mem_of_getElem? (i := 28) rfl)) (hw _ (List.mem_of_getElem? (i := 48) rfl)) (by decide) at_35 rfl [] [] pd0_2 rfl rfl rfl 0 rfl (by decide) (by decide) (by decide) (by decide) (pc' := 38) rfl
  replace H : K 38 #[.val (.int x0), .val (.int x1), .val (.int x2), .val (.ref bt), .val (.ref bd), .unset, .unset, .unset, .unset] [(.int (own_rel x0))] k_j0 5 13 := H
  replace H := k_istore C H at_38 (L' := #[.val (.int x0), .val (.int x1), .val (.int x2), .val (.ref bt), .val (.ref bd), .val (.int (own_rel x0)), .unset, .unset, .unset]) rfl (pc' := 40) rfl
  obtain ⟨h_j1, j1, g_j1, E_j1, X_j1, D_j1, H⟩ := k_newObj C H (hw _ (List.mem_of_getElem? (i := 26) rfl)) (hw _ (List.mem_of_getElem? (i := 27) rfl)) (hw _ (List.mem_of_getElem? (i := 28) rfl)) at_40 (by decide) (by decide) (pc' := 43) rfl
  replace H : K 43 #[.val (.int x0), .val (.int x1), .val (.int x2), .val (.ref bt), .val (.ref bd), .val (.int (own_rel x0)), .unset, .unset, .unset] [(.ref j1)] h_j1 6 16 := H
  have ne_bt_j1 : bt ≠ j1 := Nat.ne_of_lt (Nat.lt_of_lt_of_le X_t.lt (Nat.le_of_eq g_j1.symm))
  have ne_vt_j1 : vt ≠ j1 := Nat.ne_of_lt (Nat.lt_of_lt_of_le A_t.lt (Nat.le_of_eq g_j1.symm))
  have ne_bd_j1 : bd ≠ j1 := Nat.ne_of_lt (Nat.lt_of_lt_of_le X_d.lt (Nat.le_of_eq g_j1.symm))
  have ne_vd_j1 : vd ≠ j1 := Nat.ne_of_lt (Nat.lt_of_lt_of_le A_d.lt (Nat.le_of_eq g_j1.symm))
  have n_j1 : n0 ≤ j1 := Nat.le_trans Z_j0' (Nat.le_of_eq g_j1.symm)
  replace X_t := X_t.ext E_j1
  replace V_t := V_t.ext E_j1
  replace A_t := A_t.ext E_j1
  replace X_d := X_d.ext E_j1
  replace V_d := V_d.ext E_j1
  replace A_d := A_d.ext E_j1
  have Z_j1 : n0 ≤ h_j1.size := Nat.le_trans Z_j0' E_j1.1
  have F_j1_topic : Fld Z h_j1 j1 "com/example/verlap/verlap/format/Judgment" "topic" "Ljava/lang/String;" .null := D_j1 (Or.inr (hw _ (List.mem_of_getElem? (i := 39) rfl))) (ty := (.object "java/lang/String")) (by decide)
  have F_j1_docno : Fld Z h_j1 j1 "com/example/verlap/verlap/format/Judgment" "docno" "Ljava/lang/String;" .null := D_j1 (Or.inr (hw _ (List.mem_of_getElem? (i := 41) rfl))) (ty := (.object "java/lang/String")) (by decide)
  have F_j1_relevance : Fld Z h_j1 j1 "com/example/verlap/verlap/format/Judgment" "relevance" "I" (.int (0 : Int32)) := D_j1 (Or.inr (hw _ (List.mem_of_getElem? (i := 43) rfl))) (ty := .int) (by decide)
  replace H := k_dup C H at_43 rfl (pc' := 44) rfl
  replace H := k_aloadN C H at_44 rfl rfl (pc' := 45) rfl
  replace H := k_aload C H at_45 rfl rfl (pc' := 47) rfl
  replace H := k_iloadN C H at_47 rfl (pc' := 48) rfl
  obtain ⟨_, k_j1, ⟨rfl, K_j1, R_j1⟩, H⟩ := k_callCon C H (rm6 l Z a0 hw j1 bt bd x1 h_j1 n0 vt ft X_t V_t A_t vd fd X_d V_d A_d _ _ _ X_j1 F_j1_topic F_j1_docno F_j1_relevance n_j1) rfl (hw _ (List.mem_of_getElem? (i := 29) rfl)) (hw _ (List.mem_of_getElem? (i := 30) rfl)) (hw _ (List.mem_of_getElem? (i := 28) rfl)) (hw _ (List.mem_of_getElem? (i := 31) rfl)) (by decide) at_48 rfl j1 [(.ref bt), (.ref bd), (.int x1)] [(.ref j1)] pd0_1 rfl rfl rfl 1 rfl (by decide) (by decide) (by decide) (by decide) (pc' := 51) rfl
  replace H : K 51 #[.val (.int x0), .val (.int x1), .val (.int x2), .val (.ref bt), .val (.ref bd), .val (.int (own_rel x0)), .unset, .unset, .unset] [(.ref j1)] k_j1 6 16 := H
  replace X_t := X_t.keep K_j1
  replace V_t := V_t.keep K_j1 (ninS ne_bt_j1 nin0)
  replace A_t := A_t.keep K_j1 (ninS ne_vt_j1 nin0)
  replace X_d := X_d.keep K_j1
  replace V_d := V_d.keep K_j1 (ninS ne_bd_j1 nin0)
  replace A_d := A_d.keep K_j1 (ninS ne_vd_j1 nin0)
  replace X_j1 := X_j1.keep K_j1
  have Z_j1' : n0 ≤ k_j1.size := Nat.le_trans Z_j1 K_j1.1
  obtain ⟨_, _, ⟨rfl, rfl⟩, H⟩ := k_callVir C H (rm7 l Z a0 hw j1 k_j1 n0 x1 R_j1) X_j1 (hw _ (List.mem_of_getElem? (i := 44) rfl)) (hw _ (List.mem_of_getElem? (i := 45) rfl)) (hw _ (List.mem_of_getElem? (i := 47) rfl)) (hw _ (List.mem_of_getElem? (i := 46) rfl)) (hw _ (List.mem_of_getElem? (i := 28) rfl)) (hw _ (List.mem_of_getElem? (i := 48) rfl)) (by decide) at_51 rfl [] [] pd0_2 rfl rfl rfl 0 rfl (by decide) (by decide) (by decide) (by decide) (pc' := 54) rfl
  replace H : K 54 #[.val (.int x0), .val (.int x1), .val (.int x2), .val (.ref bt), .val (.ref bd), .val (.int (own_rel x0)), .unset, .unset, .unset] [(.int (own_rel x1))] k_j1 6 16 := H
  replace H := k_istore C H at_54 (L' := #[.val (.int x0), .val (.int x1), .val (.int x2), .val (.ref bt), .val (.ref bd), .val (.int (own_rel x0)), .val (.int (own_rel x1)), .unset, .unset]) rfl (pc' := 56) rfl
  obtain ⟨h_j2, j2, g_j2, E_j2, X_j2, D_j2, H⟩ := k_newObj C H (hw _ (List.mem_of_getElem? (i := 26) rfl)) (hw _ (List.mem_of_getElem? (i := 27) rfl)) (hw _ (List.mem_of_getElem? (i := 28) rfl)) at_56 (by decide) (by decide) (pc' := 59) rfl
  replace H : K 59 #[.val (.int x0), .val (.int x1), .val (.int x2), .val (.ref bt), .val (.ref bd), .val (.int (own_rel x0)), .val (.int (own_rel x1)), .unset, .unset] [(.ref j2)] h_j2 7 19 := H
  have ne_bt_j2 : bt ≠ j2 := Nat.ne_of_lt (Nat.lt_of_lt_of_le X_t.lt (Nat.le_of_eq g_j2.symm))
  have ne_vt_j2 : vt ≠ j2 := Nat.ne_of_lt (Nat.lt_of_lt_of_le A_t.lt (Nat.le_of_eq g_j2.symm))
  have ne_bd_j2 : bd ≠ j2 := Nat.ne_of_lt (Nat.lt_of_lt_of_le X_d.lt (Nat.le_of_eq g_j2.symm))
  have ne_vd_j2 : vd ≠ j2 := Nat.ne_of_lt (Nat.lt_of_lt_of_le A_d.lt (Nat.le_of_eq g_j2.symm))
  have n_j2 : n0 ≤ j2 := Nat.le_trans Z_j1' (Nat.le_of_eq g_j2.symm)
  replace X_t := X_t.ext E_j2
  replace V_t := V_t.ext E_j2
  replace A_t := A_t.ext E_j2
  replace X_d := X_d.ext E_j2
  replace V_d := V_d.ext E_j2
  replace A_d := A_d.ext E_j2
  have Z_j2 : n0 ≤ h_j2.size := Nat.le_trans Z_j1' E_j2.1
  have F_j2_topic : Fld Z h_j2 j2 "com/example/verlap/verlap/format/Judgment" "topic" "Ljava/lang/String;" .null := D_j2 (Or.inr (hw _ (List.mem_of_getElem? (i := 39) rfl))) (ty := (.object "java/lang/String")) (by decide)
  have F_j2_docno : Fld Z h_j2 j2 "com/example/verlap/verlap/format/Judgment" "docno" "Ljava/lang/String;" .null := D_j2 (Or.inr (hw _ (List.mem_of_getElem? (i := 41) rfl))) (ty := (.object "java/lang/String")) (by decide)
  have F_j2_relevance : Fld Z h_j2 j2 "com/example/verlap/verlap/format/Judgment" "relevance" "I" (.int (0 : Int32)) := D_j2 (Or.inr (hw _ (List.mem_of_getElem? (i := 43) rfl))) (ty := .int) (by decide)
  replace H := k_dup C H at_59 rfl (pc' := 60) rfl
  replace H := k_aloadN C H at_60 rfl rfl (pc' := 61) rfl
  replace H := k_aload C H at_61 rfl rfl (pc' := 63) rfl
  replace H := k_iconst C H (v := 0) at_63 rfl (pc' := 64) rfl
  obtain ⟨_, k_j2, ⟨rfl, K_j2, R_j2⟩, H⟩ := k_callCon C H (rm6 l Z a0 hw j2 bt bd (0 : Int32) h_j2 n0 vt ft X_t V_t A_t vd fd X_d V_d A_d _ _ _ X_j2 F_j2_topic F_j2_docno F_j2_relevance n_j2) rfl (hw _ (List.mem_of_getElem? (i := 29) rfl)) (hw _ (List.mem_of_getElem? (i := 30) rfl)) (hw _ (List.mem_of_getElem? (i := 28) rfl)) (hw _ (List.mem_of_getElem? (i := 31) rfl)) (by decide) at_64 rfl j2 [(.ref bt), (.ref bd), (.int (0 : Int32))] [(.ref j2)] pd0_1 rfl rfl rfl 1 rfl (by decide) (by decide) (by decide) (by decide) (pc' := 67) rfl
  replace H : K 67 #[.val (.int x0), .val (.int x1), .val (.int x2), .val (.ref bt), .val (.ref bd), .val (.int (own_rel x0)), .val (.int (own_rel x1)), .unset, .unset] [(.ref j2)] k_j2 7 19 := H
  replace X_t := X_t.keep K_j2
  replace V_t := V_t.keep K_j2 (ninS ne_bt_j2 nin0)
  replace A_t := A_t.keep K_j2 (ninS ne_vt_j2 nin0)
  replace X_d := X_d.keep K_j2
  replace V_d := V_d.keep K_j2 (ninS ne_bd_j2 nin0)
  replace A_d := A_d.keep K_j2 (ninS ne_vd_j2 nin0)
  replace X_j2 := X_j2.keep K_j2
  have Z_j2' : n0 ≤ k_j2.size := Nat.le_trans Z_j2 K_j2.1
  obtain ⟨_, _, ⟨rfl, rfl⟩, H⟩ := k_callVir C H (rm7 l Z a0 hw j2 k_j2 n0 (0 : Int32) R_j2) X_j2 (hw _ (List.mem_of_getElem? (i := 44) rfl)) (hw _ (List.mem_of_getElem? (i := 45) rfl)) (hw _ (List.mem_of_getElem? (i := 47) rfl)) (hw _ (List.mem_of_getElem? (i := 46) rfl)) (hw _ (List.mem_of_getElem? (i := 28) rfl)) (hw _ (List.mem_of_getElem? (i := 48) rfl)) (by decide) at_67 rfl [] [] pd0_2 rfl rfl rfl 0 rfl (by decide) (by decide) (by decide) (by decide) (pc' := 70) rfl
  replace H : K 70 #[.val (.int x0), .val (.int x1), .val (.int x2), .val (.ref bt), .val (.ref bd), .val (.int (own_rel x0)), .val (.int (own_rel x1)), .unset, .unset] [(.int (own_rel (0 : Int32)))] k_j2 7 19 := H
  replace H := k_istore C H at_70 (L' := #[.val (.int x0), .val (.int x1), .val (.int x2), .val (.ref bt), .val (.ref bd), .val (.int (own_rel x0)), .val (.int (own_rel x1)), .val (.int (own_rel (0 : Int32))), .unset]) rfl (pc' := 72) rfl
  obtain ⟨h_j3, j3, g_j3, E_j3, X_j3, D_j3, H⟩ := k_newObj C H (hw _ (List.mem_of_getElem? (i := 26) rfl)) (hw _ (List.mem_of_getElem? (i := 27) rfl)) (hw _ (List.mem_of_getElem? (i := 28) rfl)) at_72 (by decide) (by decide) (pc' := 75) rfl
  replace H : K 75 #[.val (.int x0), .val (.int x1), .val (.int x2), .val (.ref bt), .val (.ref bd), .val (.int (own_rel x0)), .val (.int (own_rel x1)), .val (.int (own_rel (0 : Int32))), .unset] [(.ref j3)] h_j3 8 22 := H
  have ne_bt_j3 : bt ≠ j3 := Nat.ne_of_lt (Nat.lt_of_lt_of_le X_t.lt (Nat.le_of_eq g_j3.symm))
  have ne_vt_j3 : vt ≠ j3 := Nat.ne_of_lt (Nat.lt_of_lt_of_le A_t.lt (Nat.le_of_eq g_j3.symm))
  have ne_bd_j3 : bd ≠ j3 := Nat.ne_of_lt (Nat.lt_of_lt_of_le X_d.lt (Nat.le_of_eq g_j3.symm))
  have ne_vd_j3 : vd ≠ j3 := Nat.ne_of_lt (Nat.lt_of_lt_of_le A_d.lt (Nat.le_of_eq g_j3.symm))
  have n_j3 : n0 ≤ j3 := Nat.le_trans Z_j2' (Nat.le_of_eq g_j3.symm)
  replace X_t := X_t.ext E_j3
  replace V_t := V_t.ext E_j3
  replace A_t := A_t.ext E_j3
  replace X_d := X_d.ext E_j3
  replace V_d := V_d.ext E_j3
  replace A_d := A_d.ext E_j3
  have Z_j3 : n0 ≤ h_j3.size := Nat.le_trans Z_j2' E_j3.1
  have F_j3_topic : Fld Z h_j3 j3 "com/example/verlap/verlap/format/Judgment" "topic" "Ljava/lang/String;" .null := D_j3 (Or.inr (hw _ (List.mem_of_getElem? (i := 39) rfl))) (ty := (.object "java/lang/String")) (by decide)
  have F_j3_docno : Fld Z h_j3 j3 "com/example/verlap/verlap/format/Judgment" "docno" "Ljava/lang/String;" .null := D_j3 (Or.inr (hw _ (List.mem_of_getElem? (i := 41) rfl))) (ty := (.object "java/lang/String")) (by decide)
  have F_j3_relevance : Fld Z h_j3 j3 "com/example/verlap/verlap/format/Judgment" "relevance" "I" (.int (0 : Int32)) := D_j3 (Or.inr (hw _ (List.mem_of_getElem? (i := 43) rfl))) (ty := .int) (by decide)
  replace H := k_dup C H at_75 rfl (pc' := 76) rfl
  replace H := k_aloadN C H at_76 rfl rfl (pc' := 77) rfl
  replace H := k_aload C H at_77 rfl rfl (pc' := 79) rfl
  replace H := k_iconst C H (v := 1) at_79 rfl (pc' := 80) rfl
  obtain ⟨_, k_j3, ⟨rfl, K_j3, R_j3⟩, H⟩ := k_callCon C H (rm6 l Z a0 hw j3 bt bd (1 : Int32) h_j3 n0 vt ft X_t V_t A_t vd fd X_d V_d A_d _ _ _ X_j3 F_j3_topic F_j3_docno F_j3_relevance n_j3) rfl (hw _ (List.mem_of_getElem? (i := 29) rfl)) (hw _ (List.mem_of_getElem? (i := 30) rfl)) (hw _ (List.mem_of_getElem? (i := 28) rfl)) (hw _ (List.mem_of_getElem? (i := 31) rfl)) (by decide) at_80 rfl j3 [(.ref bt), (.ref bd), (.int (1 : Int32))] [(.ref j3)] pd0_1 rfl rfl rfl 1 rfl (by decide) (by decide) (by decide) (by decide) (pc' := 83) rfl
  replace H : K 83 #[.val (.int x0), .val (.int x1), .val (.int x2), .val (.ref bt), .val (.ref bd), .val (.int (own_rel x0)), .val (.int (own_rel x1)), .val (.int (own_rel (0 : Int32))), .unset] [(.ref j3)] k_j3 8 22 := H
  replace X_t := X_t.keep K_j3
  replace V_t := V_t.keep K_j3 (ninS ne_bt_j3 nin0)
  replace A_t := A_t.keep K_j3 (ninS ne_vt_j3 nin0)
  replace X_d := X_d.keep K_j3
  replace V_d := V_d.keep K_j3 (ninS ne_bd_j3 nin0)
  replace A_d := A_d.keep K_j3 (ninS ne_vd_j3 nin0)
  replace X_j3 := X_j3.keep K_j3
  have Z_j3' : n0 ≤ k_j3.size := Nat.le_trans Z_j3 K_j3.1
  obtain ⟨_, _, ⟨rfl, rfl⟩, H⟩ := k_callVir C H (rm7 l Z a0 hw j3 k_j3 n0 (1 : Int32) R_j3) X_j3 (hw _ (List.mem_of_getElem? (i := 44) rfl)) (hw _ (List.mem_of_getElem? (i := 45) rfl)) (hw _ (List.mem_of_getElem? (i := 47) rfl)) (hw _ (List.mem_of_getElem? (i := 46) rfl)) (hw _ (List.mem_of_getElem? (i := 28) rfl)) (hw _ (List.mem_of_getElem? (i := 48) rfl)) (by decide) at_83 rfl [] [] pd0_2 rfl rfl rfl 0 rfl (by decide) (by decide) (by decide) (by decide) (pc' := 86) rfl
  replace H : K 86 #[.val (.int x0), .val (.int x1), .val (.int x2), .val (.ref bt), .val (.ref bd), .val (.int (own_rel x0)), .val (.int (own_rel x1)), .val (.int (own_rel (0 : Int32))), .unset] [(.int (own_rel (1 : Int32)))] k_j3 8 22 := H
  replace H := k_istore C H at_86 (L' := #[.val (.int x0), .val (.int x1), .val (.int x2), .val (.ref bt), .val (.ref bd), .val (.int (own_rel x0)), .val (.int (own_rel x1)), .val (.int (own_rel (0 : Int32))), .val (.int (own_rel (1 : Int32)))]) rfl (pc' := 88) rfl
  replace H := k_iload C H at_88 rfl (pc' := 90) rfl
  replace H := k_ifcY C H at_90 (teq (rfl : own_rel (0 : Int32) = 0)).1 (by decide) (pc' := 95) rfl
  replace H := k_iload C H at_95 rfl (pc' := 97) rfl
  replace H := k_ifcY C H at_97 (feq (by decide : ¬ own_rel (1 : Int32) = 0)).2 (by decide) (pc' := 102) rfl
  replace H := k_iloadN C H at_102 rfl (pc' := 103) rfl
  replace H := k_iloadN C H at_103 rfl (pc' := 104) rfl
  by_cases hc104 : x1 < x0
  · replace H := k_icmpY C H at_104 (tlt hc104).2.2.1 (by decide) (pc' := 119) rfl
    replace H := k_iconst C H (v := 1) at_119 rfl (pc' := 120) rfl
    exact k_retZ C H at_120 (by decide) (by decide) (by decide) rfl
  · replace H := k_icmpN C H at_104 (flt hc104).2.2.1 (pc' := 107) rfl
    replace H := k_iload C H at_107 rfl (pc' := 109) rfl
    by_cases hc109 : (own_rel x0) = (0 : Int32)
    · replace H := k_ifcY C H at_109 (teq hc109).1 (by decide) (pc' := 119) rfl
      replace H := k_iconst C H (v := 1) at_119 rfl (pc' := 120) rfl
      exact k_retZ C H at_120 (by decide) (by decide) (by decide) rfl
    · replace H := k_ifcN C H at_109 (feq hc109).1 (pc' := 112) rfl
      replace H := k_iload C H at_112 rfl (pc' := 114) rfl
      replace H := k_ifcY C H at_114 (feq (own_mon x0 x1 hc104 hc109)).2 (by decide) (pc' := 119) rfl
      replace H := k_iconst C H (v := 1) at_119 rfl (pc' := 120) rfl
      exact k_retZ C H at_120 (by decide) (by decide) (by decide) rfl
set_option maxRecDepth 65536 in
set_option maxHeartbeats 40000000 in
theorem comes_1 {Post : Tables → Env → Array Value → State → Outcome → State → Prop} (hpost : ∀ tb e args s v u, (limb_1_1.after args s (.returned v) u = true ∧ limb_1_2.after args s (.returned v) u = true) → FrameEnd s (.returned v) u (Jvm.fieldLocs frame_1_writes args s ++ Jvm.arrayLocs frame_1_arrays args s ++ Jvm.staticLocs frame_1_statics s) 24 128 → Post tb e args s (.returned v) u) :
    ArmFor flags0 classFile x code maxLocals ret World_1 tables_1 room_1 Calls_1 rest_1 Pre_1 Post := by
  intro l hfl _ _ p e ha hc hk s m args below hf hA hF happ hP
  obtain ⟨hcalls, hrest, hpre⟩ := hP
  obtain ⟨-, -, -, hnamed, -, -, -, hat⟩ := (Spec.applies_iff hf).mp happ
  obtain ⟨hg, hn⟩ := and_e (Cond.before_iff.mp (show (Jvm.Cond.and given_1 narrow_1).before args s = true from hpre))
  obtain ⟨g0, r0⟩ := and_e hg
  obtain ⟨g1, r1⟩ := and_e r0
  obtain ⟨g2, r2⟩ := and_e r1
  obtain ⟨w0, w1, w2, rfl⟩ : ∃ w0 w1 w2 : Value, args = #[w0, w1, w2] := by
    have hs : args.size = 3 := by simpa [Cond.value, given_1] using g0
    obtain ⟨L⟩ := args
    match L, hs with
    | [w0, w1, w2], _ => exact ⟨w0, w1, w2, rfl⟩
  have hw := fun d (hd : d ∈ tables_1) => atoms_spec (ws := Jvm.Cond.code x code maxLocals ret :: tables_1) hat d (List.mem_cons_of_mem _ hd)
  obtain ⟨i0, ei0⟩ := is_v g1
  obtain rfl : w0 = (.int i0) := Option.some.inj ei0
  obtain ⟨i1, ei1⟩ := is_v g2
  obtain rfl : w1 = (.int i1) := Option.some.inj ei1
  obtain ⟨i2, ei2⟩ := is_v r2
  obtain rfl : w2 = (.int i2) := Option.some.inj ei2
  obtain ⟨hsets, hown0⟩ := atoms_of _ (rest_1_c_eq ▸ (show rest_1_c.before _ s = true from hrest))
  obtain ⟨cs, e_cs⟩ := is_v (Cond.before_iff.mp (hsets _ (List.mem_of_getElem? (i := 1) rfl)))
  have S := Sta.start e_cs (Or.inl (hsets _ (List.mem_of_getElem? (i := 0) rfl)))
  have hcs : ¬ cs = 0 := fun q => by
    have z := not_v (Cond.before_iff.mp (hsets _ (List.mem_of_getElem? (i := 2) rfl)))
    rw [q] at e_cs
    have y := eq_i e_cs (Term.int_eval (0 : Int32)) rfl
    rw [y] at z
    cases z
  obtain ⟨n, o, h1, h2, h3, _, L, rfl, ⟨rfl, N⟩, hq⟩ := rm0 l s _ hw i0 i1 i2 s.heap s.heap.size cs S hcs (Nat.le_refl _) tables_1 p e ha hc hk s m _ below hf ((Spec.applies_iff_loose hf).mp happ).1 ⟨rfl, State.Warmed39.refl s, rfl⟩ trivial
  refine ⟨n, _, h1, h2, h3, hpost _ _ _ _ _ _ ⟨Cond.after_iff.mpr rfl, Cond.after_iff.mpr (eq_i res_at (Term.int_eval (1)) rfl)⟩ ⟨hq.1, hq.2.1, (hq.2.2.sift fun y hy => Or.inr (N y hy)).mono (by decide) (by decide)⟩⟩
theorem main_1_1 : Claimed_1_1 := comes_1 fun _ _ _ _ _ _ h hF => ⟨h.1, hF⟩
theorem main_1_2 : Claimed_1_2 := comes_1 fun _ _ _ _ _ _ h hF => ⟨h.2, hF⟩
end Jvm.Pilot.@@N@@
namespace Jvm.Pilot.@@N@@
open Jvm Jvm.ClassFile Sem Op Lib Jvm.Free Jvm.Stand Jvm.Pilot.@@N@@.Jvm.D
/-! MADE BY PROGRAM (witnessworld.py) out of the Statement's table words and the real class files: 17 classes; the members and pool entries that the words name. The judged class is class 1, her method 1. -/
namespace start1
open Jvm.ClassFile
def u (s : String) : CpInfo := .utf8 (stringToUtf16 s)
/-- a pool by its gaps: so many unusable entries, then the entry; so many at the end -/
def gap : Nat → List CpInfo → List CpInfo
  | 0, r => r
  | n + 1, r => .unusable :: gap n r
def poolList (es : List (Nat × CpInfo)) (last : Nat) : List CpInfo := es.foldr (fun e r => gap e.1 (e.2 :: r)) (gap last [])
def pool (es : List (Nat × CpInfo)) (last : Nat) : Array CpInfo := ⟨poolList es last⟩
def fileOf (pool : Array CpInfo) (this : Nat) (attrs : Array Attribute := #[]) (ms : Array MethodInfo := #[]) (fl : Nat := 33) (sup : Nat := 0) (ifs : Array Nat := #[]) (fds : Array FieldInfo := #[]) : ClassFile where
  minorVersion := 0
  majorVersion := 65
  constantPool := pool
  accessFlags := fl
  thisClass := this
  superClass := sup
  interfaces := ifs
  fields := fds
  methods := ms
  attributes := attrs
def plain (name : String) (sup : Option ClassId) : Class where
  name := name
  kind := .ordinary
  loader := none
  accessFlags := 33
  super := sup
  interfaces := #[]
  cf := none
  fields := #[]
  methods := #[]
  instanceTypes := #[]
  staticTypes := #[]
  resolved := #[]
  callSites := []
  init := .initialized
  statics := none
  mirror := none

def pool0 : Array CpInfo := pool [(5, u "<init>"), (0, u "()V"), (1, .class_ 10), (1, u "java/lang/Object")] 113

def k0c0 : Code := { maxStack := 0, maxLocals := 1, code := object_method_1_code, exceptionTable := #[], attributes := #[] }
def k0m0 : Method := { name := "<init>", desc := "()V", sig := { parameters := [], returnType := none }, accessFlags := 1, code := some k0c0 }
/-- java/lang/Object -/
def k0 : Class := { plain "java/lang/Object" none with
  accessFlags := 33
  interfaces := #[]
  cf := some (fileOf pool0 8 #[] #[{ accessFlags := 1, nameIndex := 5, descriptorIndex := 6, attributes := #[] }] 33 0 #[] #[])
  fields := #[]
  methods := #[k0m0]
  instanceTypes := #[]
  staticTypes := #[]
  resolved := Array.replicate 124 none
  statics := none }

def pool1 : Array CpInfo := pool [(2, .class_ 4), (1, u "java/lang/Object"), (0, u "<init>"), (0, u "()V"), (0, .methodref 8 9), (0, .class_ 10), (0, .nameAndType 11 12), (0, u "java/lang/String"), (0, u "valueOf"), (0, u "(C)Ljava/lang/String;"), (0, .class_ 14), (0, u "com/example/verlap/verlap/format/Judgment"), (0, .methodref 13 16), (0, .nameAndType 5 17), (0, u "(Ljava/lang/String;Ljava/lang/String;I)V"), (0, .methodref 13 19), (0, .nameAndType 20 21), (0, u "isRelevant"), (0, u "()Z"), (0, .class_ 23), (0, u "com/example/verlap/verlap/format/JudgmentIsRelevantPinLaw"), (2, u "law"), (0, u "(III)Z")] 3

def k1m0 : Method := { name := "<init>", desc := "()V", sig := { parameters := [], returnType := none }, accessFlags := 1, code := none }
def k1c1 : Code := { maxStack := 5, maxLocals := 9, code := code, exceptionTable := #[], attributes := #[] }
def k1m1 : Method := { name := "law", desc := "(III)Z", sig := { parameters := [.int, .int, .int], returnType := some .boolean }, accessFlags := 9, code := some k1c1 }
/-- com/example/verlap/verlap/format/JudgmentIsRelevantPinLaw -/
def k1 : Class := { plain "com/example/verlap/verlap/format/JudgmentIsRelevantPinLaw" (some 0) with
  accessFlags := 49
  interfaces := #[]
  cf := some (fileOf pool1 22 #[] #[{ accessFlags := 1, nameIndex := 5, descriptorIndex := 6, attributes := #[] }, { accessFlags := 9, nameIndex := 26, descriptorIndex := 27, attributes := #[] }] 49 2 #[] #[])
  fields := #[]
  methods := #[k1m0, k1m1]
  instanceTypes := #[]
  staticTypes := #[]
  resolved := Array.replicate 31 none
  statics := none }

def pool2 : Array CpInfo := pool [(1, .class_ 2), (0, u "java/io/Serializable"), (0, .class_ 4), (0, u "java/lang/Object")] 2

/-- java/io/Serializable -/
def k2 : Class := { plain "java/io/Serializable" (some 0) with
  accessFlags := 1537
  interfaces := #[]
  cf := some (fileOf pool2 1 #[] #[] 1537 3 #[] #[])
  fields := #[]
  methods := #[]
  instanceTypes := #[]
  staticTypes := #[]
  resolved := Array.replicate 7 none
  statics := none }

def pool3 : Array CpInfo := pool [(1, .class_ 2), (0, u "java/lang/Comparable"), (0, .class_ 4), (0, u "java/lang/Object")] 7

/-- java/lang/Comparable -/
def k3 : Class := { plain "java/lang/Comparable" (some 0) with
  accessFlags := 1537
  interfaces := #[]
  cf := some (fileOf pool3 1 #[] #[] 1537 3 #[] #[])
  fields := #[]
  methods := #[]
  instanceTypes := #[]
  staticTypes := #[]
  resolved := Array.replicate 12 none
  statics := none }

def pool4 : Array CpInfo := pool [(2, .class_ 4), (1, u "java/lang/CharSequence"), (42, .class_ 48), (0, u "java/lang/CharSequence$1CodePointIterator"), (10, .class_ 60), (0, u "java/lang/CharSequence$1CharIterator"), (5, .class_ 67), (0, u "java/lang/Object")] 63

/-- java/lang/CharSequence -/
def k4 : Class := { plain "java/lang/CharSequence" (some 0) with
  accessFlags := 1537
  interfaces := #[]
  cf := some (fileOf pool4 2 #[.nestMembers #[47, 59]] #[] 1537 66 #[] #[])
  fields := #[]
  methods := #[]
  instanceTypes := #[]
  staticTypes := #[]
  resolved := Array.replicate 131 none
  statics := none }

def pool5 : Array CpInfo := pool [(1, .class_ 2), (0, u "java/lang/constant/Constable"), (0, .class_ 4), (0, u "java/lang/Object")] 6

/-- java/lang/constant/Constable -/
def k5 : Class := { plain "java/lang/constant/Constable" (some 0) with
  accessFlags := 1537
  interfaces := #[]
  cf := some (fileOf pool5 1 #[] #[] 1537 3 #[] #[])
  fields := #[]
  methods := #[]
  instanceTypes := #[]
  staticTypes := #[]
  resolved := Array.replicate 11 none
  statics := none }

def pool6 : Array CpInfo := pool [(1, .class_ 2), (0, u "java/lang/constant/ConstantDesc"), (0, .class_ 4), (0, u "java/lang/Object")] 32

/-- java/lang/constant/ConstantDesc -/
def k6 : Class := { plain "java/lang/constant/ConstantDesc" (some 0) with
  accessFlags := 1537
  interfaces := #[]
  cf := some (fileOf pool6 1 #[] #[] 1537 3 #[] #[])
  fields := #[]
  methods := #[]
  instanceTypes := #[]
  staticTypes := #[]
  resolved := Array.replicate 37 none
  statics := none }

def pool7 : Array CpInfo := pool [(1, .methodref 2 3), (0, .class_ 4), (0, .nameAndType 5 6), (0, u "java/lang/Object"), (0, u "<init>"), (0, u "()V"), (2, .fieldref 10 11), (0, .class_ 12), (0, .nameAndType 13 14), (0, u "java/lang/String"), (0, u "value"), (0, u "[B"), (0, .fieldref 10 16), (0, .nameAndType 17 18), (0, u "coder"), (0, u "B"), (2, u "hash"), (0, u "I"), (2, u "hashIsZero"), (0, u "Z"), (11, .fieldref 10 39), (0, .nameAndType 40 26), (0, u "COMPACT_STRINGS"), (12, u "toBytes"), (53, .class_ 109), (1, u "java/lang/StringLatin1"), (32, u "()Z"), (66, .methodref 10 210), (0, .nameAndType 5 211), (0, u "([BB)V"), (157, u "(C)Z"), (205, .class_ 576), (0, u "java/lang/CharSequence"), (22, u "CASE_INSENSITIVE_ORDER"), (0, u "Ljava/util/Comparator;"), (91, u "isEmpty"), (89, u "valueOf"), (0, u "(C)Ljava/lang/String;"), (231, .methodref 107 1016), (0, .nameAndType 1017 369), (0, u "canEncode"), (0, .methodref 107 1019), (0, .nameAndType 53 1020), (0, u "(C)[B"), (80, u "serialPersistentFields"), (0, u "[Ljava/io/ObjectStreamField;"), (0, .class_ 1104), (0, u "java/lang/String$CaseInsensitiveComparator"), (1, .class_ 1107), (0, u "java/io/Serializable"), (0, .class_ 1109), (0, u "java/lang/Comparable"), (0, .class_ 1111), (0, u "java/lang/constant/Constable"), (0, .class_ 1113), (0, u "java/lang/constant/ConstantDesc"), (2, u "serialVersionUID"), (0, u "J"), (3, u "REPL"), (0, u "C"), (2, u "LATIN1"), (1, u "UTF16")] 323

def k7m0 : Method := { name := "<init>", desc := "()V", sig := { parameters := [], returnType := none }, accessFlags := 1, code := none }
def k7c1 : Code := { maxStack := 1, maxLocals := 1, code := jdk_42_method_55_code, exceptionTable := #[], attributes := #[] }
def k7m1 : Method := { name := "isEmpty", desc := "()Z", sig := { parameters := [], returnType := some .boolean }, accessFlags := 1, code := some k7c1 }
def k7c2 : Code := { maxStack := 4, maxLocals := 1, code := jdk_42_method_139_code, exceptionTable := #[], attributes := #[] }
def k7m2 : Method := { name := "valueOf", desc := "(C)Ljava/lang/String;", sig := { parameters := [.char], returnType := some (.object "java/lang/String") }, accessFlags := 9, code := some k7c2 }
def k7c3 : Code := { maxStack := 2, maxLocals := 3, code := jdk_42_method_151_code, exceptionTable := #[], attributes := #[] }
def k7m3 : Method := { name := "<init>", desc := "([BB)V", sig := { parameters := [(.array .byte), .byte], returnType := none }, accessFlags := 0, code := some k7c3 }
/-- java/lang/String -/
def k7 : Class := { plain "java/lang/String" (some 0) with
  accessFlags := 49
  interfaces := #[2, 3, 4, 5, 6]
  cf := some (fileOf pool7 10 #[.nestMembers #[1103]] #[{ accessFlags := 1, nameIndex := 5, descriptorIndex := 6, attributes := #[] }, { accessFlags := 1, nameIndex := 692, descriptorIndex := 142, attributes := #[] }, { accessFlags := 9, nameIndex := 782, descriptorIndex := 783, attributes := #[] }, { accessFlags := 0, nameIndex := 5, descriptorIndex := 211, attributes := #[] }] 49 2 #[1106, 1108, 575, 1110, 1112] #[{ accessFlags := 18, nameIndex := 13, descriptorIndex := 14, attributes := #[] }, { accessFlags := 18, nameIndex := 17, descriptorIndex := 18, attributes := #[] }, { accessFlags := 2, nameIndex := 21, descriptorIndex := 22, attributes := #[] }, { accessFlags := 2, nameIndex := 25, descriptorIndex := 26, attributes := #[] }, { accessFlags := 26, nameIndex := 1116, descriptorIndex := 1117, attributes := #[] }, { accessFlags := 24, nameIndex := 40, descriptorIndex := 26, attributes := #[] }, { accessFlags := 26, nameIndex := 1101, descriptorIndex := 1102, attributes := #[] }, { accessFlags := 26, nameIndex := 1121, descriptorIndex := 1122, attributes := #[] }, { accessFlags := 25, nameIndex := 599, descriptorIndex := 600, attributes := #[] }, { accessFlags := 24, nameIndex := 1125, descriptorIndex := 18, attributes := #[] }, { accessFlags := 24, nameIndex := 1127, descriptorIndex := 18, attributes := #[] }])
  fields := #[{ name := "value", type := (.array .byte), accessFlags := 18, slot := 0, constantValue := 0 }, { name := "coder", type := .byte, accessFlags := 18, slot := 1, constantValue := 0 }, { name := "hash", type := .int, accessFlags := 2, slot := 2, constantValue := 0 }, { name := "hashIsZero", type := .boolean, accessFlags := 2, slot := 3, constantValue := 0 }, { name := "serialVersionUID", type := .long, accessFlags := 26, slot := 0, constantValue := 0 }, { name := "COMPACT_STRINGS", type := .boolean, accessFlags := 24, slot := 1, constantValue := 0 }, { name := "serialPersistentFields", type := (.array (.object "java/io/ObjectStreamField")), accessFlags := 26, slot := 2, constantValue := 0 }, { name := "REPL", type := .char, accessFlags := 26, slot := 3, constantValue := 0 }, { name := "CASE_INSENSITIVE_ORDER", type := (.object "java/util/Comparator"), accessFlags := 25, slot := 4, constantValue := 0 }, { name := "LATIN1", type := .byte, accessFlags := 24, slot := 5, constantValue := 0 }, { name := "UTF16", type := .byte, accessFlags := 24, slot := 6, constantValue := 0 }]
  methods := #[k7m0, k7m1, k7m2, k7m3]
  instanceTypes := #[(.array .byte), .byte, .int, .boolean]
  staticTypes := #[.long, .boolean, (.array (.object "java/io/ObjectStreamField")), .char, (.object "java/util/Comparator"), .byte, .byte]
  resolved := Array.replicate 1451 none
  statics := some 0 }

def pool8 : Array CpInfo := pool [(4, .class_ 6), (1, u "java/lang/Object"), (0, u "<init>"), (0, u "()V"), (5, .class_ 16), (1, u "java/lang/StringLatin1"), (73, u "canEncode"), (14, u "(C)Z"), (15, u "$assertionsDisabled"), (0, u "Z"), (98, .class_ 223), (1, u "java/lang/StringLatin1$LinesSpliterator"), (156, u "toBytes"), (1, u "(C)[B"), (7, .class_ 391), (0, u "java/lang/StringLatin1$CharsSpliterator")] 3

def k8m0 : Method := { name := "<init>", desc := "()V", sig := { parameters := [], returnType := none }, accessFlags := 0, code := none }
def k8c1 : Code := { maxStack := 2, maxLocals := 1, code := jdk_43_method_3_code, exceptionTable := #[], attributes := #[] }
def k8m1 : Method := { name := "canEncode", desc := "(C)Z", sig := { parameters := [.char], returnType := some .boolean }, accessFlags := 9, code := some k8c1 }
def k8c2 : Code := { maxStack := 4, maxLocals := 1, code := jdk_43_method_46_code, exceptionTable := #[], attributes := #[] }
def k8m2 : Method := { name := "toBytes", desc := "(C)[B", sig := { parameters := [.char], returnType := some (.array .byte) }, accessFlags := 9, code := some k8c2 }
/-- java/lang/StringLatin1 -/
def k8 : Class := { plain "java/lang/StringLatin1" (some 0) with
  accessFlags := 48
  interfaces := #[]
  cf := some (fileOf pool8 14 #[.nestMembers #[390, 221]] #[{ accessFlags := 0, nameIndex := 7, descriptorIndex := 8, attributes := #[] }, { accessFlags := 9, nameIndex := 90, descriptorIndex := 105, attributes := #[] }, { accessFlags := 9, nameIndex := 380, descriptorIndex := 382, attributes := #[] }] 48 4 #[] #[{ accessFlags := 4120, nameIndex := 121, descriptorIndex := 122, attributes := #[] }])
  fields := #[{ name := "$assertionsDisabled", type := .boolean, accessFlags := 4120, slot := 0, constantValue := 0 }]
  methods := #[k8m0, k8m1, k8m2]
  instanceTypes := #[]
  staticTypes := #[.boolean]
  resolved := Array.replicate 395 none
  statics := none }

def pool9 : Array CpInfo := pool [(1, .methodref 2 3), (0, .class_ 4), (0, .nameAndType 5 6), (0, u "java/lang/Object"), (0, u "<init>"), (0, u "()V"), (0, .methodref 8 9), (0, .class_ 10), (0, .nameAndType 11 12), (0, u "java/lang/String"), (0, u "isEmpty"), (0, u "()Z"), (7, .fieldref 21 22), (0, .class_ 23), (0, .nameAndType 24 25), (0, u "com/example/verlap/verlap/format/Judgment"), (0, u "topic"), (0, u "Ljava/lang/String;"), (0, .fieldref 21 27), (0, .nameAndType 28 25), (0, u "docno"), (0, .fieldref 21 30), (0, .nameAndType 31 32), (0, u "relevance"), (0, u "I"), (0, u "(Ljava/lang/String;Ljava/lang/String;I)V"), (8, u "isRelevant")] 2

def k9c0 : Code := { maxStack := 3, maxLocals := 4, code := prog_21_method_1_code, exceptionTable := #[], attributes := #[] }
def k9m0 : Method := { name := "<init>", desc := "(Ljava/lang/String;Ljava/lang/String;I)V", sig := { parameters := [(.object "java/lang/String"), (.object "java/lang/String"), .int], returnType := none }, accessFlags := 1, code := some k9c0 }
def k9c1 : Code := { maxStack := 1, maxLocals := 1, code := prog_21_method_5_code, exceptionTable := #[], attributes := #[] }
def k9m1 : Method := { name := "isRelevant", desc := "()Z", sig := { parameters := [], returnType := some .boolean }, accessFlags := 1, code := some k9c1 }
/-- com/example/verlap/verlap/format/Judgment -/
def k9 : Class := { plain "com/example/verlap/verlap/format/Judgment" (some 0) with
  accessFlags := 33
  interfaces := #[]
  cf := some (fileOf pool9 21 #[] #[{ accessFlags := 1, nameIndex := 5, descriptorIndex := 33, attributes := #[] }, { accessFlags := 1, nameIndex := 42, descriptorIndex := 12, attributes := #[] }] 33 2 #[] #[{ accessFlags := 18, nameIndex := 24, descriptorIndex := 25, attributes := #[] }, { accessFlags := 18, nameIndex := 28, descriptorIndex := 25, attributes := #[] }, { accessFlags := 18, nameIndex := 31, descriptorIndex := 32, attributes := #[] }])
  fields := #[{ name := "topic", type := (.object "java/lang/String"), accessFlags := 18, slot := 0, constantValue := 0 }, { name := "docno", type := (.object "java/lang/String"), accessFlags := 18, slot := 1, constantValue := 0 }, { name := "relevance", type := .int, accessFlags := 18, slot := 2, constantValue := 0 }]
  methods := #[k9m0, k9m1]
  instanceTypes := #[(.object "java/lang/String"), (.object "java/lang/String"), .int]
  staticTypes := #[]
  resolved := Array.replicate 45 none
  statics := none }

def pool10 : Array CpInfo := pool [(2, .class_ 4), (1, u "java/lang/Object"), (0, u "<init>"), (0, u "()V"), (17, .class_ 26), (1, u "jdk/internal/util/Preconditions"), (28, .class_ 56), (0, u "jdk/internal/util/Preconditions$4"), (57, .class_ 115), (0, u "jdk/internal/util/Preconditions$1"), (7, u "SIOOBE_FORMATTER"), (0, u "Ljava/util/function/BiFunction;"), (0, .class_ 126), (0, u "jdk/internal/util/Preconditions$2"), (3, u "AIOOBE_FORMATTER"), (0, .class_ 132), (0, u "jdk/internal/util/Preconditions$3"), (3, u "IOOBE_FORMATTER")] 57

def k10m0 : Method := { name := "<init>", desc := "()V", sig := { parameters := [], returnType := none }, accessFlags := 1, code := none }
/-- jdk/internal/util/Preconditions -/
def k10 : Class := { plain "jdk/internal/util/Preconditions" (some 0) with
  accessFlags := 33
  interfaces := #[]
  cf := some (fileOf pool10 24 #[.nestMembers #[55, 131, 125, 114]] #[{ accessFlags := 1, nameIndex := 5, descriptorIndex := 6, attributes := #[] }] 33 2 #[] #[{ accessFlags := 25, nameIndex := 123, descriptorIndex := 124, attributes := #[] }, { accessFlags := 25, nameIndex := 130, descriptorIndex := 124, attributes := #[] }, { accessFlags := 25, nameIndex := 136, descriptorIndex := 124, attributes := #[] }])
  fields := #[{ name := "SIOOBE_FORMATTER", type := (.object "java/util/function/BiFunction"), accessFlags := 25, slot := 0, constantValue := 0 }, { name := "AIOOBE_FORMATTER", type := (.object "java/util/function/BiFunction"), accessFlags := 25, slot := 1, constantValue := 0 }, { name := "IOOBE_FORMATTER", type := (.object "java/util/function/BiFunction"), accessFlags := 25, slot := 2, constantValue := 0 }]
  methods := #[k10m0]
  instanceTypes := #[]
  staticTypes := #[(.object "java/util/function/BiFunction"), (.object "java/util/function/BiFunction"), (.object "java/util/function/BiFunction")]
  resolved := Array.replicate 194 none
  statics := some 1 }

def pool11 : Array CpInfo := pool [(9, u "<init>"), (6, .class_ 18), (1, u "java/lang/Object"), (0, u "()V"), (1, .class_ 23), (1, u "jdk/internal/util/ArraysSupport"), (0, u "LOG2_ARRAY_LONG_INDEX_SCALE"), (0, u "I"), (2, u "U"), (0, u "Ljdk/internal/misc/Unsafe;"), (8, u "BIG_ENDIAN"), (0, u "Z"), (8, u "LOG2_BYTE_BIT_SIZE"), (4, u "LOG2_ARRAY_INT_INDEX_SCALE"), (54, u "JLA"), (0, u "Ljdk/internal/access/JavaLangAccess;"), (11, u "LOG2_ARRAY_BOOLEAN_INDEX_SCALE"), (9, u "LOG2_ARRAY_BYTE_INDEX_SCALE"), (5, u "LOG2_ARRAY_CHAR_INDEX_SCALE"), (5, u "LOG2_ARRAY_SHORT_INDEX_SCALE"), (18, u "LOG2_ARRAY_FLOAT_INDEX_SCALE"), (24, u "LOG2_ARRAY_DOUBLE_INDEX_SCALE"), (89, u "T_BOOLEAN"), (2, u "T_CHAR"), (1, u "T_FLOAT"), (1, u "T_DOUBLE"), (1, u "T_BYTE"), (1, u "T_SHORT"), (1, u "T_INT"), (1, u "T_LONG"), (1, u "SOFT_MAX_ARRAY_LENGTH")] 83

def k11m0 : Method := { name := "<init>", desc := "()V", sig := { parameters := [], returnType := none }, accessFlags := 2, code := none }
/-- jdk/internal/util/ArraysSupport -/
def k11 : Class := { plain "jdk/internal/util/ArraysSupport" (some 0) with
  accessFlags := 33
  interfaces := #[]
  cf := some (fileOf pool11 21 #[] #[{ accessFlags := 2, nameIndex := 9, descriptorIndex := 19, attributes := #[] }] 33 16 #[] #[{ accessFlags := 24, nameIndex := 28, descriptorIndex := 29, attributes := #[] }, { accessFlags := 26, nameIndex := 38, descriptorIndex := 39, attributes := #[] }, { accessFlags := 25, nameIndex := 121, descriptorIndex := 25, attributes := #[] }, { accessFlags := 25, nameIndex := 131, descriptorIndex := 25, attributes := #[] }, { accessFlags := 25, nameIndex := 137, descriptorIndex := 25, attributes := #[] }, { accessFlags := 25, nameIndex := 143, descriptorIndex := 25, attributes := #[] }, { accessFlags := 25, nameIndex := 53, descriptorIndex := 25, attributes := #[] }, { accessFlags := 25, nameIndex := 24, descriptorIndex := 25, attributes := #[] }, { accessFlags := 25, nameIndex := 162, descriptorIndex := 25, attributes := #[] }, { accessFlags := 25, nameIndex := 187, descriptorIndex := 25, attributes := #[] }, { accessFlags := 26, nameIndex := 48, descriptorIndex := 25, attributes := #[] }, { accessFlags := 25, nameIndex := 277, descriptorIndex := 25, attributes := #[] }, { accessFlags := 25, nameIndex := 280, descriptorIndex := 25, attributes := #[] }, { accessFlags := 25, nameIndex := 282, descriptorIndex := 25, attributes := #[] }, { accessFlags := 25, nameIndex := 284, descriptorIndex := 25, attributes := #[] }, { accessFlags := 25, nameIndex := 286, descriptorIndex := 25, attributes := #[] }, { accessFlags := 25, nameIndex := 288, descriptorIndex := 25, attributes := #[] }, { accessFlags := 25, nameIndex := 290, descriptorIndex := 25, attributes := #[] }, { accessFlags := 25, nameIndex := 292, descriptorIndex := 25, attributes := #[] }, { accessFlags := 26, nameIndex := 108, descriptorIndex := 109, attributes := #[] }, { accessFlags := 25, nameIndex := 294, descriptorIndex := 25, attributes := #[] }])
  fields := #[{ name := "U", type := (.object "jdk/internal/misc/Unsafe"), accessFlags := 24, slot := 0, constantValue := 0 }, { name := "BIG_ENDIAN", type := .boolean, accessFlags := 26, slot := 1, constantValue := 0 }, { name := "LOG2_ARRAY_BOOLEAN_INDEX_SCALE", type := .int, accessFlags := 25, slot := 2, constantValue := 0 }, { name := "LOG2_ARRAY_BYTE_INDEX_SCALE", type := .int, accessFlags := 25, slot := 3, constantValue := 0 }, { name := "LOG2_ARRAY_CHAR_INDEX_SCALE", type := .int, accessFlags := 25, slot := 4, constantValue := 0 }, { name := "LOG2_ARRAY_SHORT_INDEX_SCALE", type := .int, accessFlags := 25, slot := 5, constantValue := 0 }, { name := "LOG2_ARRAY_INT_INDEX_SCALE", type := .int, accessFlags := 25, slot := 6, constantValue := 0 }, { name := "LOG2_ARRAY_LONG_INDEX_SCALE", type := .int, accessFlags := 25, slot := 7, constantValue := 0 }, { name := "LOG2_ARRAY_FLOAT_INDEX_SCALE", type := .int, accessFlags := 25, slot := 8, constantValue := 0 }, { name := "LOG2_ARRAY_DOUBLE_INDEX_SCALE", type := .int, accessFlags := 25, slot := 9, constantValue := 0 }, { name := "LOG2_BYTE_BIT_SIZE", type := .int, accessFlags := 26, slot := 10, constantValue := 0 }, { name := "T_BOOLEAN", type := .int, accessFlags := 25, slot := 11, constantValue := 0 }, { name := "T_CHAR", type := .int, accessFlags := 25, slot := 12, constantValue := 0 }, { name := "T_FLOAT", type := .int, accessFlags := 25, slot := 13, constantValue := 0 }, { name := "T_DOUBLE", type := .int, accessFlags := 25, slot := 14, constantValue := 0 }, { name := "T_BYTE", type := .int, accessFlags := 25, slot := 15, constantValue := 0 }, { name := "T_SHORT", type := .int, accessFlags := 25, slot := 16, constantValue := 0 }, { name := "T_INT", type := .int, accessFlags := 25, slot := 17, constantValue := 0 }, { name := "T_LONG", type := .int, accessFlags := 25, slot := 18, constantValue := 0 }, { name := "JLA", type := (.object "jdk/internal/access/JavaLangAccess"), accessFlags := 26, slot := 19, constantValue := 0 }, { name := "SOFT_MAX_ARRAY_LENGTH", type := .int, accessFlags := 25, slot := 20, constantValue := 0 }]
  methods := #[k11m0]
  instanceTypes := #[]
  staticTypes := #[(.object "jdk/internal/misc/Unsafe"), .boolean, .int, .int, .int, .int, .int, .int, .int, .int, .int, .int, .int, .int, .int, .int, .int, .int, .int, (.object "jdk/internal/access/JavaLangAccess"), .int]
  resolved := Array.replicate 378 none
  statics := none }

def pool12 : Array CpInfo := pool [(1, u "java/lang/Cloneable"), (0, .class_ 1), (0, u "java/lang/Object"), (0, .class_ 3)] 3

/-- java/lang/Cloneable -/
def k12 : Class := { plain "java/lang/Cloneable" (some 0) with
  accessFlags := 1537
  interfaces := #[]
  cf := some (fileOf pool12 2 #[] #[] 1537 4 #[] #[])
  fields := #[]
  methods := #[]
  instanceTypes := #[]
  staticTypes := #[]
  resolved := Array.replicate 8 none
  statics := none }

/-- the primitive byte -/
def k13 : Class := { plain "byte" none with kind := .primitive 'B', accessFlags := 0x411 }
/-- [B -/
def k14 : Class := { plain "[B" (some 0) with kind := .array 13 .byte, interfaces := #[12, 2], accessFlags := 1041 }

/-- the primitive int -/
def k15 : Class := { plain "int" none with kind := .primitive 'I', accessFlags := 0x411 }
/-- [I -/
def k16 : Class := { plain "[I" (some 0) with kind := .array 15 .int, interfaces := #[12, 2], accessFlags := 1041 }

def heap : Heap := #[{ cls := 7, slots := #[.long 0, .int 1, .null, .int 0, .null, .int 0, .int 0], vm := .statics 7 },
  { cls := 10, slots := #[.null, .null, .null], vm := .statics 10 }]
def classes : Array Class := #[k0, k1, k2, k3, k4, k5, k6, k7, k8, k9, k10, k11, k12, k13, k14, k15, k16]
def interned : List (Array UInt16 × Addr) := []
def slotsUsed : Nat := 10
def theMethod : MethodId := ⟨1, 1⟩
def args0 : Array Value := #[.int 1, .int 2, .int 3]
def aboutOver (below : List Frame) : State where
  vm := { classes := classes, interned := interned.toArray }
  heap := heap
  slotsUsed := slotsUsed
  threads := #[{ frames := .invoking theMethod args0 :: below }]
def below0 : List Frame := [.native { method := ⟨0, 0⟩, args := #[] }]
def about1 : State := aboutOver below0
def p0 : Program := .bare "" "" ""
def e0 : Env := launch0.env 0 0 0
theorem w_frames : about1.frames = Frame.invoking theMethod args0 :: below0 := rfl
set_option maxRecDepth 65536 in
theorem w_args : argsFit about1.vm theMethod args0 = true := by decide +kernel
set_option maxRecDepth 65536 in
theorem w_heap : heapFits about1 = true := by decide +kernel
set_option maxRecDepth 65536 in
theorem w_runnable : about1.curStatus? = some .runnable := by decide +kernel
set_option maxRecDepth 65536 in
theorem w_alone : about1.alone = true := by decide +kernel
set_option maxRecDepth 65536 in
theorem w_named : about1.methodNamed? x = some theMethod := by decide +kernel
set_option maxRecDepth 65536 in
theorem w_hears : about1.hears theMethod below0 = true := by decide +kernel
set_option maxRecDepth 65536 in
theorem w_ripe : about1.ripe theMethod args0 below0 = true := by decide +kernel
theorem w_running : about1.status = .running := rfl
set_option maxRecDepth 65536 in
theorem w_room : about1.hasRoom e0.platform room_1 = true :=
  launch0.hasRoom_least _ room_1 (by decide +kernel) (by decide +kernel) (by decide +kernel) (by decide +kernel) (by decide +kernel) (by decide +kernel)
theorem allAtoms_all (ts : List Jvm.Cond) (a : Array Jvm.Value) (st : Jvm.State) : (allAtoms ts).before a st = ts.all (fun c => c.before a st) := by
  induction ts with
  | nil => rfl
  | cons c t ih =>
    show (Jvm.Cond.and c (allAtoms t)).before a st = _
    rw [Jvm.Cond.before_and, ih, List.all_cons]
def words1 : List Jvm.Cond := Jvm.Cond.code x code maxLocals ret :: tables_1
/-- a 'code' word, met by the world's own term for the bytes: nothing is compared byte by byte -/
theorem code_word {y : MethodName} {bytes : ByteArray} {mx : Nat} {rt : Option FieldType} {a : Array Value} {s : State} {m : MethodId} {meth : Method} {c : Code} (h1 : s.methodNamed? y = some m) (h2 : s.vm.method? m = some meth) (h3 : meth.code = some c) (h4 : c.code = bytes)
    (h5 : (c.maxLocals == mx && c.exceptionTable.isEmpty && decide (c.maxStack ≤ mostOperands) && decide (meth.sig.returnType = rt) && !meth.locks && decide (parseMethodDescriptor y.desc = some meth.sig)) = true) : (Jvm.Cond.code y bytes mx rt).before a s = true := by
  simp only [Bool.and_eq_true, beq_iff_eq, Bool.not_eq_true', decide_eq_true_eq] at h5
  obtain ⟨⟨⟨⟨⟨g1, g2⟩, g3⟩, g4⟩, g5⟩, g6⟩ := h5
  simp [Cond.before, Cond.holds, Cond.value, h1, h2, h3, h4, g1, g2, g3, g4, g5, g6]
def isCode : Jvm.Cond → Bool
  | .code _ _ _ _ => true
  | _ => false
theorem all_split {L : List Jvm.Cond} {P : Jvm.Cond → Bool} (h1 : L.all (fun c => isCode c || P c) = true) (h2 : ∀ c ∈ L.filter isCode, P c = true) : L.all P = true := by
  refine List.all_eq_true.mpr fun c hc => ?_
  have h := List.all_eq_true.mp h1 c hc
  rcases Bool.eq_false_or_eq_true (isCode c) with hi | hi
  · exact h2 c (List.mem_filter.mpr ⟨hc, hi⟩)
  · simpa [hi] using h
set_option maxRecDepth 65536 in
theorem w_c0 : (Jvm.Cond.code x code maxLocals ret).before args0 about1 = true := code_word (m := ⟨1, 1⟩) (meth := k1m1) (c := k1c1) (by decide +kernel) rfl rfl rfl (by decide +kernel)
set_option maxRecDepth 65536 in
theorem w_c1 : (Jvm.Cond.code ({ cls := "java/lang/String", name := "valueOf", desc := "(C)Ljava/lang/String;" } : Jvm.MethodName) jdk_42_method_139_code (1 : Nat) (Option.some (Jvm.ClassFile.FieldType.object "java/lang/String"))).before args0 about1 = true := code_word (m := ⟨7, 2⟩) (meth := k7m2) (c := k7c2) (by decide +kernel) rfl rfl rfl (by decide +kernel)
set_option maxRecDepth 65536 in
theorem w_c2 : (Jvm.Cond.code ({ cls := "java/lang/StringLatin1", name := "canEncode", desc := "(C)Z" } : Jvm.MethodName) jdk_43_method_3_code (1 : Nat) (Option.some Jvm.ClassFile.FieldType.boolean)).before args0 about1 = true := code_word (m := ⟨8, 1⟩) (meth := k8m1) (c := k8c1) (by decide +kernel) rfl rfl rfl (by decide +kernel)
set_option maxRecDepth 65536 in
theorem w_c3 : (Jvm.Cond.code ({ cls := "java/lang/StringLatin1", name := "toBytes", desc := "(C)[B" } : Jvm.MethodName) jdk_43_method_46_code (1 : Nat) (Option.some (Jvm.ClassFile.FieldType.array Jvm.ClassFile.FieldType.byte))).before args0 about1 = true := code_word (m := ⟨8, 2⟩) (meth := k8m2) (c := k8c2) (by decide +kernel) rfl rfl rfl (by decide +kernel)
set_option maxRecDepth 65536 in
theorem w_c4 : (Jvm.Cond.code ({ cls := "java/lang/String", name := "<init>", desc := "([BB)V" } : Jvm.MethodName) jdk_42_method_151_code (3 : Nat) (Option.none : Option Jvm.ClassFile.FieldType)).before args0 about1 = true := code_word (m := ⟨7, 3⟩) (meth := k7m3) (c := k7c3) (by decide +kernel) rfl rfl rfl (by decide +kernel)
set_option maxRecDepth 65536 in
theorem w_c5 : (Jvm.Cond.code ({ cls := "java/lang/Object", name := "<init>", desc := "()V" } : Jvm.MethodName) object_method_1_code (1 : Nat) (Option.none : Option Jvm.ClassFile.FieldType)).before args0 about1 = true := code_word (m := ⟨0, 0⟩) (meth := k0m0) (c := k0c0) (by decide +kernel) rfl rfl rfl (by decide +kernel)
set_option maxRecDepth 65536 in
theorem w_c6 : (Jvm.Cond.code ({ cls := "com/example/verlap/verlap/format/Judgment", name := "<init>", desc := "(Ljava/lang/String;Ljava/lang/String;I)V" } : Jvm.MethodName) prog_21_method_1_code (4 : Nat) (Option.none : Option Jvm.ClassFile.FieldType)).before args0 about1 = true := code_word (m := ⟨9, 0⟩) (meth := k9m0) (c := k9c0) (by decide +kernel) rfl rfl rfl (by decide +kernel)
set_option maxRecDepth 65536 in
theorem w_c7 : (Jvm.Cond.code ({ cls := "java/lang/String", name := "isEmpty", desc := "()Z" } : Jvm.MethodName) jdk_42_method_55_code (1 : Nat) (Option.some Jvm.ClassFile.FieldType.boolean)).before args0 about1 = true := code_word (m := ⟨7, 1⟩) (meth := k7m1) (c := k7c1) (by decide +kernel) rfl rfl rfl (by decide +kernel)
set_option maxRecDepth 65536 in
theorem w_c8 : (Jvm.Cond.code ({ cls := "com/example/verlap/verlap/format/Judgment", name := "isRelevant", desc := "()Z" } : Jvm.MethodName) prog_21_method_5_code (1 : Nat) (Option.some Jvm.ClassFile.FieldType.boolean)).before args0 about1 = true := code_word (m := ⟨9, 1⟩) (meth := k9m1) (c := k9c1) (by decide +kernel) rfl rfl rfl (by decide +kernel)
def codes1 : List Jvm.Cond := [Jvm.Cond.code x code maxLocals ret, Jvm.Cond.code ({ cls := "java/lang/String", name := "valueOf", desc := "(C)Ljava/lang/String;" } : Jvm.MethodName) jdk_42_method_139_code (1 : Nat) (Option.some (Jvm.ClassFile.FieldType.object "java/lang/String")), Jvm.Cond.code ({ cls := "java/lang/StringLatin1", name := "canEncode", desc := "(C)Z" } : Jvm.MethodName) jdk_43_method_3_code (1 : Nat) (Option.some Jvm.ClassFile.FieldType.boolean), Jvm.Cond.code ({ cls := "java/lang/StringLatin1", name := "toBytes", desc := "(C)[B" } : Jvm.MethodName) jdk_43_method_46_code (1 : Nat) (Option.some (Jvm.ClassFile.FieldType.array Jvm.ClassFile.FieldType.byte)), Jvm.Cond.code ({ cls := "java/lang/String", name := "<init>", desc := "([BB)V" } : Jvm.MethodName) jdk_42_method_151_code (3 : Nat) (Option.none : Option Jvm.ClassFile.FieldType), Jvm.Cond.code ({ cls := "java/lang/Object", name := "<init>", desc := "()V" } : Jvm.MethodName) object_method_1_code (1 : Nat) (Option.none : Option Jvm.ClassFile.FieldType), Jvm.Cond.code ({ cls := "com/example/verlap/verlap/format/Judgment", name := "<init>", desc := "(Ljava/lang/String;Ljava/lang/String;I)V" } : Jvm.MethodName) prog_21_method_1_code (4 : Nat) (Option.none : Option Jvm.ClassFile.FieldType), Jvm.Cond.code ({ cls := "java/lang/String", name := "isEmpty", desc := "()Z" } : Jvm.MethodName) jdk_42_method_55_code (1 : Nat) (Option.some Jvm.ClassFile.FieldType.boolean), Jvm.Cond.code ({ cls := "com/example/verlap/verlap/format/Judgment", name := "isRelevant", desc := "()Z" } : Jvm.MethodName) prog_21_method_5_code (1 : Nat) (Option.some Jvm.ClassFile.FieldType.boolean)]
set_option maxRecDepth 65536 in
theorem codes_eq : words1.filter isCode = codes1 := rfl
theorem w_codes : ∀ c ∈ words1.filter isCode, c.before args0 about1 = true := by
  rw [codes_eq]
  intro c hc
  simp only [codes1, List.mem_cons, List.not_mem_nil, or_false] at hc
  rcases hc with rfl | rfl | rfl | rfl | rfl | rfl | rfl | rfl | rfl
  · exact w_c0
  · exact w_c1
  · exact w_c2
  · exact w_c3
  · exact w_c4
  · exact w_c5
  · exact w_c6
  · exact w_c7
  · exact w_c8
set_option maxRecDepth 65536 in
theorem w_t1 : (words1.take 24).all (fun c => isCode c || c.before args0 about1) = true := by decide +kernel
set_option maxRecDepth 65536 in
theorem w_t2 : ((words1.drop 24).take 24).all (fun c => isCode c || c.before args0 about1) = true := by decide +kernel
set_option maxRecDepth 65536 in
theorem w_t3 : ((words1.drop 24).drop 24).all (fun c => isCode c || c.before args0 about1) = true := by decide +kernel
theorem w_tables : (allAtoms (Jvm.Cond.code x code maxLocals ret :: tables_1)).before args0 about1 = true := by
  rw [allAtoms_all]
  show words1.all (fun c => c.before args0 about1) = true
  refine all_split ?_ w_codes
  rw [← List.take_append_drop 24 words1, List.all_append, w_t1, ← List.take_append_drop 24 (words1.drop 24), List.all_append, w_t2, w_t3]
  rfl
set_option maxRecDepth 65536 in
theorem w_rest : rest_1_c.before args0 about1 = true := by decide +kernel
set_option maxRecDepth 65536 in
theorem w_case : (Jvm.Cond.and given_1 narrow_1).before args0 about1 = true := by decide +kernel
theorem w_applies : (headSpec (Jvm.Cond.code x code maxLocals ret :: tables_1) room_1).applies x e0.platform about1 = true :=
  (Spec.applies_iff w_frames).mpr ⟨w_running, w_runnable, w_alone, w_named, w_hears, w_ripe, w_room, w_tables⟩
theorem atStart : AtStart classFile x code maxLocals ret World_1 tables_1 room_1 Calls_1 rest_1 Pre_1 launch0 p0 e0 about1 theMethod args0 below0 :=
  ⟨lists_1, trivial, launch0.admits_env _ _ _, launch0.least_env, fairChoices_fair.cas, fairChoices_fair.clock, w_frames, w_args, w_heap, w_applies, trivial, w_rest, w_case⟩
end start1
theorem witness_1 : WitnessClaimed_1 := ⟨start1.p0, start1.e0, start1.about1, start1.theMethod, start1.args0, start1.below0, start1.atStart⟩
end Jvm.Pilot.@@N@@
