import JvmDerived
import JvmDerived.Pilot.@@N@@Statement
import JvmDerived.Pilot.@@N@@Code
set_option linter.unusedVariables false
set_option linter.unusedSimpArgs false
namespace Jvm.OwnK
open Jvm Sem ClassFile Op Lib Jvm.Stand Jvm.Free Jvm.LawKit Jvm.RoadKit Bundle
/-- where a walk stands: pc, locals, stack, heap, cells and slots made so far -/
abbrev Kt := Nat → Array Slot → List Value → Heap → Nat → Nat → Prop
/-- what a body leaves: the value that it returns, the heap -/
abbrev Qt := Option Value → Heap → Prop
/-- a body's end, as its contract asks it -/
def Out (p : Program) (e : Env) (below : List Frame) (s s1 : State) (f0 : JFrame) (R : Room) (n0 : Nat) (Q : Qt) : Prop :=
  ∃ s2 o, Steps p.tables e below (s1.setTop f0) s2 ∧ s2.status = .running ∧ Ended s2 below o ∧ ∃ v L, o = .returned v ∧ (Q v s2.heap ∧ Fr n0 L) ∧ FrameEnd s o s2 L R.cells R.slots
/-- what doesn't change along a walk, and what K and O mean -/
def Ctx (l : Launch) (R : Room) (n0 : Nat) (Z : State) (own : String) (bytes : ByteArray) (ml : Nat) (nm : String) (rt : Option FieldType) (Q : Qt) (K : Kt) (O : Prop) : Prop :=
  ∃ (p : Program) (e : Env) (s : State) (m : MethodId) (args : Array Value) (below : List Frame) (meth : Method) (c : Code) (s1 : State) (f0 : JFrame),
    p.tables.exec = Jvm.exec ∧ c.code = bytes ∧ Z.Warmed39 s.vm ∧ s.vm.findClass own = some m.cls ∧ c.maxLocals = ml ∧ meth.name = nm ∧ meth.sig.returnType = rt ∧ meth.locks = false ∧
    (∀ pc L S h cl sl, K pc L S h cl sl ↔ ∃ T locs, Stand p l e R s m args below meth c T locs cl sl ∧ T.heap = h ∧ Fr n0 locs ∧ ∀ t, Steps p.tables e below (T.setTop (mkF m pc L S)) t → Steps p.tables e below (s1.setTop f0) t) ∧
    (Out p e below s s1 f0 R n0 Q → O)
/-- a body's contract -/
def Con (l : Launch) (y : MethodName) (bytes : ByteArray) (ml : Nat) (rt : Option FieldType) (rm : Room) (Z : State) (as : Array Value) (h : Heap) (n0 : Nat) (Q : Qt) : Prop :=
  ∀ ws : List Jvm.Cond, MetFree l y (head1 (Jvm.Cond.code y bytes ml rt :: ws) rm) (fun a U => a = as ∧ Z.Warmed39 U.vm ∧ U.heap = h) (fun _ _ _ _ _ => True) (fun _ U o U' => ∃ v L, o = .returned v ∧ (Q v U'.heap ∧ Fr n0 L) ∧ FrameEnd U o U' L rm.cells rm.slots)
theorem Con.mono {l : Launch} {y : MethodName} {bytes : ByteArray} {ml : Nat} {rt : Option FieldType} {rm : Room} {Z : State} {as : Array Value} {h : Heap} {n0 : Nat} {Q Q' : Qt} (K : Con l y bytes ml rt rm Z as h n0 Q) (q : ∀ v h', Q v h' → Q' v h') : Con l y bytes ml rt rm Z as h n0 Q' := by
  intro ws p e ha hc hk s m args below hf happ hP hK
  obtain ⟨n, o, h1, h2, h3, v, L, h4, ⟨h5, h6⟩, h7⟩ := K ws p e ha hc hk s m args below hf happ hP hK
  exact ⟨n, o, h1, h2, h3, v, L, h4, ⟨q _ _ h5, h6⟩, h7⟩
theorem Con.enter {l : Launch} {y : MethodName} {bytes : ByteArray} {ml : Nat} {rt : Option FieldType} {rm : Room} {Z : State} {as : Array Value} {h : Heap} {n0 : Nat} {Q : Qt} {L0 : Array Slot} (hpl : plainFor y = true) (hef : ∀ m, entryFrame m as ml = mkF m 0 L0 [])
    (hb : ∀ (K : Kt) (O : Prop), Ctx l rm n0 Z y.cls bytes ml y.name rt Q K O → K 0 L0 [] h 0 0 → O) : Con l y bytes ml rt rm Z as h n0 Q := by
  intro ws
  refine MetFree.of_bodySF hpl hisR ?_
  intro p e s m args below meth c s1 Bd hml0 hP hK
  obtain ⟨rfl, hZ, hh⟩ := hP
  have X0 : Stand p l e rm s m args below meth c s1 [] 0 0 := Stand.of_body Bd
  have e0 : s1.heap = h := by rw [← hh, Bd.state]; rfl
  exact hb (fun pc L S h cl sl => ∃ T locs, Stand p l e rm s m args below meth c T locs cl sl ∧ T.heap = h ∧ Fr n0 locs ∧ ∀ t, Steps p.tables e below (T.setTop (mkF m pc L S)) t → Steps p.tables e below (s1.setTop (entryFrame m args ml)) t)
    (Out p e below s s1 (entryFrame m args ml) rm n0 Q)
    ⟨p, e, s, m, args, below, meth, c, s1, entryFrame m args ml, Bd.exec, Bd.bytes, hZ, findClass_of_methodNamed Bd.named, hml0, (name_of_methodNamed Bd.named Bd.method).1, Bd.returns, Bd.notSynchronized, fun _ _ _ _ _ _ => Iff.rfl, id⟩
    ⟨s1, [], X0, e0, Fr.nil n0, fun t k => castTop (hef m) k⟩
section Steps
variable {l : Launch} {R : Room} {n0 : Nat} {Z : State} {own : String} {bytes : ByteArray} {ml : Nat} {nm : String} {rt : Option FieldType} {Q : Qt} {K : Kt} {O : Prop} {a0 : Array Value} {pc : Nat} {L : Array Slot} {S rest : List Value} {h : Heap} {cl sl : Nat} {pc' : Nat}
theorem Ctx.pure (C : Ctx l R n0 Z own bytes ml nm rt Q K O) (H : K pc L S h cl sl) {L' : Array Slot} {S' : List Value}
    (f : ∀ (p : Program) (e : Env) (s : State) (m : MethodId) (args : Array Value) (below : List Frame) (meth : Method) (c : Code) (T : State) (locs : List Loc), Stand p l e R s m args below meth c T locs cl sl → p.tables.exec = Jvm.exec → c.code = bytes → Z.Warmed39 s.vm → s.vm.findClass own = some m.cls → T.heap = h →
      ∀ t, Steps p.tables e below (T.setTop (mkF m pc' L' S')) t → Steps p.tables e below (T.setTop (mkF m pc L S)) t) : K pc' L' S' h cl sl := by
  obtain ⟨p, e, s, m, args, below, meth, c, s1, f0, hx, hby, hZ, hown, hml, hnm, hrt, hlk, hK, hO⟩ := C
  obtain ⟨T, locs, X, eT, N, st⟩ := (hK _ _ _ _ _ _).mp H
  exact (hK _ _ _ _ _ _).mpr ⟨T, locs, X, eT, N, fun t k => st t (f p e s m args below meth c T locs X hx hby hZ hown eT t k)⟩
/-- a step that may note something in the tables -/
theorem Ctx.note (C : Ctx l R n0 Z own bytes ml nm rt Q K O) (H : K pc L S h cl sl) {L' : Array Slot} {S' : List Value}
    (f : ∀ (p : Program) (e : Env) (s : State) (m : MethodId) (args : Array Value) (below : List Frame) (meth : Method) (c : Code) (T : State) (locs : List Loc), Stand p l e R s m args below meth c T locs cl sl → p.tables.exec = Jvm.exec → c.code = bytes → Z.Warmed39 s.vm → s.vm.findClass own = some m.cls → c.maxLocals = ml → T.heap = h →
      ∃ T', Stand p l e R s m args below meth c T' locs cl sl ∧ T'.heap = h ∧ ∀ t, Steps p.tables e below (T'.setTop (mkF m pc' L' S')) t → Steps p.tables e below (T.setTop (mkF m pc L S)) t) : K pc' L' S' h cl sl := by
  obtain ⟨p, e, s, m, args, below, meth, c, s1, f0, hx, hby, hZ, hown, hml, hnm, hrt, hlk, hK, hO⟩ := C
  obtain ⟨T, locs, X, eT, N, st⟩ := (hK _ _ _ _ _ _).mp H
  obtain ⟨T', X', eT', st'⟩ := f p e s m args below meth c T locs X hx hby hZ hown hml eT
  exact (hK _ _ _ _ _ _).mpr ⟨T', locs, X', eT', N, fun t k => st t (st' t k)⟩

theorem k_iloadN (C : Ctx l R n0 Z own bytes ml nm rt Q K O) {k : Fin 4} {v : Int32} (H : K pc L (S) h cl sl) (d : decode bytes pc = .ok (.iload_n k, 1)) (hl : L[k.val]? = some (.val (.int v))) (hp : pc + 1 = pc') : K pc' L ((.int v) :: S) h cl sl := by
  subst hp
  exact C.pure H fun p e s m args below meth c T locs X hx hby _ _ _ t k => XS.iloadN X.here hx rfl (hb hby d) hl k
theorem k_iload (C : Ctx l R n0 Z own bytes ml nm rt Q K O) {k : Nat} {v : Int32} (H : K pc L (S) h cl sl) (d : decode bytes pc = .ok (.iload k, 2)) (hl : L[k]? = some (.val (.int v))) (hp : pc + 2 = pc') : K pc' L ((.int v) :: S) h cl sl := by
  subst hp
  exact C.pure H fun p e s m args below meth c T locs X hx hby _ _ _ t k => XS.iload X.here hx rfl (hb hby d) hl k
theorem k_lloadN (C : Ctx l R n0 Z own bytes ml nm rt Q K O) {k : Fin 4} {v : Int64} (H : K pc L (S) h cl sl) (d : decode bytes pc = .ok (.lload_n k, 1)) (hl : L[k.val]? = some (.val (.long v))) (hp : pc + 1 = pc') : K pc' L ((.long v) :: S) h cl sl := by
  subst hp
  exact C.pure H fun p e s m args below meth c T locs X hx hby _ _ _ t k => XS.lloadN X.here hx rfl (hb hby d) hl k
theorem k_lload (C : Ctx l R n0 Z own bytes ml nm rt Q K O) {k : Nat} {v : Int64} (H : K pc L (S) h cl sl) (d : decode bytes pc = .ok (.lload k, 2)) (hl : L[k]? = some (.val (.long v))) (hp : pc + 2 = pc') : K pc' L ((.long v) :: S) h cl sl := by
  subst hp
  exact C.pure H fun p e s m args below meth c T locs X hx hby _ _ _ t k => XS.lload X.here hx rfl (hb hby d) hl k
theorem k_aloadN (C : Ctx l R n0 Z own bytes ml nm rt Q K O) {k : Fin 4} {v : Value} (H : K pc L (S) h cl sl) (d : decode bytes pc = .ok (.aload_n k, 1)) (hl : L[k.val]? = some (.val v)) (hv : v.isRef = true) (hp : pc + 1 = pc') : K pc' L (v :: S) h cl sl := by
  subst hp
  exact C.pure H fun p e s m args below meth c T locs X hx hby _ _ _ t k => XS.aloadN X.here hx rfl (hb hby d) hl hv k
theorem k_aload (C : Ctx l R n0 Z own bytes ml nm rt Q K O) {k : Nat} {v : Value} (H : K pc L (S) h cl sl) (d : decode bytes pc = .ok (.aload k, 2)) (hl : L[k]? = some (.val v)) (hv : v.isRef = true) (hp : pc + 2 = pc') : K pc' L (v :: S) h cl sl := by
  subst hp
  exact C.pure H fun p e s m args below meth c T locs X hx hby _ _ _ t k => XS.aload X.here hx rfl (hb hby d) hl hv k
theorem k_istoreN (C : Ctx l R n0 Z own bytes ml nm rt Q K O) {k : Fin 4} {v : Int32} {L' : Array Slot} (H : K pc L ((.int v) :: rest) h cl sl) (d : decode bytes pc = .ok (.istore_n k, 1)) (hl : storeLocals L k.val (.int v) = some L') (hp : pc + 1 = pc') : K pc' L' (rest) h cl sl := by
  subst hp
  exact C.pure H fun p e s m args below meth c T locs X hx hby _ _ _ t k => XS.istoreN X.here hx rfl (hb hby d) rfl hl k
theorem k_istore (C : Ctx l R n0 Z own bytes ml nm rt Q K O) {k : Nat} {v : Int32} {L' : Array Slot} (H : K pc L ((.int v) :: rest) h cl sl) (d : decode bytes pc = .ok (.istore k, 2)) (hl : storeLocals L k (.int v) = some L') (hp : pc + 2 = pc') : K pc' L' (rest) h cl sl := by
  subst hp
  exact C.pure H fun p e s m args below meth c T locs X hx hby _ _ _ t k => XS.istore X.here hx rfl (hb hby d) rfl hl k
theorem k_lstoreN (C : Ctx l R n0 Z own bytes ml nm rt Q K O) {k : Fin 4} {v : Int64} {L' : Array Slot} (H : K pc L ((.long v) :: rest) h cl sl) (d : decode bytes pc = .ok (.lstore_n k, 1)) (hl : storeLocals L k.val (.long v) = some L') (hp : pc + 1 = pc') : K pc' L' (rest) h cl sl := by
  subst hp
  exact C.pure H fun p e s m args below meth c T locs X hx hby _ _ _ t k => XS.lstoreN X.here hx rfl (hb hby d) rfl hl k
theorem k_lstore (C : Ctx l R n0 Z own bytes ml nm rt Q K O) {k : Nat} {v : Int64} {L' : Array Slot} (H : K pc L ((.long v) :: rest) h cl sl) (d : decode bytes pc = .ok (.lstore k, 2)) (hl : storeLocals L k (.long v) = some L') (hp : pc + 2 = pc') : K pc' L' (rest) h cl sl := by
  subst hp
  exact C.pure H fun p e s m args below meth c T locs X hx hby _ _ _ t k => XS.lstore X.here hx rfl (hb hby d) rfl hl k
theorem k_astoreN (C : Ctx l R n0 Z own bytes ml nm rt Q K O) {k : Fin 4} {v : Value} {L' : Array Slot} (H : K pc L (v :: rest) h cl sl) (d : decode bytes pc = .ok (.astore_n k, 1)) (hv : v.isRef = true) (hl : storeLocals L k.val v = some L') (hp : pc + 1 = pc') : K pc' L' (rest) h cl sl := by
  subst hp
  exact C.pure H fun p e s m args below meth c T locs X hx hby _ _ _ t k => XS.astoreN X.here hx rfl (hb hby d) rfl hv hl k
theorem k_astore (C : Ctx l R n0 Z own bytes ml nm rt Q K O) {k : Nat} {v : Value} {L' : Array Slot} (H : K pc L (v :: rest) h cl sl) (d : decode bytes pc = .ok (.astore k, 2)) (hv : v.isRef = true) (hl : storeLocals L k v = some L') (hp : pc + 2 = pc') : K pc' L' (rest) h cl sl := by
  subst hp
  exact C.pure H fun p e s m args below meth c T locs X hx hby _ _ _ t k => XS.astore X.here hx rfl (hb hby d) rfl hv hl k
theorem k_iconst (C : Ctx l R n0 Z own bytes ml nm rt Q K O) {i : Int} {v : Int32} (H : K pc L (S) h cl sl) (d : decode bytes pc = .ok (.iconst i, 1)) (hv : Int32.ofInt i = v) (hp : pc + 1 = pc') : K pc' L (.int v :: S) h cl sl := by
  subst hp
  exact C.pure H fun p e s m args below meth c T locs X hx hby _ _ _ t k => XS.iconst X.here hx rfl (hb hby d) (by rw [hv]; exact k)
theorem k_bipush (C : Ctx l R n0 Z own bytes ml nm rt Q K O) {i : Int} {v : Int32} (H : K pc L (S) h cl sl) (d : decode bytes pc = .ok (.bipush i, 2)) (hv : (Int8.ofInt i).toInt32 = v) (hp : pc + 2 = pc') : K pc' L (.int v :: S) h cl sl := by
  subst hp
  exact C.pure H fun p e s m args below meth c T locs X hx hby _ _ _ t k => XS.bipush X.here hx rfl (hb hby d) (by rw [hv]; exact k)
theorem k_sipush (C : Ctx l R n0 Z own bytes ml nm rt Q K O) {i : Int} {v : Int32} (H : K pc L (S) h cl sl) (d : decode bytes pc = .ok (.sipush i, 3)) (hv : (Int16.ofInt i).toInt32 = v) (hp : pc + 3 = pc') : K pc' L (.int v :: S) h cl sl := by
  subst hp
  exact C.pure H fun p e s m args below meth c T locs X hx hby _ _ _ t k => XS.sipush X.here hx rfl (hb hby d) (by rw [hv]; exact k)
theorem k_lconst (C : Ctx l R n0 Z own bytes ml nm rt Q K O) {i : Fin 2} {v : Int64} (H : K pc L (S) h cl sl) (d : decode bytes pc = .ok (.lconst i, 1)) (hv : Int64.ofNat i = v) (hp : pc + 1 = pc') : K pc' L (.long v :: S) h cl sl := by
  subst hp
  exact C.pure H fun p e s m args below meth c T locs X hx hby _ _ _ t k => XS.lconst X.here hx rfl (hb hby d) (by rw [hv]; exact k)
theorem k_anull (C : Ctx l R n0 Z own bytes ml nm rt Q K O)  (H : K pc L (S) h cl sl) (d : decode bytes pc = .ok (.aconst_null, 1))  (hp : pc + 1 = pc') : K pc' L (.null :: S) h cl sl := by
  subst hp
  exact C.pure H fun p e s m args below meth c T locs X hx hby _ _ _ t k => XS.aconstNull X.here hx rfl (hb hby d) k
theorem k_iadd (C : Ctx l R n0 Z own bytes ml nm rt Q K O) {x y : Int32} (H : K pc L (.int y :: .int x :: rest) h cl sl) (d : decode bytes pc = .ok (.iadd, 1))  (hp : pc + 1 = pc') : K pc' L (.int (x + y) :: rest) h cl sl := by
  subst hp
  exact C.pure H fun p e s m args below meth c T locs X hx hby _ _ _ t k => XS.iadd X.here hx rfl (hb hby d) rfl k
theorem k_isub (C : Ctx l R n0 Z own bytes ml nm rt Q K O) {x y : Int32} (H : K pc L (.int y :: .int x :: rest) h cl sl) (d : decode bytes pc = .ok (.isub, 1))  (hp : pc + 1 = pc') : K pc' L (.int (x - y) :: rest) h cl sl := by
  subst hp
  exact C.pure H fun p e s m args below meth c T locs X hx hby _ _ _ t k => XS.isub X.here hx rfl (hb hby d) rfl k
theorem k_imul (C : Ctx l R n0 Z own bytes ml nm rt Q K O) {x y : Int32} (H : K pc L (.int y :: .int x :: rest) h cl sl) (d : decode bytes pc = .ok (.imul, 1))  (hp : pc + 1 = pc') : K pc' L (.int (x * y) :: rest) h cl sl := by
  subst hp
  exact C.pure H fun p e s m args below meth c T locs X hx hby _ _ _ t k => XS.imul X.here hx rfl (hb hby d) rfl k
theorem k_iand (C : Ctx l R n0 Z own bytes ml nm rt Q K O) {x y : Int32} (H : K pc L (.int y :: .int x :: rest) h cl sl) (d : decode bytes pc = .ok (.iand, 1))  (hp : pc + 1 = pc') : K pc' L (.int (x &&& y) :: rest) h cl sl := by
  subst hp
  exact C.pure H fun p e s m args below meth c T locs X hx hby _ _ _ t k => XS.iand X.here hx rfl (hb hby d) rfl k
theorem k_ior (C : Ctx l R n0 Z own bytes ml nm rt Q K O) {x y : Int32} (H : K pc L (.int y :: .int x :: rest) h cl sl) (d : decode bytes pc = .ok (.ior, 1))  (hp : pc + 1 = pc') : K pc' L (.int (x ||| y) :: rest) h cl sl := by
  subst hp
  exact C.pure H fun p e s m args below meth c T locs X hx hby _ _ _ t k => XS.ior X.here hx rfl (hb hby d) rfl k
theorem k_ixor (C : Ctx l R n0 Z own bytes ml nm rt Q K O) {x y : Int32} (H : K pc L (.int y :: .int x :: rest) h cl sl) (d : decode bytes pc = .ok (.ixor, 1))  (hp : pc + 1 = pc') : K pc' L (.int (x ^^^ y) :: rest) h cl sl := by
  subst hp
  exact C.pure H fun p e s m args below meth c T locs X hx hby _ _ _ t k => XS.ixor X.here hx rfl (hb hby d) rfl k
theorem k_ishl (C : Ctx l R n0 Z own bytes ml nm rt Q K O) {x y : Int32} (H : K pc L (.int y :: .int x :: rest) h cl sl) (d : decode bytes pc = .ok (.ishl, 1))  (hp : pc + 1 = pc') : K pc' L (.int (x <<< (y &&& 31)) :: rest) h cl sl := by
  subst hp
  exact C.pure H fun p e s m args below meth c T locs X hx hby _ _ _ t k => XS.ishl X.here hx rfl (hb hby d) rfl k
theorem k_ishr (C : Ctx l R n0 Z own bytes ml nm rt Q K O) {x y : Int32} (H : K pc L (.int y :: .int x :: rest) h cl sl) (d : decode bytes pc = .ok (.ishr, 1))  (hp : pc + 1 = pc') : K pc' L (.int (x >>> (y &&& 31)) :: rest) h cl sl := by
  subst hp
  exact C.pure H fun p e s m args below meth c T locs X hx hby _ _ _ t k => XS.ishr X.here hx rfl (hb hby d) rfl k
theorem k_iushr (C : Ctx l R n0 Z own bytes ml nm rt Q K O) {x y : Int32} (H : K pc L (.int y :: .int x :: rest) h cl sl) (d : decode bytes pc = .ok (.iushr, 1))  (hp : pc + 1 = pc') : K pc' L (.int ((x.toUInt32 >>> (y &&& 31).toUInt32).toInt32) :: rest) h cl sl := by
  subst hp
  exact C.pure H fun p e s m args below meth c T locs X hx hby _ _ _ t k => XS.iushr X.here hx rfl (hb hby d) rfl k
theorem k_ladd (C : Ctx l R n0 Z own bytes ml nm rt Q K O) {x y : Int64} (H : K pc L (.long y :: .long x :: rest) h cl sl) (d : decode bytes pc = .ok (.ladd, 1))  (hp : pc + 1 = pc') : K pc' L (.long (x + y) :: rest) h cl sl := by
  subst hp
  exact C.pure H fun p e s m args below meth c T locs X hx hby _ _ _ t k => XS.ladd X.here hx rfl (hb hby d) rfl k
theorem k_lsub (C : Ctx l R n0 Z own bytes ml nm rt Q K O) {x y : Int64} (H : K pc L (.long y :: .long x :: rest) h cl sl) (d : decode bytes pc = .ok (.lsub, 1))  (hp : pc + 1 = pc') : K pc' L (.long (x - y) :: rest) h cl sl := by
  subst hp
  exact C.pure H fun p e s m args below meth c T locs X hx hby _ _ _ t k => XS.lsub X.here hx rfl (hb hby d) rfl k
theorem k_lmul (C : Ctx l R n0 Z own bytes ml nm rt Q K O) {x y : Int64} (H : K pc L (.long y :: .long x :: rest) h cl sl) (d : decode bytes pc = .ok (.lmul, 1))  (hp : pc + 1 = pc') : K pc' L (.long (x * y) :: rest) h cl sl := by
  subst hp
  exact C.pure H fun p e s m args below meth c T locs X hx hby _ _ _ t k => XS.lmul X.here hx rfl (hb hby d) rfl k
theorem k_land (C : Ctx l R n0 Z own bytes ml nm rt Q K O) {x y : Int64} (H : K pc L (.long y :: .long x :: rest) h cl sl) (d : decode bytes pc = .ok (.land, 1))  (hp : pc + 1 = pc') : K pc' L (.long (x &&& y) :: rest) h cl sl := by
  subst hp
  exact C.pure H fun p e s m args below meth c T locs X hx hby _ _ _ t k => XS.land X.here hx rfl (hb hby d) rfl k
theorem k_lor (C : Ctx l R n0 Z own bytes ml nm rt Q K O) {x y : Int64} (H : K pc L (.long y :: .long x :: rest) h cl sl) (d : decode bytes pc = .ok (.lor, 1))  (hp : pc + 1 = pc') : K pc' L (.long (x ||| y) :: rest) h cl sl := by
  subst hp
  exact C.pure H fun p e s m args below meth c T locs X hx hby _ _ _ t k => XS.lor X.here hx rfl (hb hby d) rfl k
theorem k_lxor (C : Ctx l R n0 Z own bytes ml nm rt Q K O) {x y : Int64} (H : K pc L (.long y :: .long x :: rest) h cl sl) (d : decode bytes pc = .ok (.lxor, 1))  (hp : pc + 1 = pc') : K pc' L (.long (x ^^^ y) :: rest) h cl sl := by
  subst hp
  exact C.pure H fun p e s m args below meth c T locs X hx hby _ _ _ t k => XS.lxor X.here hx rfl (hb hby d) rfl k
theorem k_lshl (C : Ctx l R n0 Z own bytes ml nm rt Q K O) {x : Int64} {y : Int32} (H : K pc L (.int y :: .long x :: rest) h cl sl) (d : decode bytes pc = .ok (.lshl, 1))  (hp : pc + 1 = pc') : K pc' L (.long (x <<< (y &&& 0x3f).toInt64) :: rest) h cl sl := by
  subst hp
  exact C.pure H fun p e s m args below meth c T locs X hx hby _ _ _ t k => XS.lshl X.here hx rfl (hb hby d) rfl k
theorem k_lshr (C : Ctx l R n0 Z own bytes ml nm rt Q K O) {x : Int64} {y : Int32} (H : K pc L (.int y :: .long x :: rest) h cl sl) (d : decode bytes pc = .ok (.lshr, 1))  (hp : pc + 1 = pc') : K pc' L (.long (x >>> (y &&& 0x3f).toInt64) :: rest) h cl sl := by
  subst hp
  exact C.pure H fun p e s m args below meth c T locs X hx hby _ _ _ t k => XS.lshr X.here hx rfl (hb hby d) rfl k
theorem k_lushr (C : Ctx l R n0 Z own bytes ml nm rt Q K O) {x : Int64} {y : Int32} (H : K pc L (.int y :: .long x :: rest) h cl sl) (d : decode bytes pc = .ok (.lushr, 1))  (hp : pc + 1 = pc') : K pc' L (.long ((x.toUInt64 >>> (y &&& 0x3f).toInt64.toUInt64).toInt64) :: rest) h cl sl := by
  subst hp
  exact C.pure H fun p e s m args below meth c T locs X hx hby _ _ _ t k => XS.lushr X.here hx rfl (hb hby d) rfl k
theorem k_lcmp (C : Ctx l R n0 Z own bytes ml nm rt Q K O) {x y : Int64} (H : K pc L (.long y :: .long x :: rest) h cl sl) (d : decode bytes pc = .ok (.lcmp, 1))  (hp : pc + 1 = pc') : K pc' L (.int (lcmpW x y) :: rest) h cl sl := by
  subst hp
  exact C.pure H fun p e s m args below meth c T locs X hx hby _ _ _ t k => XS.lcmp X.here hx rfl (hb hby d) rfl k
theorem k_ineg (C : Ctx l R n0 Z own bytes ml nm rt Q K O) {x : Int32} (H : K pc L (.int x :: rest) h cl sl) (d : decode bytes pc = .ok (.ineg, 1))  (hp : pc + 1 = pc') : K pc' L (.int (-x) :: rest) h cl sl := by
  subst hp
  exact C.pure H fun p e s m args below meth c T locs X hx hby _ _ _ t k => XS.ineg X.here hx rfl (hb hby d) rfl k
theorem k_idiv (C : Ctx l R n0 Z own bytes ml nm rt Q K O) {x y : Int32} (H : K pc L (.int y :: .int x :: rest) h cl sl) (d : decode bytes pc = .ok (.idiv, 1)) (hy : y ≠ 0) (hp : pc + 1 = pc') : K pc' L (.int (x / y) :: rest) h cl sl := by
  subst hp
  exact C.pure H fun p e s m args below meth c T locs X hx hby _ _ _ t k => XS.idiv X.here hx rfl (hb hby d) rfl hy k
theorem k_irem (C : Ctx l R n0 Z own bytes ml nm rt Q K O) {x y : Int32} (H : K pc L (.int y :: .int x :: rest) h cl sl) (d : decode bytes pc = .ok (.irem, 1)) (hy : y ≠ 0) (hp : pc + 1 = pc') : K pc' L (.int (x % y) :: rest) h cl sl := by
  subst hp
  exact C.pure H fun p e s m args below meth c T locs X hx hby _ _ _ t k => iremM X hx rfl (hb hby d) rfl hy k
theorem k_ldiv (C : Ctx l R n0 Z own bytes ml nm rt Q K O) {x y : Int64} (H : K pc L (.long y :: .long x :: rest) h cl sl) (d : decode bytes pc = .ok (.ldiv, 1)) (hy : y ≠ 0) (hp : pc + 1 = pc') : K pc' L (.long (x / y) :: rest) h cl sl := by
  subst hp
  exact C.pure H fun p e s m args below meth c T locs X hx hby _ _ _ t k => XS.ldiv X.here hx rfl (hb hby d) rfl hy k
theorem k_i2l (C : Ctx l R n0 Z own bytes ml nm rt Q K O) {x : Int32} (H : K pc L (.int x :: rest) h cl sl) (d : decode bytes pc = .ok (.i2l, 1))  (hp : pc + 1 = pc') : K pc' L (.long (x.toInt64) :: rest) h cl sl := by
  subst hp
  exact C.pure H fun p e s m args below meth c T locs X hx hby _ _ _ t k => XS.i2l X.here hx rfl (hb hby d) rfl k
theorem k_l2i (C : Ctx l R n0 Z own bytes ml nm rt Q K O) {x : Int64} (H : K pc L (.long x :: rest) h cl sl) (d : decode bytes pc = .ok (.l2i, 1))  (hp : pc + 1 = pc') : K pc' L (.int (x.toInt32) :: rest) h cl sl := by
  subst hp
  exact C.pure H fun p e s m args below meth c T locs X hx hby _ _ _ t k => XS.l2i X.here hx rfl (hb hby d) rfl k
theorem k_i2b (C : Ctx l R n0 Z own bytes ml nm rt Q K O) {x : Int32} (H : K pc L (.int x :: rest) h cl sl) (d : decode bytes pc = .ok (.i2b, 1))  (hp : pc + 1 = pc') : K pc' L (.int (x.toInt8.toInt32) :: rest) h cl sl := by
  subst hp
  exact C.pure H fun p e s m args below meth c T locs X hx hby _ _ _ t k => XS.i2b X.here hx rfl (hb hby d) rfl k
theorem k_i2c (C : Ctx l R n0 Z own bytes ml nm rt Q K O) {x : Int32} (H : K pc L (.int x :: rest) h cl sl) (d : decode bytes pc = .ok (.i2c, 1))  (hp : pc + 1 = pc') : K pc' L (.int (x.toUInt32.toUInt16.toUInt32.toInt32) :: rest) h cl sl := by
  subst hp
  exact C.pure H fun p e s m args below meth c T locs X hx hby _ _ _ t k => XS.i2c X.here hx rfl (hb hby d) rfl k
theorem k_i2s (C : Ctx l R n0 Z own bytes ml nm rt Q K O) {x : Int32} (H : K pc L (.int x :: rest) h cl sl) (d : decode bytes pc = .ok (.i2s, 1))  (hp : pc + 1 = pc') : K pc' L (.int (x.toInt16.toInt32) :: rest) h cl sl := by
  subst hp
  exact C.pure H fun p e s m args below meth c T locs X hx hby _ _ _ t k => XS.i2s X.here hx rfl (hb hby d) rfl k
theorem k_dup (C : Ctx l R n0 Z own bytes ml nm rt Q K O) {x : Value} (H : K pc L (x :: rest) h cl sl) (d : decode bytes pc = .ok (.dup, 1)) (hc : x.category = 1) (hp : pc + 1 = pc') : K pc' L (x :: x :: rest) h cl sl := by
  subst hp
  exact C.pure H fun p e s m args below meth c T locs X hx hby _ _ _ t k => XS.dup X.here hx rfl (hb hby d) rfl hc k
theorem k_pop (C : Ctx l R n0 Z own bytes ml nm rt Q K O) {x : Value} (H : K pc L (x :: rest) h cl sl) (d : decode bytes pc = .ok (.pop, 1)) (hc : x.category = 1) (hp : pc + 1 = pc') : K pc' L (rest) h cl sl := by
  subst hp
  exact C.pure H fun p e s m args below meth c T locs X hx hby _ _ _ t k => XS.pop X.here hx rfl (hb hby d) rfl hc k
theorem k_dupX1 (C : Ctx l R n0 Z own bytes ml nm rt Q K O) {x y : Value} (H : K pc L (x :: y :: rest) h cl sl) (d : decode bytes pc = .ok (.dup_x1, 1)) (hc : x.category = 1) (hc' : y.category = 1) (hp : pc + 1 = pc') : K pc' L (x :: y :: x :: rest) h cl sl := by
  subst hp
  exact C.pure H fun p e s m args below meth c T locs X hx hby _ _ _ t k => XS.dupX1 X.here hx rfl (hb hby d) rfl hc hc' k
theorem k_dup2 (C : Ctx l R n0 Z own bytes ml nm rt Q K O) {x y : Value} (H : K pc L (x :: y :: rest) h cl sl) (d : decode bytes pc = .ok (.dup2, 1)) (hc : x.category = 1) (hc' : y.category = 1) (hp : pc + 1 = pc') : K pc' L (x :: y :: x :: y :: rest) h cl sl := by
  subst hp
  exact C.pure H fun p e s m args below meth c T locs X hx hby _ _ _ t k => Jvm.Free.XT.dup2 X.here hx rfl (hb hby d) rfl hc hc' k
theorem k_iinc (C : Ctx l R n0 Z own bytes ml nm rt Q K O) {k : Nat} {i : Int} {x y : Int32} {L' : Array Slot} (H : K pc L (S) h cl sl) (d : decode bytes pc = .ok (.iinc k i, 3)) (hl : L[k]? = some (.val (.int x))) (hv : x + Int32.ofInt i = y) (hl' : storeLocals L k (.int y) = some L') (hp : pc + 3 = pc') : K pc' L' (S) h cl sl := by
  subst hp
  exact C.pure H fun p e s m args below meth c T locs X hx hby _ _ _ t k => XS.iinc X.here hx rfl (hb hby d) hl (by rw [hv]; exact hl') k
theorem k_ifcY (C : Ctx l R n0 Z own bytes ml nm rt Q K O) {cd : ClassFile.Cond} {o : Int} {x : Int32} (H : K pc L (.int x :: rest) h cl sl) (d : decode bytes pc = .ok (.ifCond cd o, 3)) (hc : if_icmp.holds cd x 0 = true) (ho : 0 ≤ (pc : Int) + o) (hp : ((pc : Int) + o).toNat = pc') : K pc' L rest h cl sl :=
  C.pure H fun p e s m args below meth c T locs X hx hby _ _ _ t k => XS.ifYes X.here hx rfl (pc0 := pc) rfl (hb hby d) rfl ((if0 _ _).trans hc) ho hp k
theorem k_ifcN (C : Ctx l R n0 Z own bytes ml nm rt Q K O) {cd : ClassFile.Cond} {o : Int} {x : Int32} (H : K pc L (.int x :: rest) h cl sl) (d : decode bytes pc = .ok (.ifCond cd o, 3)) (hc : if_icmp.holds cd x 0 = false) (hp : pc + 3 = pc') : K pc' L rest h cl sl := by
  subst hp
  exact C.pure H fun p e s m args below meth c T locs X hx hby _ _ _ t k => XS.ifNo X.here hx rfl (hb hby d) rfl ((if0 _ _).trans hc) k
theorem k_icmpY (C : Ctx l R n0 Z own bytes ml nm rt Q K O) {cd : ClassFile.Cond} {o : Int} {x y : Int32} (H : K pc L (.int y :: .int x :: rest) h cl sl) (d : decode bytes pc = .ok (.if_icmp cd o, 3)) (hc : if_icmp.holds cd x y = true) (ho : 0 ≤ (pc : Int) + o) (hp : ((pc : Int) + o).toNat = pc') : K pc' L rest h cl sl :=
  C.pure H fun p e s m args below meth c T locs X hx hby _ _ _ t k => XS.icmpYes X.here hx rfl (pc0 := pc) rfl (hb hby d) rfl hc ho hp k
theorem k_icmpN (C : Ctx l R n0 Z own bytes ml nm rt Q K O) {cd : ClassFile.Cond} {o : Int} {x y : Int32} (H : K pc L (.int y :: .int x :: rest) h cl sl) (d : decode bytes pc = .ok (.if_icmp cd o, 3)) (hc : if_icmp.holds cd x y = false) (hp : pc + 3 = pc') : K pc' L rest h cl sl := by
  subst hp
  exact C.pure H fun p e s m args below meth c T locs X hx hby _ _ _ t k => XS.icmpNo X.here hx rfl (hb hby d) rfl hc k
theorem k_goto (C : Ctx l R n0 Z own bytes ml nm rt Q K O) (H : K pc L S h cl sl) {o : Int} (d : decode bytes pc = .ok (.goto o, 3)) (ho : 0 ≤ (pc : Int) + o) (hp : ((pc : Int) + o).toNat = pc') : K pc' L S h cl sl :=
  C.pure H fun p e s m args below meth c T locs X hx hby _ _ _ t k => XS.goto X.here hx rfl (pc0 := pc) rfl (hb hby d) ho hp k
theorem k_ifnullY (C : Ctx l R n0 Z own bytes ml nm rt Q K O) (H : K pc L (.null :: rest) h cl sl) {o : Int} (d : decode bytes pc = .ok (.ifnull o, 3)) (ho : 0 ≤ (pc : Int) + o) (hp : ((pc : Int) + o).toNat = pc') : K pc' L rest h cl sl :=
  C.pure H fun p e s m args below meth c T locs X hx hby _ _ _ t k => XS.ifnullYes X.here hx rfl (pc0 := pc) rfl (hb hby d) rfl ho hp k
theorem k_ifnullN (C : Ctx l R n0 Z own bytes ml nm rt Q K O) {b : Addr} (H : K pc L (.ref b :: rest) h cl sl) {o : Int} (d : decode bytes pc = .ok (.ifnull o, 3)) (hp : pc + 3 = pc') : K pc' L rest h cl sl := by
  subst hp
  exact C.pure H fun p e s m args below meth c T locs X hx hby _ _ _ t k => XS.ifnullNo X.here hx rfl (hb hby d) rfl k
theorem k_ifnonnullY (C : Ctx l R n0 Z own bytes ml nm rt Q K O) {b : Addr} (H : K pc L (.ref b :: rest) h cl sl) {o : Int} (d : decode bytes pc = .ok (.ifnonnull o, 3)) (ho : 0 ≤ (pc : Int) + o) (hp : ((pc : Int) + o).toNat = pc') : K pc' L rest h cl sl :=
  C.pure H fun p e s m args below meth c T locs X hx hby _ _ _ t k => XS.ifnonnullYes X.here hx rfl (pc0 := pc) rfl (hb hby d) rfl ho hp k
theorem k_ifnonnullN (C : Ctx l R n0 Z own bytes ml nm rt Q K O) (H : K pc L (.null :: rest) h cl sl) {o : Int} (d : decode bytes pc = .ok (.ifnonnull o, 3)) (hp : pc + 3 = pc') : K pc' L rest h cl sl := by
  subst hp
  exact C.pure H fun p e s m args below meth c T locs X hx hby _ _ _ t k => XS.ifnonnullNo X.here hx rfl (hb hby d) rfl k
theorem k_acmp (C : Ctx l R n0 Z own bytes ml nm rt Q K O) {x y : Value} (H : K pc L (y :: x :: rest) h cl sl) {cd : ACond} {o : Int} (d : decode bytes pc = .ok (.if_acmp cd o, 3)) (h1 : x.isRef = true) (h2 : y.isRef = true) {same : Bool} (hq : decide (x = y) = same) (ho : 0 ≤ (pc : Int) + o) (hp : pc' = if acV cd same = true then ((pc : Int) + o).toNat else pc + 3) : K pc' L rest h cl sl :=
  C.pure H fun p e s m args below meth c T locs X hx hby _ _ _ t k => Jvm.RoadKit.acmp X hx rfl h1 h2 (pc0 := pc) rfl (hb hby d) rfl hq ho hp k
theorem k_dupX2 (C : Ctx l R n0 Z own bytes ml nm rt Q K O) {x y z : Value} (H : K pc L (x :: y :: z :: rest) h cl sl) (d : decode bytes pc = .ok (.dup_x2, 1)) (h1 : x.category = 1) (h2 : y.category = 1) (h3 : z.category = 1) (hp : pc + 1 = pc') : K pc' L (x :: y :: z :: x :: rest) h cl sl := by
  subst hp
  refine C.pure H fun p e s m args below meth c T locs X hx hby _ _ _ t k => ?_
  jvm_step X.here [X.here.top, hx, hb hby d, h1, h2, h3]
  exact k
theorem k_ldcI (C : Ctx l R n0 Z own bytes ml nm rt Q K O) (H : K pc L S h cl sl) {i : Nat} {v : Int32} (w : (Cond.constant own i v).before a0 Z = true) (d : decode bytes pc = .ok (.ldc i, 2)) (hp : pc + 2 = pc') : K pc' L (.int v :: S) h cl sl := by
  subst hp
  exact C.pure H fun p e s m args below meth c T locs X hx hby hZ hown _ t k => X.ldcInt hx hown (mvT hZ w) (g := mkF m pc L S) rfl (hb hby d) t k
theorem k_ldcL (C : Ctx l R n0 Z own bytes ml nm rt Q K O) (H : K pc L S h cl sl) {i : Nat} {v : Int64} (w : (Cond.constantLong own i v).before a0 Z = true) (d : decode bytes pc = .ok (.ldc2_w i, 3)) (hp : pc + 3 = pc') : K pc' L (.long v :: S) h cl sl := by
  subst hp
  exact C.pure H fun p e s m args below meth c T locs X hx hby hZ hown _ t k => X.ldc2Long hx hown (mvT hZ w) (g := mkF m pc L S) rfl (hb hby d) t k
theorem k_getFld (C : Ctx l R n0 Z own bytes ml nm rt Q K O) {a : Addr} (H : K pc L (.ref a :: rest) h cl sl) {i : Nat} {O' n d' : String} {v : Value} (w : (Cond.fieldLink own i O' n d').before a0 Z = true) (F : Fld Z h a O' n d' v) (d : decode bytes pc = .ok (.getfield i, 3)) (hp : pc + 3 = pc') : K pc' L (v :: rest) h cl sl := by
  subst hp
  exact C.note H fun p e s m args below meth c T locs X hx hby hZ hown _ eT => getF X hx hZ hown (host := "") (Or.inl w) Via.refl eT F (g := mkF m pc L (.ref a :: rest)) rfl rfl (hb hby d)
theorem k_getFldN (C : Ctx l R n0 Z own bytes ml nm rt Q K O) {a : Addr} (H : K pc L (.ref a :: rest) h cl sl) {i : Nat} {O' n d' host : String} {v : Value} (w : (Cond.fieldLinkNest own i O' n d' host).before a0 Z = true) (F : Fld Z h a O' n d' v) (d : decode bytes pc = .ok (.getfield i, 3)) (hp : pc + 3 = pc') : K pc' L (v :: rest) h cl sl := by
  subst hp
  exact C.note H fun p e s m args below meth c T locs X hx hby hZ hown _ eT => getF X hx hZ hown (Or.inr w) Via.refl eT F (g := mkF m pc L (.ref a :: rest)) rfl rfl (hb hby d)
theorem k_getSta (C : Ctx l R n0 Z own bytes ml nm rt Q K O) (H : K pc L S h cl sl) {i : Nat} {O' n d' : String} {v : Value} (w : (Cond.fieldLink own i O' n d').before a0 Z = true) (F : Sta Z h O' n d' v) (d : decode bytes pc = .ok (.getstatic i, 3)) (hp : pc + 3 = pc') : K pc' L (v :: S) h cl sl := by
  subst hp
  exact C.note H fun p e s m args below meth c T locs X hx hby hZ hown _ eT => getS2 X hx hZ hown (host := "") (Or.inl w) Via.refl eT F (g := mkF m pc L S) rfl (hb hby d)
theorem k_initObj (C : Ctx l R n0 Z own bytes ml nm rt Q K O) {a : Addr} (H : K pc L (.ref a :: rest) h cl sl) {i : Nat} (w1 : (Cond.methodLink own i Lib.objectInit).before a0 Z = true) (w2 : (Cond.instanceMethod Lib.objectInit).before a0 Z = true) (w3 : (Cond.code Lib.objectInit ⟨#[0xb1]⟩ 1 none).before a0 Z = true) (d : decode bytes pc = .ok (.invokespecial i, 3)) (hsz : L.size = ml)
    (hf : 1 ≤ R.frames) (W : Nat) (hW : (rest.map fun v => v.category).sum = W) (hl : W + 12 ≤ R.locals) (hp : pc + 3 = pc') : K pc' L rest h cl sl := by
  subst hp
  exact C.note H fun p e s m args below meth c T locs X hx hby hZ hown hml eT => initO X hx hZ hown w1 w2 w3 eT (g := mkF m pc L (.ref a :: rest)) rfl (hsz.trans hml.symm) rfl (hb hby d) hf (W := W) (by show 2 * 0 + _ ≤ _; omega) hl
theorem k_castYes (C : Ctx l R n0 Z own bytes ml nm rt Q K O) {a : Addr} (H : K pc L (.ref a :: rest) h cl sl) {i : Nat} {C' : String} (w : (Cond.classLink own i C').before a0 Z = true) (F : Ins Z h a C' true) (d : decode bytes pc = .ok (.checkcast i, 3)) (hp : pc + 3 = pc') : K pc' L (.ref a :: rest) h cl sl := by
  subst hp
  exact C.note H fun p e s m args below meth c T locs X hx hby hZ hown _ eT => castY X hx hZ hown w eT F (g := mkF m pc L (.ref a :: rest)) rfl rfl (hb hby d)
theorem k_castNull (C : Ctx l R n0 Z own bytes ml nm rt Q K O) (H : K pc L (.null :: rest) h cl sl) {i : Nat} (d : decode bytes pc = .ok (.checkcast i, 3)) (hp : pc + 3 = pc') : K pc' L (.null :: rest) h cl sl := by
  subst hp
  exact C.pure H fun p e s m args below meth c T locs X hx hby hZ hown _ t k => X.checkcastNull hx (g := mkF m pc L (.null :: rest)) rfl rfl (hb hby d) t k
theorem k_instYes (C : Ctx l R n0 Z own bytes ml nm rt Q K O) {a : Addr} (H : K pc L (.ref a :: rest) h cl sl) {i : Nat} {C' : String} (w : (Cond.classLink own i C').before a0 Z = true) (F : Ins Z h a C' true) (d : decode bytes pc = .ok (.instanceof i, 3)) (hp : pc + 3 = pc') : K pc' L (.int 1 :: rest) h cl sl := by
  subst hp
  exact C.note H fun p e s m args below meth c T locs X hx hby hZ hown _ eT => instY X hx hZ hown w eT F (g := mkF m pc L (.ref a :: rest)) rfl rfl (hb hby d)
theorem k_instNull (C : Ctx l R n0 Z own bytes ml nm rt Q K O) (H : K pc L (.null :: rest) h cl sl) {i : Nat} (d : decode bytes pc = .ok (.instanceof i, 3)) (hp : pc + 3 = pc') : K pc' L (.int 0 :: rest) h cl sl := by
  subst hp
  exact C.pure H fun p e s m args below meth c T locs X hx hby hZ hown _ t k => X.instanceofNull hx (g := mkF m pc L (.null :: rest)) rfl rfl (hb hby d) t k
theorem k_instNot (C : Ctx l R n0 Z own bytes ml nm rt Q K O) {a : Addr} (H : K pc L (.ref a :: rest) h cl sl) {i : Nat} {C' D' : String} (w : (Cond.classLink own i C').before a0 Z = true) (E : Exa Z h a D') (F : ∃ c t, Z.vm.findClass D' = some c ∧ Z.vm.findClass C' = some t ∧ Z.vm.assignable c t = false) (d : decode bytes pc = .ok (.instanceof i, 3)) (hp : pc + 3 = pc') : K pc' L (.int 0 :: rest) h cl sl := by
  subst hp
  exact C.note H fun p e s m args below meth c T locs X hx hby hZ hown _ eT => instNo X hx hZ hown w eT E F (g := mkF m pc L (.ref a :: rest)) rfl rfl (hb hby d)
/-! what writes or makes -/
theorem k_putFld (C : Ctx l R n0 Z own bytes ml nm rt Q K O) {a : Addr} {v : Value} (H : K pc L (v :: .ref a :: rest) h cl sl) {i kk : Nat} {O' n d' C' : String} {ty : FieldType} {old : Value} (w : (Cond.fieldLink own i O' n d').before a0 Z = true) (F : Fld Z h a O' n d' old) (E : Exa Z h a C')
    (Lw : (Cond.lays C' O' n d').before a0 Z = true ∨ ((Cond.laysFinal C' O' n d').before a0 Z = true ∧ own = O' ∧ nm = "<init>")) (wi : (Cond.instantiable C' kk).before a0 Z = true) (hty : parseFieldDescriptor d' = some ty) {v' : Value} (hn : narrow ty v = v') (hf : fits ty v' = true) (g : n0 ≤ a) (d : decode bytes pc = .ok (.putfield i, 3)) (hp : pc + 3 = pc') :
    ∃ h', Wr h h' a (Jvm.RoadKit.slotOf Z O' n d') v' ∧ K pc' L rest h' cl sl := by
  subst hp
  obtain ⟨p, e, s, m, args, below, meth, c, s1, f0, hx, hby, hZ, hown, hml, hnm, hrt, hlk, hK, hO⟩ := C
  obtain ⟨T, locs, X, eT, N, st⟩ := (hK _ _ _ _ _ _).mp H
  obtain ⟨T', h', X', e', W', st'⟩ := putFN X hx hZ hown w Via.refl eT F E (Lw.imp id fun q => ⟨q.1, q.2.1, hnm.trans q.2.2⟩) wi hty hn hf (g := mkF m pc L (v :: .ref a :: rest)) rfl rfl (hb hby d)
  exact ⟨h', W', (hK _ _ _ _ _ _).mpr ⟨T', _, X', e', Fr.snoc X' N g, fun t k => st t (st' t k)⟩⟩
theorem k_newObj (C : Ctx l R n0 Z own bytes ml nm rt Q K O) (H : K pc L S h cl sl) {i n : Nat} {C' : String} (w : (Cond.classLink own i C').before a0 Z = true) (wi : (Cond.instantiable C' n).before a0 Z = true) (wz : (Cond.initialized C').before a0 Z = true) (d : decode bytes pc = .ok (.new i, 3)) (hc : cl + 1 ≤ R.cells) (hl : sl + n ≤ R.slots) (hp : pc + 3 = pc') :
    ∃ h' b, b = h.size ∧ Ext h h' ∧ Exa Z h' b C' ∧ (∀ {O' nm' d' : String} {ty : FieldType}, Laid Z a0 C' O' nm' d' → parseFieldDescriptor d' = some ty → Fld Z h' b O' nm' d' (defaultValue ty)) ∧ K pc' L (.ref b :: S) h' (cl + 1) (sl + n) := by
  subst hp
  obtain ⟨p, e, s, m, args, below, meth, c, s1, f0, hx, hby, hZ, hown, hml, hnm, hrt, hlk, hK, hO⟩ := C
  obtain ⟨T, locs, X, eT, N, st⟩ := (hK _ _ _ _ _ _).mp H
  obtain ⟨T', h', X', e', E', A', D', -, st'⟩ := newO X hx hZ hown w wi wz eT (g := mkF m pc L S) rfl (hb hby d) hc hl
  exact ⟨h', _, rfl, E', A', D', (hK _ _ _ _ _ _).mpr ⟨T', _, X', e', N, fun t k => st t (st' t k)⟩⟩
theorem k_newArr (C : Ctx l R n0 Z own bytes ml nm rt Q K O) {n : Int32} (H : K pc L (.int n :: rest) h cl sl) {aty : ArrayType} (w : (Cond.arrayClass (newarray.typeOf aty)).before a0 Z = true) (d : decode bytes pc = .ok (.newarray aty, 2)) (hn : ¬ n < 0) {cap : Nat} (hcap : n.toNatClampNeg ≤ cap) (hb' : cap * 8 ≤ 536870912) (hc : cl + 1 ≤ R.cells) (hl : sl + cap ≤ R.slots) (hp : pc + 2 = pc') :
    ∃ h' b cA, b = h.size ∧ Ext h h' ∧ Arr Z h' b (newA cA (newarray.typeOf aty) n) (newarray.typeOf aty) ∧ K pc' L (.ref b :: rest) h' (cl + 1) (sl + cap) := by
  subst hp
  obtain ⟨p, e, s, m, args, below, meth, c, s1, f0, hx, hby, hZ, hown, hml, hnm, hrt, hlk, hK, hO⟩ := C
  obtain ⟨T, locs, X, eT, N, st⟩ := (hK _ _ _ _ _ _).mp H
  obtain ⟨T', h', cA, X', e', E', A', st'⟩ := newP X hx hZ w eT (g := mkF m pc L (.int n :: rest)) rfl (hb hby d) rfl hn hcap hb' hc hl
  exact ⟨h', _, cA, rfl, E', A', (hK _ _ _ _ _ _).mpr ⟨T', _, X', e', N, fun t k => st t (st' t k)⟩⟩
/-! the returns -/
theorem k_out_of (C : Ctx l R n0 Z own bytes ml nm rt Q K O) (H : K pc L S h cl sl) {v : Option Value} (hv : rt = none → v = none) (hq : Q v h) (hc : cl ≤ R.cells) (hl : sl ≤ R.slots)
    (f : ∀ (p : Program) (e : Env) (s : State) (m : MethodId) (args : Array Value) (below : List Frame) (meth : Method) (c : Code) (T : State) (locs : List Loc) (fs : List Frame), Stand p l e R s m args below meth c T locs cl sl → p.tables.exec = Jvm.exec → c.code = bytes → meth.sig.returnType = rt →
      (∀ (f : JFrame) (acts : List Action), f.method = m → f.locked = none → f.entered = [] → (doReturn e (T.setTop f) acts v).1 = T.setFrames fs) → Steps p.tables e below (T.setTop (mkF m pc L S)) (T.setFrames fs)) : O := by
  obtain ⟨p, e, s, m, args, below, meth, c, s1, f0, hx, hby, hZ, hown, hml, hnm, hrt, hlk, hK, hO⟩ := C
  obtain ⟨T, locs, X, eT, N, st⟩ := (hK _ _ _ _ _ _).mp H
  obtain ⟨fs, hr, hrun, hended, hW, hsame⟩ := X.leave (v := v) (fun q => hv (hrt.symm.trans q)) hlk
  refine hO ⟨_, _, st _ (f p e s m args below meth c T locs fs X hx hby hrt hr), hrun, hended, v, locs, rfl, ⟨?_, N⟩, ⟨_, rfl⟩, hW, hsame.mono hc hl⟩
  show Q v T.heap
  rw [eT]; exact hq
theorem k_retV (C : Ctx l R n0 Z own bytes ml nm none Q K O) (H : K pc L [] h cl sl) (d : decode bytes pc = .ok (.return_, 1)) (hc : cl ≤ R.cells) (hl : sl ≤ R.slots) (hq : Q none h) : O :=
  k_out_of C H (fun _ => rfl) hq hc hl fun p e s m args below meth c T locs fs X hx hby hrt hr => X.returnOut hx hrt (hb hby d) hr
theorem k_retI (C : Ctx l R n0 Z own bytes ml nm (some .int) Q K O) {z : Int32} (H : K pc L (.int z :: rest) h cl sl) (d : decode bytes pc = .ok (.ireturn, 1)) (hc : cl ≤ R.cells) (hl : sl ≤ R.slots) (hq : Q (some (.int z)) h) : O :=
  k_out_of C H (fun q => nomatch q) hq hc hl fun p e s m args below meth c T locs fs X hx hby hrt hr => retOut X hx hrt (i := .ireturn) rfl (Or.inl ⟨rfl, Or.inl rfl, _, rfl⟩) (hb hby d) hr
theorem k_retJ (C : Ctx l R n0 Z own bytes ml nm (some .long) Q K O) {z : Int64} (H : K pc L (.long z :: rest) h cl sl) (d : decode bytes pc = .ok (.lreturn, 1)) (hc : cl ≤ R.cells) (hl : sl ≤ R.slots) (hq : Q (some (.long z)) h) : O :=
  k_out_of C H (fun q => nomatch q) hq hc hl fun p e s m args below meth c T locs fs X hx hby hrt hr => retOut X hx hrt (i := .lreturn) rfl (Or.inr (Or.inl ⟨rfl, rfl, _, rfl⟩)) (hb hby d) hr
theorem k_retA {t : FieldType} (C : Ctx l R n0 Z own bytes ml nm (some t) Q K O) {v : Value} (H : K pc L (v :: rest) h cl sl) (d : decode bytes pc = .ok (.areturn, 1)) (ht : t.isReference = true) (hv : v.isRef = true) (hc : cl ≤ R.cells) (hl : sl ≤ R.slots) (hq : Q (some v) h) : O :=
  k_out_of C H (fun q => nomatch q) hq hc hl fun p e s m args below meth c T locs fs X hx hby hrt hr => retOut X hx hrt (i := .areturn) (by rcases ref_cases hv with rfl | ⟨a, rfl⟩ <;> cases t <;> first | rfl | cases ht) (Or.inr (Or.inr (Or.inr (Or.inr ⟨rfl, ht, hv⟩)))) (hb hby d) hr
theorem k_retN {t : FieldType} (C : Ctx l R n0 Z own bytes ml nm (some t) Q K O) {z : Int32} (H : K pc L (.int z :: rest) h cl sl) (d : decode bytes pc = .ok (.ireturn, 1)) (ht : t = .boolean ∨ t = .byte ∨ t = .char ∨ t = .short) (hc : cl ≤ R.cells) (hl : sl ≤ R.slots) (hq : Q (some (.int (nar t z))) h) : O :=
  k_out_of C H (fun q => nomatch q) hq hc hl fun p e s m args below meth c T locs fs X hx hby hrt hr => Jvm.RoadKit.retN X hx hrt ht (hb hby d) hr
theorem k_retZ (C : Ctx l R n0 Z own bytes ml nm (some .boolean) Q K O) {z : Int32} (H : K pc L (.int z :: rest) h cl sl) (d : decode bytes pc = .ok (.ireturn, 1)) (hz : z &&& 1 = z) (hc : cl ≤ R.cells) (hl : sl ≤ R.slots) (hq : Q (some (.int z)) h) : O :=
  k_retN C H d (Or.inl rfl) hc hl (by show Q (some (.int (z &&& 1))) h; rw [hz]; exact hq)
/-! the calls -/
theorem k_callSta (C : Ctx l R n0 Z own bytes ml nm rt Q K O) (H : K pc L S h cl sl) {i : Nat} {y : MethodName} {bytes' : ByteArray} {ml' : Nat} {rt' : Option FieldType} {rm : Room} {as : Array Value} {Q' : Qt} (k : Con l y bytes' ml' rt' rm Z as h n0 Q')
    (w1 : (Cond.methodLink own i y).before a0 Z = true) (w2 : (Cond.static y).before a0 Z = true) (w3 : (Cond.initialized y.cls).before a0 Z = true) (w4 : (Cond.code y bytes' ml' rt').before a0 Z = true) (hy : y.cls ≠ "java/lang/invoke/MethodHandle" ∧ y.cls ≠ "java/lang/invoke/VarHandle")
    (d : decode bytes pc = .ok (.invokestatic i, 3)) (hsz : L.size = ml) (argsL rest : List Value) {ps : List FieldType} (hd : parseMethodDescriptor y.desc = some ⟨ps, rt'⟩) (hlen : argsL.length = ps.length) (hS : S = argsL.reverse ++ rest) (has : argsL.toArray = as) (W : Nat) (hW : (rest.map fun v => v.category).sum = W)
    (hfr : rm.frames + 1 ≤ R.frames) (hlo : W + (ml' + 11) + rm.locals ≤ R.locals) (hc : cl + rm.cells ≤ R.cells) (hs : sl + rm.slots ≤ R.slots) (hp : pc + 3 = pc') :
    ∃ v h', Q' v h' ∧ K pc' L (v.toList ++ rest) h' (cl + rm.cells) (sl + rm.slots) := by
  subst hp
  obtain ⟨p, e, s, m, args, below, meth, c, s1, f0, hx, hby, hZ, hown, hml, hnm, hrt, hlk, hK, hO⟩ := C
  obtain ⟨T, locs, X, eT, N, st⟩ := (hK _ _ _ _ _ _).mp H
  obtain ⟨v, _, ⟨T', L', k', n'⟩, -, X', ⟨Lc, ⟨hQ, hF⟩, l', y', z'⟩, st'⟩ := Jvm.LawKit.callS X hx (y := y) hown (mvT hZ w1) (mvT hZ w2) (mvT hZ w3) (mvT hZ w4) hy (backOf (Q := fun v h' L => Q' v h' ∧ Fr n0 L) (W := W) (k []) hZ w4 w3 hfr hlo) (g := mkF m pc L S) rfl (hsz.trans hml.symm) (argsL := argsL) (rest := rest) (lenOf hd hlen) hS (by show 2 * 0 + _ ≤ _; omega) (hb hby d) (fun _ _ => ⟨has, eT, hc, hs⟩)
  dsimp only [Pt.U, Pt.locs, Pt.cells, Pt.slots] at X' l' y' z' st' hQ
  subst l' y' z'
  exact ⟨v, T'.heap, hQ, (hK _ _ _ _ _ _).mpr ⟨T', _, X', rfl, N.app hF, fun t k => st t (st' t k)⟩⟩
theorem k_callCon (C : Ctx l R n0 Z own bytes ml nm rt Q K O) (H : K pc L S h cl sl) {i : Nat} {y : MethodName} {bytes' : ByteArray} {ml' : Nat} {rm : Room} {as : Array Value} {Q' : Qt} (k : Con l y bytes' ml' none rm Z as h n0 Q') (hi : y.name = "<init>")
    (w1 : (Cond.methodLink own i y).before a0 Z = true) (w2 : (Cond.instanceMethod y).before a0 Z = true) (w3 : (Cond.initialized y.cls).before a0 Z = true) (w4 : (Cond.code y bytes' ml' none).before a0 Z = true) (hy : y.cls ≠ "java/lang/invoke/MethodHandle" ∧ y.cls ≠ "java/lang/invoke/VarHandle")
    (d : decode bytes pc = .ok (.invokespecial i, 3)) (hsz : L.size = ml) (a : Addr) (argsL rest : List Value) {ps : List FieldType} (hd : parseMethodDescriptor y.desc = some ⟨ps, none⟩) (hlen : argsL.length = ps.length) (hS : S = argsL.reverse ++ .ref a :: rest) (has : (.ref a :: argsL).toArray = as) (W : Nat) (hW : (rest.map fun v => v.category).sum = W)
    (hfr : rm.frames + 1 ≤ R.frames) (hlo : W + (ml' + 11) + rm.locals ≤ R.locals) (hc : cl + rm.cells ≤ R.cells) (hs : sl + rm.slots ≤ R.slots) (hp : pc + 3 = pc') :
    ∃ v h', Q' v h' ∧ K pc' L (v.toList ++ rest) h' (cl + rm.cells) (sl + rm.slots) := by
  subst hp
  obtain ⟨p, e, s, m, args, below, meth, c, s1, f0, hx, hby, hZ, hown, hml, hnm, hrt, hlk, hK, hO⟩ := C
  obtain ⟨T, locs, X, eT, N, st⟩ := (hK _ _ _ _ _ _).mp H
  obtain ⟨v, _, ⟨T', L', k', n'⟩, -, X', ⟨Lc, ⟨hQ, hF⟩, l', y', z'⟩, st'⟩ := X.specialBack hx (y := y) hi hown (mvT hZ w1) (mvT hZ w2) (mvT hZ w4) hy (backOf (Q := fun v h' L => Q' v h' ∧ Fr n0 L) (W := W) (k []) hZ w4 w3 hfr hlo) (g := mkF m pc L S) rfl (hsz.trans hml.symm) (Steps.refl _) (a := a) (argsL := argsL) (rest := rest) (lenOf hd hlen) hS (by show 2 * 0 + _ ≤ _; omega) (hb hby d) (fun _ _ => ⟨has, eT, hc, hs⟩)
  dsimp only [Pt.U, Pt.locs, Pt.cells, Pt.slots] at X' l' y' z' st' hQ
  subst l' y' z'
  exact ⟨v, T'.heap, hQ, (hK _ _ _ _ _ _).mpr ⟨T', _, X', rfl, N.app hF, fun t k => st t (st'.trans k)⟩⟩
theorem k_callVir (C : Ctx l R n0 Z own bytes ml nm rt Q K O) (H : K pc L S h cl sl) {i : Nat} {y : MethodName} {bytes' : ByteArray} {ml' : Nat} {rt' : Option FieldType} {rm : Room} {as : Array Value} {Q' : Qt} (k : Con l y bytes' ml' rt' rm Z as h n0 Q') {a : Addr} {C' : String} (E : Exa Z h a C')
    (w1 : (Cond.methodLink own i y).before a0 Z = true) (w2 : (Cond.declares y).before a0 Z = true) (w3 : (Cond.selects C' y y).before a0 Z = true) (w4 : (Cond.instanceMethod y).before a0 Z = true) (w5 : (Cond.initialized y.cls).before a0 Z = true) (w6 : (Cond.code y bytes' ml' rt').before a0 Z = true) (hy : y.cls ≠ "java/lang/invoke/MethodHandle" ∧ y.cls ≠ "java/lang/invoke/VarHandle")
    (d : decode bytes pc = .ok (.invokevirtual i, 3)) (hsz : L.size = ml) (argsL rest : List Value) {ps : List FieldType} {rt2 : Option FieldType} (hd : parseMethodDescriptor y.desc = some ⟨ps, rt2⟩) (hlen : argsL.length = ps.length) (hS : S = argsL.reverse ++ .ref a :: rest) (has : (.ref a :: argsL).toArray = as) (W : Nat) (hW : (rest.map fun v => v.category).sum = W)
    (hfr : rm.frames + 1 ≤ R.frames) (hlo : W + (ml' + 11) + rm.locals ≤ R.locals) (hc : cl + rm.cells ≤ R.cells) (hs : sl + rm.slots ≤ R.slots) (hp : pc + 3 = pc') :
    ∃ v h', Q' v h' ∧ K pc' L (v.toList ++ rest) h' (cl + rm.cells) (sl + rm.slots) := by
  subst hp
  obtain ⟨p, e, s, m, args, below, meth, c, s1, f0, hx, hby, hZ, hown, hml, hnm, hrt, hlk, hK, hO⟩ := C
  obtain ⟨T, locs, X, eT, N, st⟩ := (hK _ _ _ _ _ _).mp H
  obtain ⟨cq, kq, qa, qb, qc⟩ := isOf hZ eT E
  obtain ⟨v, _, ⟨T', L', k', n'⟩, -, X', ⟨Lc, ⟨hQ, hF⟩, l', y', z'⟩, st'⟩ := X.virtualBack hx (y := y) (z := y) hown (mvT hZ w1) (mvT hZ w2) (notFace_of_selects (args := #[]) (mvT hZ w3)) (mvT hZ w3) (mvT hZ w4) hy (backOf (Q := fun v h' L => Q' v h' ∧ Fr n0 L) (W := W) (k []) hZ w6 w5 hfr hlo) qa qc (g := mkF m pc L S) rfl (hsz.trans hml.symm) (Steps.refl _) (argsL := argsL) (rest := rest) (lenOf hd hlen) hS (by show 2 * 0 + _ ≤ _; omega) (hb hby d) (fun _ _ => ⟨has, eT, hc, hs⟩)
  dsimp only [Pt.U, Pt.locs, Pt.cells, Pt.slots] at X' l' y' z' st' hQ
  subst l' y' z'
  exact ⟨v, T'.heap, hQ, (hK _ _ _ _ _ _).mpr ⟨T', _, X', rfl, N.app hF, fun t k => st t (st'.trans k)⟩⟩
end Steps
/-- a class whose only superclass is one without a superclass is no subclass of a third, ordinary one -/
theorem noSub {Z : State} {a0 : Array Value} {C S K : String} {n : Nat} (w : (Cond.superclass C S).before a0 Z = true) (wo : (Cond.noSuperclass S).before a0 Z = true) (wk : (Cond.instantiable K n).before a0 Z = true) (h1 : S ≠ K) (h2 : C ≠ K) :
    ∃ c t, Z.vm.findClass C = some c ∧ Z.vm.findClass K = some t ∧ Z.vm.assignable c t = false := by
  obtain ⟨t, kt, g1, g2, g3, g4, -⟩ := Cond.instantiable_spec wk
  obtain ⟨co, ko, o1, o2, o3, -, -⟩ := Cond.noSuperclass_spec wo
  have nsO : NS Z S K := ⟨co, t, o1, g1, fun fuel => by
    have ne := ids_ne o1 g1 h1
    cases fuel with
    | zero => rfl
    | succ f => simp [Vm.isSubclassAux, ne, o2, o3]⟩
  obtain ⟨c, t', h0, g0, n3⟩ := NS.step w nsO h2
  cases g1.symm.trans g0
  obtain ⟨p, k, kp, q1, q2, q3, q4, q5, -, q7⟩ := Cond.superclass_spec h0 w
  have ne := ids_ne h0 g0 h2
  have gi : kt.isInterface = false := by
    cases hi : kt.isInterface with
    | false => rfl
    | true => simp [hi] at g4
  refine ⟨c, t, h0, g1, ?_⟩
  show Z.vm.assignableAux (255 + 1) c t = false
  simp [Vm.assignableAux, ne, q2, g2, q5, g3, gi, Vm.isSubclass, n3]
/-! arrays of ints, bytes, chars: what lies at each place -/
def Ari (Z : State) (h : Heap) (a : Addr) (ty : FieldType) (n : Nat) (f : Nat → Int32) : Prop := ∃ c : Cell, Arr Z h a c ty ∧ c.slots.size = n ∧ n < 2 ^ 31 ∧ ∀ i, i < n → c.slots[i]? = some (.int (f i))
section Arrays
variable {Z : State} {h h' : Heap} {a b : Addr} {ty : FieldType} {n : Nat} {f : Nat → Int32} {sl : Nat} {v : Value} {ws : List Addr}
theorem Ari.lt (F : Ari Z h a ty n f) : a < h.size := by obtain ⟨c, A, -⟩ := F; exact A.lt
theorem Ari.ext (F : Ari Z h a ty n f) (E : Ext h h') : Ari Z h' a ty n f := by obtain ⟨c, A, r⟩ := F; exact ⟨c, A.ext E, r⟩
theorem Ari.other (F : Ari Z h b ty n f) (W : Wr h h' a sl v) (q : b ≠ a) : Ari Z h' b ty n f := by obtain ⟨c, A, r⟩ := F; exact ⟨c, A.other W q, r⟩
theorem Ari.keep (F : Ari Z h a ty n f) (K : Keep h h' ws) (q : a ∉ ws) : Ari Z h' a ty n f := by obtain ⟨c, A, r⟩ := F; exact ⟨c, ⟨K.2.1 a c A.1 q, A.2⟩, r⟩
theorem Ari.congr {g : Nat → Int32} (F : Ari Z h a ty n f) (q : ∀ i, i < n → f i = g i) : Ari Z h a ty n g := by obtain ⟨c, A, r1, r2, r3⟩ := F; exact ⟨c, A, r1, r2, fun i hi => by rw [← q i hi]; exact r3 i hi⟩
theorem Ari.set (F : Ari Z h a ty n f) {i : Nat} {x : Int32} (W : Wr h h' a i (.int x)) : Ari Z h' a ty n (fun k => if k = i then x else f k) := by
  obtain ⟨c, A, r1, r2, r3⟩ := F
  refine ⟨c.setSlot i (.int x), A.same W, by rw [sz_set]; exact r1, r2, fun k hk => ?_⟩
  by_cases q : k = i
  · subst q
    simp [Cell.setSlot, r1, hk]
  · have : i ≠ k := fun z => q z.symm
    simp [Cell.setSlot, q, this, Array.getElem?_setIfInBounds_ne this, r3 k hk]
theorem addN {x y : Int32} {i j : Nat} (hx : x.toInt = i) (hy : y.toInt = j) (h : i + j < 2147483648) : (x + y).toInt = ((i + j : Nat) : Int) := by
  have a := c_iadd x y
  have r := rng32 (x + y)
  omega
theorem toNatClampNeg_of {j : Int32} {i : Nat} (hj : j.toInt = i) : j.toNatClampNeg = i := by rw [Int32.toNatClampNeg, hj]; rfl
theorem inb {j : Int32} {i m : Nat} (hj : j.toInt = i) (hi : i < m) : ¬ (j < 0 ∨ m ≤ j.toNatClampNeg) := by
  rw [toNatClampNeg_of hj, Int32.lt_iff_toInt_lt, hj]
  simp; omega
theorem Ari.ofNew {cA : ClassId} {z : Int32} (A : Arr Z h a (newA cA ty z) ty) (hz : z.toInt = n) (hd : defaultValue ty = .int 0) : Ari Z h a ty n (fun _ => 0) := by
  have hn : z.toNatClampNeg = n := toNatClampNeg_of hz
  refine ⟨_, A, by rw [sz_new, hn], by have := z.toInt_lt; omega, fun i hi => ?_⟩
  simp [newA, hn, hi, hd]
end Arrays
section ArrSteps
variable {l : Launch} {R : Room} {n0 : Nat} {Z : State} {own : String} {bytes : ByteArray} {ml : Nat} {nm : String} {rt : Option FieldType} {Q : Qt} {K : Kt} {O : Prop} {a0 : Array Value} {pc : Nat} {L : Array Slot} {S rest : List Value} {h : Heap} {cl sl : Nat} {pc' : Nat}
theorem k_arrlen (C : Ctx l R n0 Z own bytes ml nm rt Q K O) {a : Addr} (H : K pc L (.ref a :: rest) h cl sl) {ty : FieldType} {n : Nat} {f : Nat → Int32} (F : Ari Z h a ty n f) (d : decode bytes pc = .ok (.arraylength, 1)) (hp : pc + 1 = pc') : K pc' L (.int n.toInt32 :: rest) h cl sl := by
  subst hp
  obtain ⟨c', A, r1, r2, r3⟩ := F
  exact C.pure H fun p e s m args below meth c T locs X hx hby hZ hown eT t k => X.arraylength hx (by rw [eT]; exact A.1) (State.isArrayOf_alike hZ.alike A.2.1) (g := mkF m pc L (.ref a :: rest)) rfl rfl (hb hby d) t (by rw [r1]; exact k)

theorem k_iaload (C : Ctx l R n0 Z own bytes ml nm rt Q K O) {a : Addr} {j : Int32} (H : K pc L (.int j :: .ref a :: rest) h cl sl) {n : Nat} {f : Nat → Int32} (F : Ari Z h a .int n f) {i : Nat} (hj : j.toInt = i) (hi : i < n) (d : decode bytes pc = .ok (.iaload, 1)) (hp : pc + 1 = pc') : K pc' L (.int (f i) :: rest) h cl sl := by
  subst hp
  obtain ⟨c', A, r1, r2, r3⟩ := F
  exact C.pure H fun p e s m args below meth c T locs X hx hby hZ hown eT t k => X.iaload hx (by rw [eT]; exact A.1) (State.isArrayOf_alike hZ.alike A.2.1) A.2.2 (inb hj (r1.symm ▸ hi)) (by rw [toNatClampNeg_of hj]; exact r3 i hi) (g := mkF m pc L (.int j :: .ref a :: rest)) rfl rfl (hb hby d) t k
theorem k_baload (C : Ctx l R n0 Z own bytes ml nm rt Q K O) {a : Addr} {j : Int32} (H : K pc L (.int j :: .ref a :: rest) h cl sl) {n : Nat} {f : Nat → Int32} (F : Ari Z h a .byte n f) {i : Nat} (hj : j.toInt = i) (hi : i < n) (d : decode bytes pc = .ok (.baload, 1)) (hp : pc + 1 = pc') : K pc' L (.int (f i) :: rest) h cl sl := by
  subst hp
  obtain ⟨c', A, r1, r2, r3⟩ := F
  exact C.pure H fun p e s m args below meth c T locs X hx hby hZ hown eT t k => X.baloadBytes hx (by rw [eT]; exact A.1) (State.isArrayOf_alike hZ.alike A.2.1) A.2.2 (inb hj (r1.symm ▸ hi)) (by rw [toNatClampNeg_of hj]; exact r3 i hi) (g := mkF m pc L (.int j :: .ref a :: rest)) rfl rfl (hb hby d) t k
theorem k_caload (C : Ctx l R n0 Z own bytes ml nm rt Q K O) {a : Addr} {j : Int32} (H : K pc L (.int j :: .ref a :: rest) h cl sl) {n : Nat} {f : Nat → Int32} (F : Ari Z h a .char n f) {i : Nat} (hj : j.toInt = i) (hi : i < n) (d : decode bytes pc = .ok (.caload, 1)) (hp : pc + 1 = pc') : K pc' L (.int (f i) :: rest) h cl sl := by
  subst hp
  obtain ⟨c', A, r1, r2, r3⟩ := F
  exact C.pure H fun p e s m args below meth c T locs X hx hby hZ hown eT t k => X.caload hx (by rw [eT]; exact A.1) (State.isArrayOf_alike hZ.alike A.2.1) A.2.2 (inb hj (r1.symm ▸ hi)) (by rw [toNatClampNeg_of hj]; exact r3 i hi) (g := mkF m pc L (.int j :: .ref a :: rest)) rfl rfl (hb hby d) t k
theorem k_iastore (C : Ctx l R n0 Z own bytes ml nm rt Q K O) {a : Addr} {j x : Int32} (H : K pc L (.int x :: .int j :: .ref a :: rest) h cl sl) {n : Nat} {f : Nat → Int32} (F : Ari Z h a .int n f) {i : Nat} (hj : j.toInt = i) (hi : i < n) (g : n0 ≤ a) (d : decode bytes pc = .ok (.iastore, 1)) (hp : pc + 1 = pc') : ∃ h', Wr h h' a i (.int (x)) ∧ Ari Z h' a .int n (fun k => if k = i then x else f k) ∧ K pc' L rest h' cl sl := by
  subst hp
  have F0 := F
  obtain ⟨c', A, r1, r2, r3⟩ := F
  obtain ⟨p, e, s, m, args, below, meth, c, s1, f0, hx, hby, hZ, hown, hml, hnm, hrt, hlk, hK, hO⟩ := C
  obtain ⟨T, locs, X, eT, N, st⟩ := (hK _ _ _ _ _ _).mp H
  obtain ⟨T', h', X', e', W', st'⟩ := stI X hx hZ eT A (inb hj (r1.symm ▸ hi)) (g := mkF m pc L (.int x :: .int j :: .ref a :: rest)) rfl rfl (hb hby d)
  have N' := Fr.snoc X' N g
  rw [toNatClampNeg_of hj] at W'
  exact ⟨h', W', F0.set W', (hK _ _ _ _ _ _).mpr ⟨T', _, X', e', N', fun t k => st t (st' t k)⟩⟩
theorem k_bastore (C : Ctx l R n0 Z own bytes ml nm rt Q K O) {a : Addr} {j x : Int32} (H : K pc L (.int x :: .int j :: .ref a :: rest) h cl sl) {n : Nat} {f : Nat → Int32} (F : Ari Z h a .byte n f) {i : Nat} (hj : j.toInt = i) (hi : i < n) (g : n0 ≤ a) (d : decode bytes pc = .ok (.bastore, 1)) (hp : pc + 1 = pc') : ∃ h', Wr h h' a i (.int (nar .byte x)) ∧ Ari Z h' a .byte n (fun k => if k = i then nar .byte x else f k) ∧ K pc' L rest h' cl sl := by
  subst hp
  have F0 := F
  obtain ⟨c', A, r1, r2, r3⟩ := F
  obtain ⟨p, e, s, m, args, below, meth, c, s1, f0, hx, hby, hZ, hown, hml, hnm, hrt, hlk, hK, hO⟩ := C
  obtain ⟨T, locs, X, eT, N, st⟩ := (hK _ _ _ _ _ _).mp H
  obtain ⟨T', h', X', e', W', st'⟩ := stB X hx hZ eT A (inb hj (r1.symm ▸ hi)) (g := mkF m pc L (.int x :: .int j :: .ref a :: rest)) rfl rfl (hb hby d)
  have N' := Fr.snoc X' N g
  rw [toNatClampNeg_of hj] at W'
  exact ⟨h', W', F0.set W', (hK _ _ _ _ _ _).mpr ⟨T', _, X', e', N', fun t k => st t (st' t k)⟩⟩
theorem k_castore (C : Ctx l R n0 Z own bytes ml nm rt Q K O) {a : Addr} {j x : Int32} (H : K pc L (.int x :: .int j :: .ref a :: rest) h cl sl) {n : Nat} {f : Nat → Int32} (F : Ari Z h a .char n f) {i : Nat} (hj : j.toInt = i) (hi : i < n) (g : n0 ≤ a) (d : decode bytes pc = .ok (.castore, 1)) (hp : pc + 1 = pc') : ∃ h', Wr h h' a i (.int (nar .char x)) ∧ Ari Z h' a .char n (fun k => if k = i then nar .char x else f k) ∧ K pc' L rest h' cl sl := by
  subst hp
  have F0 := F
  obtain ⟨c', A, r1, r2, r3⟩ := F
  obtain ⟨p, e, s, m, args, below, meth, c, s1, f0, hx, hby, hZ, hown, hml, hnm, hrt, hlk, hK, hO⟩ := C
  obtain ⟨T, locs, X, eT, N, st⟩ := (hK _ _ _ _ _ _).mp H
  obtain ⟨T', h', X', e', W', st'⟩ := stC X hx hZ eT A (inb hj (r1.symm ▸ hi)) (g := mkF m pc L (.int x :: .int j :: .ref a :: rest)) rfl rfl (hb hby d)
  have N' := Fr.snoc X' N g
  rw [toNatClampNeg_of hj] at W'
  exact ⟨h', W', F0.set W', (hK _ _ _ _ _ _).mpr ⟨T', _, X', e', N', fun t k => st t (st' t k)⟩⟩
end ArrSteps
end Jvm.OwnK
namespace Jvm.Pilot.@@N@@
open Jvm Jvm.ClassFile Sem Op Lib Jvm.Free Jvm.Stand Jvm.LawKit Jvm.RoadKit Bundle Jvm.OwnK Jvm.Pilot.@@N@@.Jvm.D
def own_low (q1 : Int64) : Int32 := (q1 &&& (2147483647 : Int64)).toInt32
theorem d1_0 : decode method_3_code 0 = .ok (.lload_n 0, 1) := by decide +kernel
theorem d1_1 : decode method_3_code 1 = .ok (.ldc2_w 7, 3) := by decide +kernel
theorem d1_4 : decode method_3_code 4 = .ok (.land, 1) := by decide +kernel
theorem d1_5 : decode method_3_code 5 = .ok (.l2i, 1) := by decide +kernel
theorem d1_6 : decode method_3_code 6 = .ok (.ireturn, 1) := by decide +kernel
theorem pl_1 : plainFor (⟨"com/example/dispatchwright/dispatchwright/learning/CharacterisationDistancePinLaw", "low", "(J)I"⟩ : MethodName) = true := plainFor_of_name (by first | (simp [plainName, overriddenIn]; done) | decide +kernel)
theorem ef_1 (mm : MethodId) (q1 : Int64) : entryFrame mm #[(.long q1)] 2 = mkF mm 0 #[.val (.long q1), .second] [] := by first | (simp [entryFrame, mkF, argsToLocals, Value.category]; done) | rfl
set_option maxRecDepth 65536 in
set_option maxHeartbeats 40000000 in
theorem rm1 (l : Launch) (Z : State) (a0 : Array Value) (hw : ∀ d ∈ tables_1, d.before a0 Z = true) (q1 : Int64) (h0 : Heap) (n0 : Nat)  :
    Con l (⟨"com/example/dispatchwright/dispatchwright/learning/CharacterisationDistancePinLaw", "low", "(J)I"⟩ : MethodName) method_3_code 2 (some .int) ({ frames := 0, cells := 0, slots := 0, locals := 0 } : Room) Z #[(.long q1)] h0 n0 (fun o h => o = some (.int (own_low q1)) ∧ h0 = h) := by
  refine Con.enter pl_1 (fun mm => ef_1 mm q1) ?_
  intro K O C H
  replace H := k_lloadN C H d1_0 rfl (pc' := 1) rfl
  replace H := k_ldcL C H (hw _ (List.mem_of_getElem? (i := 5) rfl)) d1_1 (pc' := 4) rfl
  replace H := k_land C H d1_4 (pc' := 5) rfl
  replace H := k_l2i C H d1_5 (pc' := 6) rfl
  exact k_retI C H d1_6 (by decide) (by decide) ⟨by rw [own_low], rfl⟩
def own_high (q1 : Int64) : Int32 := ((q1.toUInt64 >>> ((32 : Int32) &&& 0x3f).toInt64.toUInt64).toInt64 &&& (2147483647 : Int64)).toInt32
theorem d2_0 : decode method_4_code 0 = .ok (.lload_n 0, 1) := by decide +kernel
theorem d2_1 : decode method_4_code 1 = .ok (.bipush 32, 2) := by decide +kernel
theorem d2_3 : decode method_4_code 3 = .ok (.lushr, 1) := by decide +kernel
theorem d2_4 : decode method_4_code 4 = .ok (.ldc2_w 7, 3) := by decide +kernel
theorem d2_7 : decode method_4_code 7 = .ok (.land, 1) := by decide +kernel
theorem d2_8 : decode method_4_code 8 = .ok (.l2i, 1) := by decide +kernel
theorem d2_9 : decode method_4_code 9 = .ok (.ireturn, 1) := by decide +kernel
theorem pl_2 : plainFor (⟨"com/example/dispatchwright/dispatchwright/learning/CharacterisationDistancePinLaw", "high", "(J)I"⟩ : MethodName) = true := plainFor_of_name (by first | (simp [plainName, overriddenIn]; done) | decide +kernel)
theorem ef_2 (mm : MethodId) (q1 : Int64) : entryFrame mm #[(.long q1)] 2 = mkF mm 0 #[.val (.long q1), .second] [] := by first | (simp [entryFrame, mkF, argsToLocals, Value.category]; done) | rfl
set_option maxRecDepth 65536 in
set_option maxHeartbeats 40000000 in
theorem rm2 (l : Launch) (Z : State) (a0 : Array Value) (hw : ∀ d ∈ tables_1, d.before a0 Z = true) (q1 : Int64) (h0 : Heap) (n0 : Nat)  :
    Con l (⟨"com/example/dispatchwright/dispatchwright/learning/CharacterisationDistancePinLaw", "high", "(J)I"⟩ : MethodName) method_4_code 2 (some .int) ({ frames := 0, cells := 0, slots := 0, locals := 0 } : Room) Z #[(.long q1)] h0 n0 (fun o h => o = some (.int (own_high q1)) ∧ h0 = h) := by
  refine Con.enter pl_2 (fun mm => ef_2 mm q1) ?_
  intro K O C H
  replace H := k_lloadN C H d2_0 rfl (pc' := 1) rfl
  replace H := k_bipush C H (v := 32) d2_1 rfl (pc' := 3) rfl
  replace H := k_lushr C H d2_3 (pc' := 4) rfl
  replace H := k_ldcL C H (hw _ (List.mem_of_getElem? (i := 5) rfl)) d2_4 (pc' := 7) rfl
  replace H := k_land C H d2_7 (pc' := 8) rfl
  replace H := k_l2i C H d2_8 (pc' := 9) rfl
  exact k_retI C H d2_9 (by decide) (by decide) ⟨by rw [own_high], rfl⟩
def own_sq (p1 : Int32) (p2 : Int32) : Int64 := ((p1.toInt64 - p2.toInt64) * (p1.toInt64 - p2.toInt64))
theorem d3_0 : decode method_2_code 0 = .ok (.iload_n 0, 1) := by decide +kernel
theorem d3_1 : decode method_2_code 1 = .ok (.i2l, 1) := by decide +kernel
theorem d3_2 : decode method_2_code 2 = .ok (.iload_n 1, 1) := by decide +kernel
theorem d3_3 : decode method_2_code 3 = .ok (.i2l, 1) := by decide +kernel
theorem d3_4 : decode method_2_code 4 = .ok (.lsub, 1) := by decide +kernel
theorem d3_5 : decode method_2_code 5 = .ok (.lstore_n 2, 1) := by decide +kernel
theorem d3_6 : decode method_2_code 6 = .ok (.lload_n 2, 1) := by decide +kernel
theorem d3_7 : decode method_2_code 7 = .ok (.lload_n 2, 1) := by decide +kernel
theorem d3_8 : decode method_2_code 8 = .ok (.lmul, 1) := by decide +kernel
theorem d3_9 : decode method_2_code 9 = .ok (.lreturn, 1) := by decide +kernel
theorem pl_3 : plainFor (⟨"com/example/dispatchwright/dispatchwright/learning/CharacterisationDistancePinLaw", "sq", "(II)J"⟩ : MethodName) = true := plainFor_of_name (by first | (simp [plainName, overriddenIn]; done) | decide +kernel)
theorem ef_3 (mm : MethodId) (p1 : Int32) (p2 : Int32) : entryFrame mm #[(.int p1), (.int p2)] 4 = mkF mm 0 #[.val (.int p1), .val (.int p2), .unset, .unset] [] := by first | (simp [entryFrame, mkF, argsToLocals, Value.category]; done) | rfl
set_option maxRecDepth 65536 in
set_option maxHeartbeats 40000000 in
theorem rm3 (l : Launch) (Z : State) (a0 : Array Value) (hw : ∀ d ∈ tables_1, d.before a0 Z = true) (p1 : Int32) (p2 : Int32) (h0 : Heap) (n0 : Nat)  :
    Con l (⟨"com/example/dispatchwright/dispatchwright/learning/CharacterisationDistancePinLaw", "sq", "(II)J"⟩ : MethodName) method_2_code 4 (some .long) ({ frames := 0, cells := 0, slots := 0, locals := 0 } : Room) Z #[(.int p1), (.int p2)] h0 n0 (fun o h => o = some (.long (own_sq p1 p2)) ∧ h0 = h) := by
  refine Con.enter pl_3 (fun mm => ef_3 mm p1 p2) ?_
  intro K O C H
  replace H := k_iloadN C H d3_0 rfl (pc' := 1) rfl
  replace H := k_i2l C H d3_1 (pc' := 2) rfl
  replace H := k_iloadN C H d3_2 rfl (pc' := 3) rfl
  replace H := k_i2l C H d3_3 (pc' := 4) rfl
  replace H := k_lsub C H d3_4 (pc' := 5) rfl
  replace H := k_lstoreN C H d3_5 (L' := #[.val (.int p1), .val (.int p2), .val (.long (p1.toInt64 - p2.toInt64)), .second]) rfl (pc' := 6) rfl
  replace H := k_lloadN C H d3_6 rfl (pc' := 7) rfl
  replace H := k_lloadN C H d3_7 rfl (pc' := 8) rfl
  replace H := k_lmul C H d3_8 (pc' := 9) rfl
  exact k_retJ C H d3_9 (by decide) (by decide) ⟨by rw [own_sq], rfl⟩
def own_d (f g : Nat → Int32) : Nat → Int64
  | 0 => (0 : Int64)
  | i + 1 => own_d f g i + (f i - g i).toInt64 * (f i - g i).toInt64
theorem d4_0 : decode prog_3_method_3_code 0 = .ok (.lconst 0, 1) := by decide +kernel
theorem d4_1 : decode prog_3_method_3_code 1 = .ok (.lstore_n 2, 1) := by decide +kernel
theorem d4_2 : decode prog_3_method_3_code 2 = .ok (.iconst 0, 1) := by decide +kernel
theorem d4_3 : decode prog_3_method_3_code 3 = .ok (.istore 4, 2) := by decide +kernel
theorem d4_5 : decode prog_3_method_3_code 5 = .ok (.iload 4, 2) := by decide +kernel
theorem d4_7 : decode prog_3_method_3_code 7 = .ok (.aload_n 0, 1) := by decide +kernel
theorem d4_8 : decode prog_3_method_3_code 8 = .ok (.arraylength, 1) := by decide +kernel
theorem d4_9 : decode prog_3_method_3_code 9 = .ok (.if_icmp .ge 29, 3) := by decide +kernel
theorem d4_12 : decode prog_3_method_3_code 12 = .ok (.aload_n 0, 1) := by decide +kernel
theorem d4_13 : decode prog_3_method_3_code 13 = .ok (.iload 4, 2) := by decide +kernel
theorem d4_15 : decode prog_3_method_3_code 15 = .ok (.iaload, 1) := by decide +kernel
theorem d4_16 : decode prog_3_method_3_code 16 = .ok (.aload_n 1, 1) := by decide +kernel
theorem d4_17 : decode prog_3_method_3_code 17 = .ok (.iload 4, 2) := by decide +kernel
theorem d4_19 : decode prog_3_method_3_code 19 = .ok (.iaload, 1) := by decide +kernel
theorem d4_20 : decode prog_3_method_3_code 20 = .ok (.isub, 1) := by decide +kernel
theorem d4_21 : decode prog_3_method_3_code 21 = .ok (.i2l, 1) := by decide +kernel
theorem d4_22 : decode prog_3_method_3_code 22 = .ok (.lstore 5, 2) := by decide +kernel
theorem d4_24 : decode prog_3_method_3_code 24 = .ok (.lload_n 2, 1) := by decide +kernel
theorem d4_25 : decode prog_3_method_3_code 25 = .ok (.lload 5, 2) := by decide +kernel
theorem d4_27 : decode prog_3_method_3_code 27 = .ok (.lload 5, 2) := by decide +kernel
theorem d4_29 : decode prog_3_method_3_code 29 = .ok (.lmul, 1) := by decide +kernel
theorem d4_30 : decode prog_3_method_3_code 30 = .ok (.ladd, 1) := by decide +kernel
theorem d4_31 : decode prog_3_method_3_code 31 = .ok (.lstore_n 2, 1) := by decide +kernel
theorem d4_32 : decode prog_3_method_3_code 32 = .ok (.iinc 4 1, 3) := by decide +kernel
theorem d4_35 : decode prog_3_method_3_code 35 = .ok (.goto (-30), 3) := by decide +kernel
theorem d4_38 : decode prog_3_method_3_code 38 = .ok (.lload_n 2, 1) := by decide +kernel
theorem d4_39 : decode prog_3_method_3_code 39 = .ok (.lreturn, 1) := by decide +kernel
theorem pl_4 : plainFor (⟨"com/example/dispatchwright/dispatchwright/learning/Characterisation", "distance", "([I[I)J"⟩ : MethodName) = true := plainFor_of_name (by first | (simp [plainName, overriddenIn]; done) | decide +kernel)
theorem ef_4 (mm : MethodId) (a1 : Addr) (a2 : Addr) : entryFrame mm #[(.ref a1), (.ref a2)] 7 = mkF mm 0 #[.val (.ref a1), .val (.ref a2), .unset, .unset, .unset, .unset, .unset] [] := by first | (simp [entryFrame, mkF, argsToLocals, Value.category]; done) | rfl
set_option maxRecDepth 65536 in
set_option maxHeartbeats 40000000 in
theorem rm4 (l : Launch) (Z : State) (a0 : Array Value) (hw : ∀ d ∈ tables_1, d.before a0 Z = true) (a1 : Addr) (a2 : Addr) (h0 : Heap) (n0 : Nat) (n : Nat) (f g : Nat → Int32) (A : Ari Z h0 a1 .int n f) (B : Ari Z h0 a2 .int n g) (hn31 : n < 2 ^ 31) :
    Con l (⟨"com/example/dispatchwright/dispatchwright/learning/Characterisation", "distance", "([I[I)J"⟩ : MethodName) prog_3_method_3_code 7 (some .long) ({ frames := 0, cells := 0, slots := 0, locals := 0 } : Room) Z #[(.ref a1), (.ref a2)] h0 n0 (fun o h => o = some (.long (own_d f g n)) ∧ h0 = h) := by
  refine Con.enter pl_4 (fun mm => ef_4 mm a1 a2) ?_
  intro K O C H
  replace H := k_lconst C H (v := 0) d4_0 rfl (pc' := 1) rfl
  replace H := k_lstoreN C H d4_1 (L' := #[.val (.ref a1), .val (.ref a2), .val (.long (0 : Int64)), .second, .unset, .unset, .unset]) rfl (pc' := 2) rfl
  replace H := k_iconst C H (v := 0) d4_2 rfl (pc' := 3) rfl
  replace H := k_istore C H d4_3 (L' := #[.val (.ref a1), .val (.ref a2), .val (.long (0 : Int64)), .second, .val (.int (0 : Int32)), .unset, .unset]) rfl (pc' := 5) rfl
  have loop : ∀ (r i : Nat) (acc : Int64) (iv : Int32) (s5 s6 : Slot), i + r = n → iv.toInt = i → acc = own_d f g i → (s5 = .unset ∧ s6 = .unset ∨ ∃ dd : Int64, s5 = .val (.long dd) ∧ s6 = .second) → K 5 #[.val (.ref a1), .val (.ref a2), .val (.long acc), .second, .val (.int iv), s5, s6] [] h0 0 0 → O := by
    intro r
    induction r with
    | zero =>
      intro i acc iv s5 s6 e1 e2 e3 hs H
      replace H := k_iload C H d4_5 rfl (pc' := 7) rfl
      replace H := k_aloadN C H d4_7 rfl rfl (pc' := 8) rfl
      replace H := k_arrlen C H A d4_8 (pc' := 9) rfl
      replace H := k_icmpY C H d4_9 (flt (by rw [Int32.lt_iff_toInt_lt, len_toInt hn31]; omega : ¬ iv < n.toInt32)).2.1 (by decide) (pc' := 38) rfl
      replace H := k_lloadN C H d4_38 rfl (pc' := 39) rfl
      exact k_retJ C H d4_39 (by decide) (by decide) ⟨by rw [e3, show i = n by omega], rfl⟩
    | succ r ih =>
      intro i acc iv s5 s6 e1 e2 e3 hs H
      replace H := k_iload C H d4_5 rfl (pc' := 7) rfl
      replace H := k_aloadN C H d4_7 rfl rfl (pc' := 8) rfl
      replace H := k_arrlen C H A d4_8 (pc' := 9) rfl
      replace H := k_icmpN C H d4_9 (tlt (by rw [Int32.lt_iff_toInt_lt, len_toInt hn31]; omega : iv < n.toInt32)).2.1 (pc' := 12) rfl
      replace H := k_aloadN C H d4_12 rfl rfl (pc' := 13) rfl
      replace H := k_iload C H d4_13 rfl (pc' := 15) rfl
      replace H := k_iaload C H A (i := i) e2 (by omega) d4_15 (pc' := 16) rfl
      replace H := k_aloadN C H d4_16 rfl rfl (pc' := 17) rfl
      replace H := k_iload C H d4_17 rfl (pc' := 19) rfl
      replace H := k_iaload C H B (i := i) e2 (by omega) d4_19 (pc' := 20) rfl
      replace H := k_isub C H d4_20 (pc' := 21) rfl
      replace H := k_i2l C H d4_21 (pc' := 22) rfl
      replace H := k_lstore C H d4_22 (L' := #[.val (.ref a1), .val (.ref a2), .val (.long acc), .second, .val (.int iv), .val (.long ((f i) - (g i)).toInt64), .second]) (by rcases hs with ⟨rfl, rfl⟩ | ⟨dd, rfl, rfl⟩ <;> rfl) (pc' := 24) rfl
      replace H := k_lloadN C H d4_24 rfl (pc' := 25) rfl
      replace H := k_lload C H d4_25 rfl (pc' := 27) rfl
      replace H := k_lload C H d4_27 rfl (pc' := 29) rfl
      replace H := k_lmul C H d4_29 (pc' := 30) rfl
      replace H := k_ladd C H d4_30 (pc' := 31) rfl
      replace H := k_lstoreN C H d4_31 (L' := #[.val (.ref a1), .val (.ref a2), .val (.long (acc + (((f i) - (g i)).toInt64 * ((f i) - (g i)).toInt64))), .second, .val (.int iv), .val (.long ((f i) - (g i)).toInt64), .second]) rfl (pc' := 32) rfl
      replace H := k_iinc C H (y := (iv + (1 : Int32))) d4_32 rfl rfl (L' := #[.val (.ref a1), .val (.ref a2), .val (.long (acc + (((f i) - (g i)).toInt64 * ((f i) - (g i)).toInt64))), .second, .val (.int (iv + (1 : Int32))), .val (.long ((f i) - (g i)).toInt64), .second]) rfl (pc' := 35) rfl
      replace H := k_goto C H d4_35 (by decide) (pc' := 5) rfl
      exact ih (i + 1) _ _ _ _ (by omega) (addN e2 (by decide : (1 : Int32).toInt = ((1 : Nat) : Int)) (by omega)) (by rw [e3]; rfl) (Or.inr ⟨_, rfl, rfl⟩) H
  exact loop n 0 _ _ _ _ (by omega) (by decide) rfl (Or.inl ⟨rfl, rfl⟩) H
theorem own_n (x : Int32) : ∃ nn : Nat, (x &&& (3 : Int32)).toInt = nn ∧ nn ≤ 3 := by
  have a := c_and x 3 (by decide)
  have k : (3 : Int32).toInt = 3 := by decide
  exact ⟨(x &&& (3 : Int32)).toInt.toNat, by omega, by omega⟩
theorem own_ge {n c : Int32} {nn : Nat} (k : Nat) (h : ¬ n < c) (e : n.toInt = nn) (hc : c.toInt = k) : k ≤ nn := by rw [Int32.lt_iff_toInt_lt] at h; omega
theorem own_lt {n c : Int32} {nn : Nat} (k : Nat) (h : n < c) (e : n.toInt = nn) (hc : c.toInt = k) : nn < k := by rw [Int32.lt_iff_toInt_lt] at h; omega
theorem own_ltc {n c : Int32} {nn : Nat} (k : Nat) (h : nn < k) (e : n.toInt = nn) (hc : c.toInt = k) : n < c := by rw [Int32.lt_iff_toInt_lt]; omega
theorem own_nn (z : Int64) : 0 ≤ (z &&& (2147483647 : Int64)).toInt32.toInt := by
  have a := c_maskL z 2147483647 31 (by decide) (by decide)
  have b := c_l2i (z &&& 2147483647)
  have r := rng32 (z &&& (2147483647 : Int64)).toInt32
  omega
theorem own_low0 (z : Int64) : 0 ≤ (own_low z).toInt := own_nn z
theorem own_high0 (z : Int64) : 0 ≤ (own_high z).toInt := own_nn _
theorem own_sqe (x y : Int32) (hx : 0 ≤ x.toInt) (hy : 0 ≤ y.toInt) : (x - y).toInt64 * (x - y).toInt64 = own_sq x y := by
  have e : (x - y).toInt64 = x.toInt64 - y.toInt64 := by
    apply Int64.toInt_inj.mp
    have a := c_i2l (x - y)
    have b := c_i2l x
    have c := c_i2l y
    have d := c_isub x y
    have f := c_lsub x.toInt64 y.toInt64
    have r1 := rng32 x
    have r2 := rng32 y
    have r3 := rng32 (x - y)
    have r4 := rng64 (x.toInt64 - y.toInt64)
    omega
  rw [e]; rfl
theorem pd0_0 : parseMethodDescriptor "(J)I" = some ⟨[.long], some .int⟩ := by decide +kernel
theorem pd0_1 : parseMethodDescriptor "([I[I)J" = some ⟨[(.array .int), (.array .int)], some .long⟩ := by decide +kernel
theorem pd0_2 : parseMethodDescriptor "(II)J" = some ⟨[.int, .int], some .long⟩ := by decide +kernel
theorem pl_0 : plainFor x = true := plainFor_of_name (by first | (simp [plainName, overriddenIn]; done) | decide +kernel)
theorem ef_0 (mm : MethodId) (x0 : Int64) (x1 : Int64) (x2 : Int64) (x3 : Int32) : entryFrame mm #[(.long x0), (.long x1), (.long x2), (.int x3)] maxLocals = mkF mm 0 #[.val (.long x0), .second, .val (.long x1), .second, .val (.long x2), .second, .val (.int x3), .unset, .unset, .unset, .unset, .unset, .unset, .unset, .unset, .unset, .unset, .unset] [] := by first | (simp [entryFrame, mkF, argsToLocals, Value.category, maxLocals]; done) | rfl
set_option maxRecDepth 65536 in
set_option maxHeartbeats 40000000 in
theorem rm0 (l : Launch) (Z : State) (a0 : Array Value) (hw : ∀ d ∈ tables_1, d.before a0 Z = true) (x0 : Int64) (x1 : Int64) (x2 : Int64) (x3 : Int32) (h0 : Heap) (n0 : Nat) (Z0 : n0 ≤ h0.size) :
    Con l x code maxLocals ret room_1 Z #[(.long x0), (.long x1), (.long x2), (.int x3)] h0 n0 (fun o h => o = some (.int 1)) := by
  refine Con.enter pl_0 (fun mm => ef_0 mm x0 x1 x2 x3) ?_
  intro K O C H
  replace H := k_iload C H at_0 rfl (pc' := 2) rfl
  replace H := k_iconst C H (v := 3) at_2 rfl (pc' := 3) rfl
  replace H := k_iand C H at_3 (pc' := 4) rfl
  replace H := k_istore C H at_4 (L' := #[.val (.long x0), .second, .val (.long x1), .second, .val (.long x2), .second, .val (.int x3), .val (.int (x3 &&& (3 : Int32))), .unset, .unset, .unset, .unset, .unset, .unset, .unset, .unset, .unset, .unset]) rfl (pc' := 6) rfl
  obtain ⟨n, e_n, H⟩ : ∃ n : Int32, n = (x3 &&& (3 : Int32)) ∧ K 6 #[.val (.long x0), .second, .val (.long x1), .second, .val (.long x2), .second, .val (.int x3), .val (.int n), .unset, .unset, .unset, .unset, .unset, .unset, .unset, .unset, .unset, .unset] [] h0 0 0 := ⟨_, rfl, H⟩
  obtain ⟨nn, e_nn, l_nn⟩ := own_n x3
  rw [← e_n] at e_nn
  have h0n : ¬ n < 0 := by rw [Int32.lt_iff_toInt_lt, e_nn]; exact Int.not_lt.mpr (Int.natCast_nonneg nn)
  have hcap : n.toNatClampNeg ≤ 3 := by rw [toNatClampNeg_of e_nn]; exact l_nn
  replace H := k_iload C H at_6 rfl (pc' := 8) rfl
  obtain ⟨h_b1, b1, c_b1, g_b1, E_b1, A_b1, H⟩ := k_newArr C H (hw _ (List.mem_of_getElem? (i := 0) rfl)) at_8 h0n (cap := 3) hcap (by decide) (by decide) (by decide) (pc' := 10) rfl
  replace H : K 10 #[.val (.long x0), .second, .val (.long x1), .second, .val (.long x2), .second, .val (.int x3), .val (.int n), .unset, .unset, .unset, .unset, .unset, .unset, .unset, .unset, .unset, .unset] [(.ref b1)] h_b1 1 3 := H
  have n_b1 : n0 ≤ b1 := Nat.le_trans Z0 (Nat.le_of_eq g_b1.symm)
  have Z_b1 : n0 ≤ h_b1.size := Nat.le_trans Z0 E_b1.1
  have A_b1' : Ari Z h_b1 b1 .int nn (fun _ => 0) := Ari.ofNew A_b1 e_nn rfl
  replace H := k_astore C H at_10 (L' := #[.val (.long x0), .second, .val (.long x1), .second, .val (.long x2), .second, .val (.int x3), .val (.int n), .val (.ref b1), .unset, .unset, .unset, .unset, .unset, .unset, .unset, .unset, .unset]) rfl rfl (pc' := 12) rfl
  replace H := k_iload C H at_12 rfl (pc' := 14) rfl
  obtain ⟨h_b2, b2, c_b2, g_b2, E_b2, A_b2, H⟩ := k_newArr C H (hw _ (List.mem_of_getElem? (i := 0) rfl)) at_14 h0n (cap := 3) hcap (by decide) (by decide) (by decide) (pc' := 16) rfl
  replace H : K 16 #[.val (.long x0), .second, .val (.long x1), .second, .val (.long x2), .second, .val (.int x3), .val (.int n), .val (.ref b1), .unset, .unset, .unset, .unset, .unset, .unset, .unset, .unset, .unset] [(.ref b2)] h_b2 2 6 := H
  have ne_b1_b2 : b1 ≠ b2 := Nat.ne_of_lt (Nat.lt_of_lt_of_le A_b1'.lt (Nat.le_of_eq g_b2.symm))
  have n_b2 : n0 ≤ b2 := Nat.le_trans Z_b1 (Nat.le_of_eq g_b2.symm)
  replace A_b1' := A_b1'.ext E_b2
  have Z_b2 : n0 ≤ h_b2.size := Nat.le_trans Z_b1 E_b2.1
  have A_b2' : Ari Z h_b2 b2 .int nn (fun _ => 0) := Ari.ofNew A_b2 e_nn rfl
  replace H := k_astore C H at_16 (L' := #[.val (.long x0), .second, .val (.long x1), .second, .val (.long x2), .second, .val (.int x3), .val (.int n), .val (.ref b1), .val (.ref b2), .unset, .unset, .unset, .unset, .unset, .unset, .unset, .unset]) rfl rfl (pc' := 18) rfl
  replace H := k_lloadN C H at_18 rfl (pc' := 19) rfl
  obtain ⟨_, _, ⟨rfl, rfl⟩, H⟩ := k_callSta C H (rm1 l Z a0 hw x0 h_b2 n0) (hw _ (List.mem_of_getElem? (i := 1) rfl)) (hw _ (List.mem_of_getElem? (i := 2) rfl)) (hw _ (List.mem_of_getElem? (i := 3) rfl)) (hw _ (List.mem_of_getElem? (i := 4) rfl)) (by decide) at_19 rfl [(.long x0)] [] pd0_0 rfl rfl rfl 0 rfl (by decide) (by decide) (by decide) (by decide) (pc' := 22) rfl
  replace H : K 22 #[.val (.long x0), .second, .val (.long x1), .second, .val (.long x2), .second, .val (.int x3), .val (.int n), .val (.ref b1), .val (.ref b2), .unset, .unset, .unset, .unset, .unset, .unset, .unset, .unset] [(.int (own_low x0))] h_b2 2 6 := H
  replace H := k_istore C H at_22 (L' := #[.val (.long x0), .second, .val (.long x1), .second, .val (.long x2), .second, .val (.int x3), .val (.int n), .val (.ref b1), .val (.ref b2), .val (.int (own_low x0)), .unset, .unset, .unset, .unset, .unset, .unset, .unset]) rfl (pc' := 24) rfl
  obtain ⟨v0, e_v0, H⟩ : ∃ v0 : Int32, v0 = (own_low x0) ∧ K 24 #[.val (.long x0), .second, .val (.long x1), .second, .val (.long x2), .second, .val (.int x3), .val (.int n), .val (.ref b1), .val (.ref b2), .val (.int v0), .unset, .unset, .unset, .unset, .unset, .unset, .unset] [] h_b2 2 6 := ⟨_, rfl, H⟩
  have p0 : 0 ≤ v0.toInt := e_v0 ▸ own_low0 x0
  replace H := k_lloadN C H at_24 rfl (pc' := 25) rfl
  obtain ⟨_, _, ⟨rfl, rfl⟩, H⟩ := k_callSta C H (rm2 l Z a0 hw x0 h_b2 n0) (hw _ (List.mem_of_getElem? (i := 6) rfl)) (hw _ (List.mem_of_getElem? (i := 7) rfl)) (hw _ (List.mem_of_getElem? (i := 3) rfl)) (hw _ (List.mem_of_getElem? (i := 8) rfl)) (by decide) at_25 rfl [(.long x0)] [] pd0_0 rfl rfl rfl 0 rfl (by decide) (by decide) (by decide) (by decide) (pc' := 28) rfl
  replace H : K 28 #[.val (.long x0), .second, .val (.long x1), .second, .val (.long x2), .second, .val (.int x3), .val (.int n), .val (.ref b1), .val (.ref b2), .val (.int v0), .unset, .unset, .unset, .unset, .unset, .unset, .unset] [(.int (own_high x0))] h_b2 2 6 := H
  replace H := k_istore C H at_28 (L' := #[.val (.long x0), .second, .val (.long x1), .second, .val (.long x2), .second, .val (.int x3), .val (.int n), .val (.ref b1), .val (.ref b2), .val (.int v0), .val (.int (own_high x0)), .unset, .unset, .unset, .unset, .unset, .unset]) rfl (pc' := 30) rfl
  obtain ⟨v1, e_v1, H⟩ : ∃ v1 : Int32, v1 = (own_high x0) ∧ K 30 #[.val (.long x0), .second, .val (.long x1), .second, .val (.long x2), .second, .val (.int x3), .val (.int n), .val (.ref b1), .val (.ref b2), .val (.int v0), .val (.int v1), .unset, .unset, .unset, .unset, .unset, .unset] [] h_b2 2 6 := ⟨_, rfl, H⟩
  have p1 : 0 ≤ v1.toInt := e_v1 ▸ own_high0 x0
  replace H := k_lloadN C H at_30 rfl (pc' := 31) rfl
  obtain ⟨_, _, ⟨rfl, rfl⟩, H⟩ := k_callSta C H (rm1 l Z a0 hw x1 h_b2 n0) (hw _ (List.mem_of_getElem? (i := 1) rfl)) (hw _ (List.mem_of_getElem? (i := 2) rfl)) (hw _ (List.mem_of_getElem? (i := 3) rfl)) (hw _ (List.mem_of_getElem? (i := 4) rfl)) (by decide) at_31 rfl [(.long x1)] [] pd0_0 rfl rfl rfl 0 rfl (by decide) (by decide) (by decide) (by decide) (pc' := 34) rfl
  replace H : K 34 #[.val (.long x0), .second, .val (.long x1), .second, .val (.long x2), .second, .val (.int x3), .val (.int n), .val (.ref b1), .val (.ref b2), .val (.int v0), .val (.int v1), .unset, .unset, .unset, .unset, .unset, .unset] [(.int (own_low x1))] h_b2 2 6 := H
  replace H := k_istore C H at_34 (L' := #[.val (.long x0), .second, .val (.long x1), .second, .val (.long x2), .second, .val (.int x3), .val (.int n), .val (.ref b1), .val (.ref b2), .val (.int v0), .val (.int v1), .val (.int (own_low x1)), .unset, .unset, .unset, .unset, .unset]) rfl (pc' := 36) rfl
  obtain ⟨v2, e_v2, H⟩ : ∃ v2 : Int32, v2 = (own_low x1) ∧ K 36 #[.val (.long x0), .second, .val (.long x1), .second, .val (.long x2), .second, .val (.int x3), .val (.int n), .val (.ref b1), .val (.ref b2), .val (.int v0), .val (.int v1), .val (.int v2), .unset, .unset, .unset, .unset, .unset] [] h_b2 2 6 := ⟨_, rfl, H⟩
  have p2 : 0 ≤ v2.toInt := e_v2 ▸ own_low0 x1
  replace H := k_lloadN C H at_36 rfl (pc' := 37) rfl
  obtain ⟨_, _, ⟨rfl, rfl⟩, H⟩ := k_callSta C H (rm2 l Z a0 hw x1 h_b2 n0) (hw _ (List.mem_of_getElem? (i := 6) rfl)) (hw _ (List.mem_of_getElem? (i := 7) rfl)) (hw _ (List.mem_of_getElem? (i := 3) rfl)) (hw _ (List.mem_of_getElem? (i := 8) rfl)) (by decide) at_37 rfl [(.long x1)] [] pd0_0 rfl rfl rfl 0 rfl (by decide) (by decide) (by decide) (by decide) (pc' := 40) rfl
  replace H : K 40 #[.val (.long x0), .second, .val (.long x1), .second, .val (.long x2), .second, .val (.int x3), .val (.int n), .val (.ref b1), .val (.ref b2), .val (.int v0), .val (.int v1), .val (.int v2), .unset, .unset, .unset, .unset, .unset] [(.int (own_high x1))] h_b2 2 6 := H
  replace H := k_istore C H at_40 (L' := #[.val (.long x0), .second, .val (.long x1), .second, .val (.long x2), .second, .val (.int x3), .val (.int n), .val (.ref b1), .val (.ref b2), .val (.int v0), .val (.int v1), .val (.int v2), .val (.int (own_high x1)), .unset, .unset, .unset, .unset]) rfl (pc' := 42) rfl
  obtain ⟨v3, e_v3, H⟩ : ∃ v3 : Int32, v3 = (own_high x1) ∧ K 42 #[.val (.long x0), .second, .val (.long x1), .second, .val (.long x2), .second, .val (.int x3), .val (.int n), .val (.ref b1), .val (.ref b2), .val (.int v0), .val (.int v1), .val (.int v2), .val (.int v3), .unset, .unset, .unset, .unset] [] h_b2 2 6 := ⟨_, rfl, H⟩
  have p3 : 0 ≤ v3.toInt := e_v3 ▸ own_high0 x1
  replace H := k_lload C H at_42 rfl (pc' := 44) rfl
  obtain ⟨_, _, ⟨rfl, rfl⟩, H⟩ := k_callSta C H (rm1 l Z a0 hw x2 h_b2 n0) (hw _ (List.mem_of_getElem? (i := 1) rfl)) (hw _ (List.mem_of_getElem? (i := 2) rfl)) (hw _ (List.mem_of_getElem? (i := 3) rfl)) (hw _ (List.mem_of_getElem? (i := 4) rfl)) (by decide) at_44 rfl [(.long x2)] [] pd0_0 rfl rfl rfl 0 rfl (by decide) (by decide) (by decide) (by decide) (pc' := 47) rfl
  replace H : K 47 #[.val (.long x0), .second, .val (.long x1), .second, .val (.long x2), .second, .val (.int x3), .val (.int n), .val (.ref b1), .val (.ref b2), .val (.int v0), .val (.int v1), .val (.int v2), .val (.int v3), .unset, .unset, .unset, .unset] [(.int (own_low x2))] h_b2 2 6 := H
  replace H := k_istore C H at_47 (L' := #[.val (.long x0), .second, .val (.long x1), .second, .val (.long x2), .second, .val (.int x3), .val (.int n), .val (.ref b1), .val (.ref b2), .val (.int v0), .val (.int v1), .val (.int v2), .val (.int v3), .val (.int (own_low x2)), .unset, .unset, .unset]) rfl (pc' := 49) rfl
  obtain ⟨v4, e_v4, H⟩ : ∃ v4 : Int32, v4 = (own_low x2) ∧ K 49 #[.val (.long x0), .second, .val (.long x1), .second, .val (.long x2), .second, .val (.int x3), .val (.int n), .val (.ref b1), .val (.ref b2), .val (.int v0), .val (.int v1), .val (.int v2), .val (.int v3), .val (.int v4), .unset, .unset, .unset] [] h_b2 2 6 := ⟨_, rfl, H⟩
  have p4 : 0 ≤ v4.toInt := e_v4 ▸ own_low0 x2
  replace H := k_lload C H at_49 rfl (pc' := 51) rfl
  obtain ⟨_, _, ⟨rfl, rfl⟩, H⟩ := k_callSta C H (rm2 l Z a0 hw x2 h_b2 n0) (hw _ (List.mem_of_getElem? (i := 6) rfl)) (hw _ (List.mem_of_getElem? (i := 7) rfl)) (hw _ (List.mem_of_getElem? (i := 3) rfl)) (hw _ (List.mem_of_getElem? (i := 8) rfl)) (by decide) at_51 rfl [(.long x2)] [] pd0_0 rfl rfl rfl 0 rfl (by decide) (by decide) (by decide) (by decide) (pc' := 54) rfl
  replace H : K 54 #[.val (.long x0), .second, .val (.long x1), .second, .val (.long x2), .second, .val (.int x3), .val (.int n), .val (.ref b1), .val (.ref b2), .val (.int v0), .val (.int v1), .val (.int v2), .val (.int v3), .val (.int v4), .unset, .unset, .unset] [(.int (own_high x2))] h_b2 2 6 := H
  replace H := k_istore C H at_54 (L' := #[.val (.long x0), .second, .val (.long x1), .second, .val (.long x2), .second, .val (.int x3), .val (.int n), .val (.ref b1), .val (.ref b2), .val (.int v0), .val (.int v1), .val (.int v2), .val (.int v3), .val (.int v4), .val (.int (own_high x2)), .unset, .unset]) rfl (pc' := 56) rfl
  obtain ⟨v5, e_v5, H⟩ : ∃ v5 : Int32, v5 = (own_high x2) ∧ K 56 #[.val (.long x0), .second, .val (.long x1), .second, .val (.long x2), .second, .val (.int x3), .val (.int n), .val (.ref b1), .val (.ref b2), .val (.int v0), .val (.int v1), .val (.int v2), .val (.int v3), .val (.int v4), .val (.int v5), .unset, .unset] [] h_b2 2 6 := ⟨_, rfl, H⟩
  have p5 : 0 ≤ v5.toInt := e_v5 ▸ own_high0 x2
  replace H := k_lconst C H (v := 0) at_56 rfl (pc' := 57) rfl
  replace H := k_lstore C H at_57 (L' := #[.val (.long x0), .second, .val (.long x1), .second, .val (.long x2), .second, .val (.int x3), .val (.int n), .val (.ref b1), .val (.ref b2), .val (.int v0), .val (.int v1), .val (.int v2), .val (.int v3), .val (.int v4), .val (.int v5), .val (.long (0 : Int64)), .second]) rfl (pc' := 59) rfl
  replace H := k_iload C H at_59 rfl (pc' := 61) rfl
  replace H := k_iconst C H (v := 1) at_61 rfl (pc' := 62) rfl
  by_cases hc62 : n < (1 : Int32)
  · replace H := k_icmpY C H at_62 (tlt hc62).1 (by decide) (pc' := 89) rfl
    have m_n : nn < 1 := own_lt 1 hc62 e_nn (by decide)
    have e_k : nn = 0 := by omega
    replace H := k_iload C H at_89 rfl (pc' := 91) rfl
    replace H := k_iconst C H (v := 2) at_91 rfl (pc' := 92) rfl
    replace H := k_icmpY C H at_92 (tlt (own_ltc 2 (by omega) e_nn (by decide) : n < (2 : Int32))).1 (by decide) (pc' := 119) rfl
    replace H := k_iload C H at_119 rfl (pc' := 121) rfl
    replace H := k_iconst C H (v := 3) at_121 rfl (pc' := 122) rfl
    replace H := k_icmpY C H at_122 (tlt (own_ltc 3 (by omega) e_nn (by decide) : n < (3 : Int32))).1 (by decide) (pc' := 149) rfl
    replace H := k_aload C H at_149 rfl rfl (pc' := 151) rfl
    replace H := k_aload C H at_151 rfl rfl (pc' := 153) rfl
    obtain ⟨f, A_b1'⟩ : ∃ f : Nat → Int32, Ari Z h_b2 b1 .int nn f := ⟨_, A_b1'⟩
    obtain ⟨g, A_b2'⟩ : ∃ g : Nat → Int32, Ari Z h_b2 b2 .int nn g := ⟨_, A_b2'⟩
    obtain ⟨_, _, ⟨rfl, rfl⟩, H⟩ := k_callSta C H (rm4 l Z a0 hw b1 b2 h_b2 n0 nn f g A_b1' A_b2' (by omega)) (hw _ (List.mem_of_getElem? (i := 12) rfl)) (hw _ (List.mem_of_getElem? (i := 13) rfl)) (hw _ (List.mem_of_getElem? (i := 14) rfl)) (hw _ (List.mem_of_getElem? (i := 15) rfl)) (by decide) at_153 rfl [(.ref b1), (.ref b2)] [] pd0_1 rfl rfl rfl 0 rfl (by decide) (by decide) (by decide) (by decide) (pc' := 156) rfl
    replace H : K 156 #[.val (.long x0), .second, .val (.long x1), .second, .val (.long x2), .second, .val (.int x3), .val (.int n), .val (.ref b1), .val (.ref b2), .val (.int v0), .val (.int v1), .val (.int v2), .val (.int v3), .val (.int v4), .val (.int v5), .val (.long (0 : Int64)), .second] [(.long (own_d f g nn))] h_b2 2 6 := H
    replace H := k_lload C H at_156 rfl (pc' := 158) rfl
    replace H := k_lcmp C H at_158 (pc' := 159) rfl
    have q : own_d f g nn = (0 : Int64) := by
      rw [e_k]
      show (0 : Int64) = (0 : Int64)
      rfl
    replace H := k_ifcN C H at_159 (teq ((lw_eq _ _).mpr q)).2 (pc' := 162) rfl
    replace H := k_iconst C H (v := 1) at_162 rfl (pc' := 163) rfl
    replace H := k_goto C H at_163 (by decide) (pc' := 167) rfl
    exact k_retZ C H at_167 (by decide) (by decide) (by decide) rfl
  · replace H := k_icmpN C H at_62 (flt hc62).1 (pc' := 65) rfl
    have m_1 : 1 ≤ nn := own_ge 1 hc62 e_nn (by decide)
    replace H := k_aload C H at_65 rfl rfl (pc' := 67) rfl
    replace H := k_iconst C H (v := 0) at_67 rfl (pc' := 68) rfl
    replace H := k_iload C H at_68 rfl (pc' := 70) rfl
    obtain ⟨k0, W0, A_b1', H⟩ := k_iastore C H A_b1' (i := 0) (by decide) (by omega) n_b1 at_70 (pc' := 71) rfl
    replace A_b2' := A_b2'.other W0 (Ne.symm ne_b1_b2)
    have Z_k0 : n0 ≤ k0.size := by rw [W0.size]; exact Z_b2
    replace H := k_aload C H at_71 rfl rfl (pc' := 73) rfl
    replace H := k_iconst C H (v := 0) at_73 rfl (pc' := 74) rfl
    replace H := k_iload C H at_74 rfl (pc' := 76) rfl
    obtain ⟨l0, U0, A_b2', H⟩ := k_iastore C H A_b2' (i := 0) (by decide) (by omega) n_b2 at_76 (pc' := 77) rfl
    replace A_b1' := A_b1'.other U0 ne_b1_b2
    have Z_l0 : n0 ≤ l0.size := by rw [U0.size]; exact Z_k0
    replace H := k_lload C H at_77 rfl (pc' := 79) rfl
    replace H := k_iload C H at_79 rfl (pc' := 81) rfl
    replace H := k_iload C H at_81 rfl (pc' := 83) rfl
    obtain ⟨_, _, ⟨rfl, rfl⟩, H⟩ := k_callSta C H (rm3 l Z a0 hw v0 v1 l0 n0) (hw _ (List.mem_of_getElem? (i := 9) rfl)) (hw _ (List.mem_of_getElem? (i := 10) rfl)) (hw _ (List.mem_of_getElem? (i := 3) rfl)) (hw _ (List.mem_of_getElem? (i := 11) rfl)) (by decide) at_83 rfl [(.int v0), (.int v1)] [(.long (0 : Int64))] pd0_2 rfl rfl rfl 2 rfl (by decide) (by decide) (by decide) (by decide) (pc' := 86) rfl
    replace H : K 86 #[.val (.long x0), .second, .val (.long x1), .second, .val (.long x2), .second, .val (.int x3), .val (.int n), .val (.ref b1), .val (.ref b2), .val (.int v0), .val (.int v1), .val (.int v2), .val (.int v3), .val (.int v4), .val (.int v5), .val (.long (0 : Int64)), .second] [(.long (own_sq v0 v1)), (.long (0 : Int64))] l0 2 6 := H
    replace H := k_ladd C H at_86 (pc' := 87) rfl
    replace H := k_lstore C H at_87 (L' := #[.val (.long x0), .second, .val (.long x1), .second, .val (.long x2), .second, .val (.int x3), .val (.int n), .val (.ref b1), .val (.ref b2), .val (.int v0), .val (.int v1), .val (.int v2), .val (.int v3), .val (.int v4), .val (.int v5), .val (.long ((0 : Int64) + (own_sq v0 v1))), .second]) rfl (pc' := 89) rfl
    replace H := k_iload C H at_89 rfl (pc' := 91) rfl
    replace H := k_iconst C H (v := 2) at_91 rfl (pc' := 92) rfl
    by_cases hc92 : n < (2 : Int32)
    · replace H := k_icmpY C H at_92 (tlt hc92).1 (by decide) (pc' := 119) rfl
      have m_n : nn < 2 := own_lt 2 hc92 e_nn (by decide)
      have e_k : nn = 1 := by omega
      replace H := k_iload C H at_119 rfl (pc' := 121) rfl
      replace H := k_iconst C H (v := 3) at_121 rfl (pc' := 122) rfl
      replace H := k_icmpY C H at_122 (tlt (own_ltc 3 (by omega) e_nn (by decide) : n < (3 : Int32))).1 (by decide) (pc' := 149) rfl
      replace H := k_aload C H at_149 rfl rfl (pc' := 151) rfl
      replace H := k_aload C H at_151 rfl rfl (pc' := 153) rfl
      obtain ⟨f, f0, A_b1'⟩ : ∃ f : Nat → Int32, f 0 = v0 ∧ Ari Z l0 b1 .int nn f := ⟨_, rfl, A_b1'⟩
      obtain ⟨g, g0, A_b2'⟩ : ∃ g : Nat → Int32, g 0 = v1 ∧ Ari Z l0 b2 .int nn g := ⟨_, rfl, A_b2'⟩
      obtain ⟨_, _, ⟨rfl, rfl⟩, H⟩ := k_callSta C H (rm4 l Z a0 hw b1 b2 l0 n0 nn f g A_b1' A_b2' (by omega)) (hw _ (List.mem_of_getElem? (i := 12) rfl)) (hw _ (List.mem_of_getElem? (i := 13) rfl)) (hw _ (List.mem_of_getElem? (i := 14) rfl)) (hw _ (List.mem_of_getElem? (i := 15) rfl)) (by decide) at_153 rfl [(.ref b1), (.ref b2)] [] pd0_1 rfl rfl rfl 0 rfl (by decide) (by decide) (by decide) (by decide) (pc' := 156) rfl
      replace H : K 156 #[.val (.long x0), .second, .val (.long x1), .second, .val (.long x2), .second, .val (.int x3), .val (.int n), .val (.ref b1), .val (.ref b2), .val (.int v0), .val (.int v1), .val (.int v2), .val (.int v3), .val (.int v4), .val (.int v5), .val (.long ((0 : Int64) + (own_sq v0 v1))), .second] [(.long (own_d f g nn))] l0 2 6 := H
      replace H := k_lload C H at_156 rfl (pc' := 158) rfl
      replace H := k_lcmp C H at_158 (pc' := 159) rfl
      have q : own_d f g nn = ((0 : Int64) + (own_sq v0 v1)) := by
        rw [e_k]
        show (0 : Int64) + (f 0 - g 0).toInt64 * (f 0 - g 0).toInt64 = ((0 : Int64) + (own_sq v0 v1))
        rw [f0, g0, own_sqe v0 v1 p0 p1]
      replace H := k_ifcN C H at_159 (teq ((lw_eq _ _).mpr q)).2 (pc' := 162) rfl
      replace H := k_iconst C H (v := 1) at_162 rfl (pc' := 163) rfl
      replace H := k_goto C H at_163 (by decide) (pc' := 167) rfl
      exact k_retZ C H at_167 (by decide) (by decide) (by decide) rfl
    · replace H := k_icmpN C H at_92 (flt hc92).1 (pc' := 95) rfl
      have m_2 : 2 ≤ nn := own_ge 2 hc92 e_nn (by decide)
      replace H := k_aload C H at_95 rfl rfl (pc' := 97) rfl
      replace H := k_iconst C H (v := 1) at_97 rfl (pc' := 98) rfl
      replace H := k_iload C H at_98 rfl (pc' := 100) rfl
      obtain ⟨k1, W1, A_b1', H⟩ := k_iastore C H A_b1' (i := 1) (by decide) (by omega) n_b1 at_100 (pc' := 101) rfl
      replace A_b2' := A_b2'.other W1 (Ne.symm ne_b1_b2)
      have Z_k1 : n0 ≤ k1.size := by rw [W1.size]; exact Z_l0
      replace H := k_aload C H at_101 rfl rfl (pc' := 103) rfl
      replace H := k_iconst C H (v := 1) at_103 rfl (pc' := 104) rfl
      replace H := k_iload C H at_104 rfl (pc' := 106) rfl
      obtain ⟨l1, U1, A_b2', H⟩ := k_iastore C H A_b2' (i := 1) (by decide) (by omega) n_b2 at_106 (pc' := 107) rfl
      replace A_b1' := A_b1'.other U1 ne_b1_b2
      have Z_l1 : n0 ≤ l1.size := by rw [U1.size]; exact Z_k1
      replace H := k_lload C H at_107 rfl (pc' := 109) rfl
      replace H := k_iload C H at_109 rfl (pc' := 111) rfl
      replace H := k_iload C H at_111 rfl (pc' := 113) rfl
      obtain ⟨_, _, ⟨rfl, rfl⟩, H⟩ := k_callSta C H (rm3 l Z a0 hw v2 v3 l1 n0) (hw _ (List.mem_of_getElem? (i := 9) rfl)) (hw _ (List.mem_of_getElem? (i := 10) rfl)) (hw _ (List.mem_of_getElem? (i := 3) rfl)) (hw _ (List.mem_of_getElem? (i := 11) rfl)) (by decide) at_113 rfl [(.int v2), (.int v3)] [(.long ((0 : Int64) + (own_sq v0 v1)))] pd0_2 rfl rfl rfl 2 rfl (by decide) (by decide) (by decide) (by decide) (pc' := 116) rfl
      replace H : K 116 #[.val (.long x0), .second, .val (.long x1), .second, .val (.long x2), .second, .val (.int x3), .val (.int n), .val (.ref b1), .val (.ref b2), .val (.int v0), .val (.int v1), .val (.int v2), .val (.int v3), .val (.int v4), .val (.int v5), .val (.long ((0 : Int64) + (own_sq v0 v1))), .second] [(.long (own_sq v2 v3)), (.long ((0 : Int64) + (own_sq v0 v1)))] l1 2 6 := H
      replace H := k_ladd C H at_116 (pc' := 117) rfl
      replace H := k_lstore C H at_117 (L' := #[.val (.long x0), .second, .val (.long x1), .second, .val (.long x2), .second, .val (.int x3), .val (.int n), .val (.ref b1), .val (.ref b2), .val (.int v0), .val (.int v1), .val (.int v2), .val (.int v3), .val (.int v4), .val (.int v5), .val (.long (((0 : Int64) + (own_sq v0 v1)) + (own_sq v2 v3))), .second]) rfl (pc' := 119) rfl
      replace H := k_iload C H at_119 rfl (pc' := 121) rfl
      replace H := k_iconst C H (v := 3) at_121 rfl (pc' := 122) rfl
      by_cases hc122 : n < (3 : Int32)
      · replace H := k_icmpY C H at_122 (tlt hc122).1 (by decide) (pc' := 149) rfl
        have m_n : nn < 3 := own_lt 3 hc122 e_nn (by decide)
        have e_k : nn = 2 := by omega
        replace H := k_aload C H at_149 rfl rfl (pc' := 151) rfl
        replace H := k_aload C H at_151 rfl rfl (pc' := 153) rfl
        obtain ⟨f, f0, f1, A_b1'⟩ : ∃ f : Nat → Int32, f 0 = v0 ∧ f 1 = v2 ∧ Ari Z l1 b1 .int nn f := ⟨_, rfl, rfl, A_b1'⟩
        obtain ⟨g, g0, g1, A_b2'⟩ : ∃ g : Nat → Int32, g 0 = v1 ∧ g 1 = v3 ∧ Ari Z l1 b2 .int nn g := ⟨_, rfl, rfl, A_b2'⟩
        obtain ⟨_, _, ⟨rfl, rfl⟩, H⟩ := k_callSta C H (rm4 l Z a0 hw b1 b2 l1 n0 nn f g A_b1' A_b2' (by omega)) (hw _ (List.mem_of_getElem? (i := 12) rfl)) (hw _ (List.mem_of_getElem? (i := 13) rfl)) (hw _ (List.mem_of_getElem? (i := 14) rfl)) (hw _ (List.mem_of_getElem? (i := 15) rfl)) (by decide) at_153 rfl [(.ref b1), (.ref b2)] [] pd0_1 rfl rfl rfl 0 rfl (by decide) (by decide) (by decide) (by decide) (pc' := 156) rfl
        replace H : K 156 #[.val (.long x0), .second, .val (.long x1), .second, .val (.long x2), .second, .val (.int x3), .val (.int n), .val (.ref b1), .val (.ref b2), .val (.int v0), .val (.int v1), .val (.int v2), .val (.int v3), .val (.int v4), .val (.int v5), .val (.long (((0 : Int64) + (own_sq v0 v1)) + (own_sq v2 v3))), .second] [(.long (own_d f g nn))] l1 2 6 := H
        replace H := k_lload C H at_156 rfl (pc' := 158) rfl
        replace H := k_lcmp C H at_158 (pc' := 159) rfl
        have q : own_d f g nn = (((0 : Int64) + (own_sq v0 v1)) + (own_sq v2 v3)) := by
          rw [e_k]
          show (0 : Int64) + (f 0 - g 0).toInt64 * (f 0 - g 0).toInt64 + (f 1 - g 1).toInt64 * (f 1 - g 1).toInt64 = (((0 : Int64) + (own_sq v0 v1)) + (own_sq v2 v3))
          rw [f0, g0, f1, g1, own_sqe v0 v1 p0 p1, own_sqe v2 v3 p2 p3]
        replace H := k_ifcN C H at_159 (teq ((lw_eq _ _).mpr q)).2 (pc' := 162) rfl
        replace H := k_iconst C H (v := 1) at_162 rfl (pc' := 163) rfl
        replace H := k_goto C H at_163 (by decide) (pc' := 167) rfl
        exact k_retZ C H at_167 (by decide) (by decide) (by decide) rfl
      · replace H := k_icmpN C H at_122 (flt hc122).1 (pc' := 125) rfl
        have m_3 : 3 ≤ nn := own_ge 3 hc122 e_nn (by decide)
        replace H := k_aload C H at_125 rfl rfl (pc' := 127) rfl
        replace H := k_iconst C H (v := 2) at_127 rfl (pc' := 128) rfl
        replace H := k_iload C H at_128 rfl (pc' := 130) rfl
        obtain ⟨k2, W2, A_b1', H⟩ := k_iastore C H A_b1' (i := 2) (by decide) (by omega) n_b1 at_130 (pc' := 131) rfl
        replace A_b2' := A_b2'.other W2 (Ne.symm ne_b1_b2)
        have Z_k2 : n0 ≤ k2.size := by rw [W2.size]; exact Z_l1
        replace H := k_aload C H at_131 rfl rfl (pc' := 133) rfl
        replace H := k_iconst C H (v := 2) at_133 rfl (pc' := 134) rfl
        replace H := k_iload C H at_134 rfl (pc' := 136) rfl
        obtain ⟨l2, U2, A_b2', H⟩ := k_iastore C H A_b2' (i := 2) (by decide) (by omega) n_b2 at_136 (pc' := 137) rfl
        replace A_b1' := A_b1'.other U2 ne_b1_b2
        have Z_l2 : n0 ≤ l2.size := by rw [U2.size]; exact Z_k2
        replace H := k_lload C H at_137 rfl (pc' := 139) rfl
        replace H := k_iload C H at_139 rfl (pc' := 141) rfl
        replace H := k_iload C H at_141 rfl (pc' := 143) rfl
        obtain ⟨_, _, ⟨rfl, rfl⟩, H⟩ := k_callSta C H (rm3 l Z a0 hw v4 v5 l2 n0) (hw _ (List.mem_of_getElem? (i := 9) rfl)) (hw _ (List.mem_of_getElem? (i := 10) rfl)) (hw _ (List.mem_of_getElem? (i := 3) rfl)) (hw _ (List.mem_of_getElem? (i := 11) rfl)) (by decide) at_143 rfl [(.int v4), (.int v5)] [(.long (((0 : Int64) + (own_sq v0 v1)) + (own_sq v2 v3)))] pd0_2 rfl rfl rfl 2 rfl (by decide) (by decide) (by decide) (by decide) (pc' := 146) rfl
        replace H : K 146 #[.val (.long x0), .second, .val (.long x1), .second, .val (.long x2), .second, .val (.int x3), .val (.int n), .val (.ref b1), .val (.ref b2), .val (.int v0), .val (.int v1), .val (.int v2), .val (.int v3), .val (.int v4), .val (.int v5), .val (.long (((0 : Int64) + (own_sq v0 v1)) + (own_sq v2 v3))), .second] [(.long (own_sq v4 v5)), (.long (((0 : Int64) + (own_sq v0 v1)) + (own_sq v2 v3)))] l2 2 6 := H
        replace H := k_ladd C H at_146 (pc' := 147) rfl
        replace H := k_lstore C H at_147 (L' := #[.val (.long x0), .second, .val (.long x1), .second, .val (.long x2), .second, .val (.int x3), .val (.int n), .val (.ref b1), .val (.ref b2), .val (.int v0), .val (.int v1), .val (.int v2), .val (.int v3), .val (.int v4), .val (.int v5), .val (.long ((((0 : Int64) + (own_sq v0 v1)) + (own_sq v2 v3)) + (own_sq v4 v5))), .second]) rfl (pc' := 149) rfl
        replace H := k_aload C H at_149 rfl rfl (pc' := 151) rfl
        replace H := k_aload C H at_151 rfl rfl (pc' := 153) rfl
        have e_k : nn = 3 := by omega
        obtain ⟨f, f0, f1, f2, A_b1'⟩ : ∃ f : Nat → Int32, f 0 = v0 ∧ f 1 = v2 ∧ f 2 = v4 ∧ Ari Z l2 b1 .int nn f := ⟨_, rfl, rfl, rfl, A_b1'⟩
        obtain ⟨g, g0, g1, g2, A_b2'⟩ : ∃ g : Nat → Int32, g 0 = v1 ∧ g 1 = v3 ∧ g 2 = v5 ∧ Ari Z l2 b2 .int nn g := ⟨_, rfl, rfl, rfl, A_b2'⟩
        obtain ⟨_, _, ⟨rfl, rfl⟩, H⟩ := k_callSta C H (rm4 l Z a0 hw b1 b2 l2 n0 nn f g A_b1' A_b2' (by omega)) (hw _ (List.mem_of_getElem? (i := 12) rfl)) (hw _ (List.mem_of_getElem? (i := 13) rfl)) (hw _ (List.mem_of_getElem? (i := 14) rfl)) (hw _ (List.mem_of_getElem? (i := 15) rfl)) (by decide) at_153 rfl [(.ref b1), (.ref b2)] [] pd0_1 rfl rfl rfl 0 rfl (by decide) (by decide) (by decide) (by decide) (pc' := 156) rfl
        replace H : K 156 #[.val (.long x0), .second, .val (.long x1), .second, .val (.long x2), .second, .val (.int x3), .val (.int n), .val (.ref b1), .val (.ref b2), .val (.int v0), .val (.int v1), .val (.int v2), .val (.int v3), .val (.int v4), .val (.int v5), .val (.long ((((0 : Int64) + (own_sq v0 v1)) + (own_sq v2 v3)) + (own_sq v4 v5))), .second] [(.long (own_d f g nn))] l2 2 6 := H
        replace H := k_lload C H at_156 rfl (pc' := 158) rfl
        replace H := k_lcmp C H at_158 (pc' := 159) rfl
        have q : own_d f g nn = ((((0 : Int64) + (own_sq v0 v1)) + (own_sq v2 v3)) + (own_sq v4 v5)) := by
          rw [e_k]
          show (0 : Int64) + (f 0 - g 0).toInt64 * (f 0 - g 0).toInt64 + (f 1 - g 1).toInt64 * (f 1 - g 1).toInt64 + (f 2 - g 2).toInt64 * (f 2 - g 2).toInt64 = ((((0 : Int64) + (own_sq v0 v1)) + (own_sq v2 v3)) + (own_sq v4 v5))
          rw [f0, g0, f1, g1, f2, g2, own_sqe v0 v1 p0 p1, own_sqe v2 v3 p2 p3, own_sqe v4 v5 p4 p5]
        replace H := k_ifcN C H at_159 (teq ((lw_eq _ _).mpr q)).2 (pc' := 162) rfl
        replace H := k_iconst C H (v := 1) at_162 rfl (pc' := 163) rfl
        replace H := k_goto C H at_163 (by decide) (pc' := 167) rfl
        exact k_retZ C H at_167 (by decide) (by decide) (by decide) rfl
set_option maxRecDepth 65536 in
set_option maxHeartbeats 40000000 in
theorem comes_1 {Post : Tables → Env → Array Value → State → Outcome → State → Prop} (hpost : ∀ tb e args s v u, (limb_1_1.after args s (.returned v) u = true ∧ limb_1_2.after args s (.returned v) u = true) → FrameEnd s (.returned v) u (Jvm.fieldLocs frame_1_writes args s ++ Jvm.arrayLocs frame_1_arrays args s ++ Jvm.staticLocs frame_1_statics s) 16 128 → Post tb e args s (.returned v) u) :
    ArmFor flags0 classFile x code maxLocals ret World_1 tables_1 room_1 Calls_1 rest_1 Pre_1 Post := by
  intro l hfl _ _ p e ha hc hk s m args below hf hA hF happ hP
  obtain ⟨hcalls, hrest, hpre⟩ := hP
  obtain ⟨-, -, -, hnamed, -, -, -, hat⟩ := (Spec.applies_iff hf).mp happ
  obtain ⟨hg, hn⟩ := and_e (Cond.before_iff.mp (show (Jvm.Cond.and given_1 narrow_1).before args s = true from hpre))
  obtain ⟨g0, r0⟩ := and_e hg
  obtain ⟨g1, r1⟩ := and_e r0
  obtain ⟨g2, r2⟩ := and_e r1
  obtain ⟨g3, r3⟩ := and_e r2
  obtain ⟨w0, w1, w2, w3, rfl⟩ : ∃ w0 w1 w2 w3 : Value, args = #[w0, w1, w2, w3] := by
    have hs : args.size = 4 := by simpa [Cond.value, given_1] using g0
    obtain ⟨L⟩ := args
    match L, hs with
    | [w0, w1, w2, w3], _ => exact ⟨w0, w1, w2, w3, rfl⟩
  have hw := fun d (hd : d ∈ tables_1) => atoms_spec (ws := Jvm.Cond.code x code maxLocals ret :: tables_1) hat d (List.mem_cons_of_mem _ hd)
  obtain ⟨i0, ei0⟩ := isL_v g1
  obtain rfl : w0 = (.long i0) := Option.some.inj ei0
  obtain ⟨i1, ei1⟩ := isL_v g2
  obtain rfl : w1 = (.long i1) := Option.some.inj ei1
  obtain ⟨i2, ei2⟩ := isL_v g3
  obtain rfl : w2 = (.long i2) := Option.some.inj ei2
  obtain ⟨i3, ei3⟩ := is_v r3
  obtain rfl : w3 = (.int i3) := Option.some.inj ei3
  obtain ⟨n, o, h1, h2, h3, _, L, rfl, ⟨rfl, N⟩, hq⟩ := rm0 l s _ hw i0 i1 i2 i3 s.heap s.heap.size (Nat.le_refl _) tables_1 p e ha hc hk s m _ below hf ((Spec.applies_iff_loose hf).mp happ).1 ⟨rfl, State.Warmed39.refl s, rfl⟩ trivial
  refine ⟨n, _, h1, h2, h3, hpost _ _ _ _ _ _ ⟨Cond.after_iff.mpr rfl, Cond.after_iff.mpr (eq_i res_at (Term.int_eval (1)) rfl)⟩ ⟨hq.1, hq.2.1, (hq.2.2.sift fun y hy => Or.inr (N y hy)).mono (by decide) (by decide)⟩⟩
theorem main_1_1 : Claimed_1_1 := comes_1 fun _ _ _ _ _ _ h hF => ⟨h.1, hF⟩
theorem main_1_2 : Claimed_1_2 := comes_1 fun _ _ _ _ _ _ h hF => ⟨h.2, hF⟩
end Jvm.Pilot.@@N@@
namespace Jvm.Pilot.@@N@@
open Jvm Jvm.ClassFile Sem Op Lib Jvm.Free Jvm.Stand Jvm.Pilot.@@N@@.Jvm.D
/-! MADE BY PROGRAM (witnessworld.py) out of the Statement's table words and the real class files: 9 classes; the members and pool entries that the words name. The judged class is class 1, her method 4. -/
namespace start1
open Jvm.ClassFile
def u (s : String) : CpInfo := .utf8 (stringToUtf16 s)
/-- a pool by its gaps: so many unusable entries, then the entry; so many at the end -/
def gap : Nat → List CpInfo → List CpInfo
  | 0, r => r
  | n + 1, r => .unusable :: gap n r
def poolList (es : List (Nat × CpInfo)) (last : Nat) : List CpInfo := es.foldr (fun e r => gap e.1 (e.2 :: r)) (gap last [])
def pool (es : List (Nat × CpInfo)) (last : Nat) : Array CpInfo := ⟨poolList es last⟩
def fileOf (pool : Array CpInfo) (this : Nat) (attrs : Array Attribute := #[]) (ms : Array MethodInfo := #[]) (fl : Nat := 33) (sup : Nat := 0) (ifs : Array Nat := #[]) (fds : Array FieldInfo := #[]) : ClassFile where
  minorVersion := 0
  majorVersion := 65
  constantPool := pool
  accessFlags := fl
  thisClass := this
  superClass := sup
  interfaces := ifs
  fields := fds
  methods := ms
  attributes := attrs
def plain (name : String) (sup : Option ClassId) : Class where
  name := name
  kind := .ordinary
  loader := none
  accessFlags := 33
  super := sup
  interfaces := #[]
  cf := none
  fields := #[]
  methods := #[]
  instanceTypes := #[]
  staticTypes := #[]
  resolved := #[]
  callSites := []
  init := .initialized
  statics := none
  mirror := none

def pool0 : Array CpInfo := pool [(5, u "<init>"), (0, u "()V"), (1, .class_ 10), (1, u "java/lang/Object")] 113

def k0m0 : Method := { name := "<init>", desc := "()V", sig := { parameters := [], returnType := none }, accessFlags := 1, code := none }
/-- java/lang/Object -/
def k0 : Class := { plain "java/lang/Object" none with
  accessFlags := 33
  interfaces := #[]
  cf := some (fileOf pool0 8 #[] #[{ accessFlags := 1, nameIndex := 5, descriptorIndex := 6, attributes := #[] }] 33 0 #[] #[])
  fields := #[]
  methods := #[k0m0]
  instanceTypes := #[]
  staticTypes := #[]
  resolved := Array.replicate 124 none
  statics := none }

def pool1 : Array CpInfo := pool [(2, .class_ 4), (1, u "java/lang/Object"), (0, u "<init>"), (0, u "()V"), (0, .long 2147483647), (1, .methodref 10 11), (0, .class_ 12), (0, .nameAndType 13 14), (0, u "com/example/dispatchwright/dispatchwright/learning/CharacterisationDistancePinLaw"), (0, u "low"), (0, u "(J)I"), (0, .methodref 10 16), (0, .nameAndType 17 14), (0, u "high"), (0, .methodref 10 19), (0, .nameAndType 20 21), (0, u "sq"), (0, u "(II)J"), (0, .methodref 23 24), (0, .class_ 25), (0, .nameAndType 26 27), (0, u "com/example/dispatchwright/dispatchwright/learning/Characterisation"), (0, u "distance"), (0, u "([I[I)J"), (2, u "law"), (0, u "(JJJI)Z")] 5

def k1m0 : Method := { name := "<init>", desc := "()V", sig := { parameters := [], returnType := none }, accessFlags := 2, code := none }
def k1c1 : Code := { maxStack := 4, maxLocals := 4, code := method_2_code, exceptionTable := #[], attributes := #[] }
def k1m1 : Method := { name := "sq", desc := "(II)J", sig := { parameters := [.int, .int], returnType := some .long }, accessFlags := 10, code := some k1c1 }
def k1c2 : Code := { maxStack := 4, maxLocals := 2, code := method_3_code, exceptionTable := #[], attributes := #[] }
def k1m2 : Method := { name := "low", desc := "(J)I", sig := { parameters := [.long], returnType := some .int }, accessFlags := 10, code := some k1c2 }
def k1c3 : Code := { maxStack := 4, maxLocals := 2, code := method_4_code, exceptionTable := #[], attributes := #[] }
def k1m3 : Method := { name := "high", desc := "(J)I", sig := { parameters := [.long], returnType := some .int }, accessFlags := 10, code := some k1c3 }
def k1c4 : Code := { maxStack := 4, maxLocals := 18, code := code, exceptionTable := #[], attributes := #[] }
def k1m4 : Method := { name := "law", desc := "(JJJI)Z", sig := { parameters := [.long, .long, .long, .int], returnType := some .boolean }, accessFlags := 9, code := some k1c4 }
/-- com/example/dispatchwright/dispatchwright/learning/CharacterisationDistancePinLaw -/
def k1 : Class := { plain "com/example/dispatchwright/dispatchwright/learning/CharacterisationDistancePinLaw" (some 0) with
  accessFlags := 49
  interfaces := #[]
  cf := some (fileOf pool1 10 #[] #[{ accessFlags := 2, nameIndex := 5, descriptorIndex := 6, attributes := #[] }, { accessFlags := 10, nameIndex := 20, descriptorIndex := 21, attributes := #[] }, { accessFlags := 10, nameIndex := 13, descriptorIndex := 14, attributes := #[] }, { accessFlags := 10, nameIndex := 17, descriptorIndex := 14, attributes := #[] }, { accessFlags := 9, nameIndex := 30, descriptorIndex := 31, attributes := #[] }] 49 2 #[] #[])
  fields := #[]
  methods := #[k1m0, k1m1, k1m2, k1m3, k1m4]
  instanceTypes := #[]
  staticTypes := #[]
  resolved := Array.replicate 37 none
  statics := none }

def pool2 : Array CpInfo := pool [(2, .class_ 4), (1, u "java/lang/Object"), (20, .class_ 27), (1, u "com/example/dispatchwright/dispatchwright/learning/Characterisation"), (0, u "situations"), (0, u "Ljava/util/List;"), (8, u "places"), (0, u "[[I"), (8, u "REFERENCE"), (0, u "Lcom/example/dispatchwright/dispatchwright/rules/Formula;"), (52, u "distance"), (0, u "([I[I)J")] 6

def k2c0 : Code := { maxStack := 6, maxLocals := 7, code := prog_3_method_3_code, exceptionTable := #[], attributes := #[] }
def k2m0 : Method := { name := "distance", desc := "([I[I)J", sig := { parameters := [(.array .int), (.array .int)], returnType := some .long }, accessFlags := 8, code := some k2c0 }
/-- com/example/dispatchwright/dispatchwright/learning/Characterisation -/
def k2 : Class := { plain "com/example/dispatchwright/dispatchwright/learning/Characterisation" (some 0) with
  accessFlags := 48
  interfaces := #[]
  cf := some (fileOf pool2 25 #[] #[{ accessFlags := 8, nameIndex := 102, descriptorIndex := 103, attributes := #[] }] 48 2 #[] #[{ accessFlags := 24, nameIndex := 48, descriptorIndex := 49, attributes := #[] }, { accessFlags := 18, nameIndex := 28, descriptorIndex := 29, attributes := #[] }, { accessFlags := 18, nameIndex := 38, descriptorIndex := 39, attributes := #[] }])
  fields := #[{ name := "REFERENCE", type := (.object "com/example/dispatchwright/dispatchwright/rules/Formula"), accessFlags := 24, slot := 0, constantValue := 0 }, { name := "situations", type := (.object "java/util/List"), accessFlags := 18, slot := 0, constantValue := 0 }, { name := "places", type := (.array (.array .int)), accessFlags := 18, slot := 1, constantValue := 0 }]
  methods := #[k2m0]
  instanceTypes := #[(.object "java/util/List"), (.array (.array .int))]
  staticTypes := #[(.object "com/example/dispatchwright/dispatchwright/rules/Formula")]
  resolved := Array.replicate 110 none
  statics := none }

def pool3 : Array CpInfo := pool [(1, u "java/lang/Cloneable"), (0, .class_ 1), (0, u "java/lang/Object"), (0, .class_ 3)] 3

/-- java/lang/Cloneable -/
def k3 : Class := { plain "java/lang/Cloneable" (some 0) with
  accessFlags := 1537
  interfaces := #[]
  cf := some (fileOf pool3 2 #[] #[] 1537 4 #[] #[])
  fields := #[]
  methods := #[]
  instanceTypes := #[]
  staticTypes := #[]
  resolved := Array.replicate 8 none
  statics := none }

def pool4 : Array CpInfo := pool [(1, u "java/io/Serializable"), (0, .class_ 1), (0, u "java/lang/Object"), (0, .class_ 3)] 3

/-- java/io/Serializable -/
def k4 : Class := { plain "java/io/Serializable" (some 0) with
  accessFlags := 1537
  interfaces := #[]
  cf := some (fileOf pool4 2 #[] #[] 1537 4 #[] #[])
  fields := #[]
  methods := #[]
  instanceTypes := #[]
  staticTypes := #[]
  resolved := Array.replicate 8 none
  statics := none }

/-- the primitive byte -/
def k5 : Class := { plain "byte" none with kind := .primitive 'B', accessFlags := 0x411 }
/-- [B -/
def k6 : Class := { plain "[B" (some 0) with kind := .array 5 .byte, interfaces := #[3, 4], accessFlags := 1041 }

/-- the primitive int -/
def k7 : Class := { plain "int" none with kind := .primitive 'I', accessFlags := 0x411 }
/-- [I -/
def k8 : Class := { plain "[I" (some 0) with kind := .array 7 .int, interfaces := #[3, 4], accessFlags := 1041 }

def heap : Heap := #[]
def classes : Array Class := #[k0, k1, k2, k3, k4, k5, k6, k7, k8]
def interned : List (Array UInt16 × Addr) := []
def slotsUsed : Nat := 0
def theMethod : MethodId := ⟨1, 4⟩
def args0 : Array Value := #[.long 1, .long 2, .long 3, .int 2]
def aboutOver (below : List Frame) : State where
  vm := { classes := classes, interned := interned.toArray }
  heap := heap
  slotsUsed := slotsUsed
  threads := #[{ frames := .invoking theMethod args0 :: below }]
def below0 : List Frame := [.native { method := ⟨0, 0⟩, args := #[] }]
def about1 : State := aboutOver below0
def p0 : Program := .bare "" "" ""
def e0 : Env := launch0.env 0 0 0
theorem w_frames : about1.frames = Frame.invoking theMethod args0 :: below0 := rfl
set_option maxRecDepth 65536 in
theorem w_args : argsFit about1.vm theMethod args0 = true := by decide +kernel
set_option maxRecDepth 65536 in
theorem w_heap : heapFits about1 = true := by decide +kernel
set_option maxRecDepth 65536 in
theorem w_runnable : about1.curStatus? = some .runnable := by decide +kernel
set_option maxRecDepth 65536 in
theorem w_alone : about1.alone = true := by decide +kernel
set_option maxRecDepth 65536 in
theorem w_named : about1.methodNamed? x = some theMethod := by decide +kernel
set_option maxRecDepth 65536 in
theorem w_hears : about1.hears theMethod below0 = true := by decide +kernel
set_option maxRecDepth 65536 in
theorem w_ripe : about1.ripe theMethod args0 below0 = true := by decide +kernel
theorem w_running : about1.status = .running := rfl
set_option maxRecDepth 65536 in
theorem w_room : about1.hasRoom e0.platform room_1 = true :=
  launch0.hasRoom_least _ room_1 (by decide +kernel) (by decide +kernel) (by decide +kernel) (by decide +kernel) (by decide +kernel) (by decide +kernel)
theorem allAtoms_all (ts : List Jvm.Cond) (a : Array Jvm.Value) (st : Jvm.State) : (allAtoms ts).before a st = ts.all (fun c => c.before a st) := by
  induction ts with
  | nil => rfl
  | cons c t ih =>
    show (Jvm.Cond.and c (allAtoms t)).before a st = _
    rw [Jvm.Cond.before_and, ih, List.all_cons]
def words1 : List Jvm.Cond := Jvm.Cond.code x code maxLocals ret :: tables_1
/-- a 'code' word, met by the world's own term for the bytes: nothing is compared byte by byte -/
theorem code_word {y : MethodName} {bytes : ByteArray} {mx : Nat} {rt : Option FieldType} {a : Array Value} {s : State} {m : MethodId} {meth : Method} {c : Code} (h1 : s.methodNamed? y = some m) (h2 : s.vm.method? m = some meth) (h3 : meth.code = some c) (h4 : c.code = bytes)
    (h5 : (c.maxLocals == mx && c.exceptionTable.isEmpty && decide (c.maxStack ≤ mostOperands) && decide (meth.sig.returnType = rt) && !meth.locks && decide (parseMethodDescriptor y.desc = some meth.sig)) = true) : (Jvm.Cond.code y bytes mx rt).before a s = true := by
  simp only [Bool.and_eq_true, beq_iff_eq, Bool.not_eq_true', decide_eq_true_eq] at h5
  obtain ⟨⟨⟨⟨⟨g1, g2⟩, g3⟩, g4⟩, g5⟩, g6⟩ := h5
  simp [Cond.before, Cond.holds, Cond.value, h1, h2, h3, h4, g1, g2, g3, g4, g5, g6]
def isCode : Jvm.Cond → Bool
  | .code _ _ _ _ => true
  | _ => false
theorem all_split {L : List Jvm.Cond} {P : Jvm.Cond → Bool} (h1 : L.all (fun c => isCode c || P c) = true) (h2 : ∀ c ∈ L.filter isCode, P c = true) : L.all P = true := by
  refine List.all_eq_true.mpr fun c hc => ?_
  have h := List.all_eq_true.mp h1 c hc
  rcases Bool.eq_false_or_eq_true (isCode c) with hi | hi
  · exact h2 c (List.mem_filter.mpr ⟨hc, hi⟩)
  · simpa [hi] using h
set_option maxRecDepth 65536 in
theorem w_c0 : (Jvm.Cond.code x code maxLocals ret).before args0 about1 = true := code_word (m := ⟨1, 4⟩) (meth := k1m4) (c := k1c4) (by decide +kernel) rfl rfl rfl (by decide +kernel)
set_option maxRecDepth 65536 in
theorem w_c1 : (Jvm.Cond.code ({ cls := "com/example/dispatchwright/dispatchwright/learning/CharacterisationDistancePinLaw", name := "low", desc := "(J)I" } : Jvm.MethodName) method_3_code (2 : Nat) (Option.some Jvm.ClassFile.FieldType.int)).before args0 about1 = true := code_word (m := ⟨1, 2⟩) (meth := k1m2) (c := k1c2) (by decide +kernel) rfl rfl rfl (by decide +kernel)
set_option maxRecDepth 65536 in
theorem w_c2 : (Jvm.Cond.code ({ cls := "com/example/dispatchwright/dispatchwright/learning/CharacterisationDistancePinLaw", name := "high", desc := "(J)I" } : Jvm.MethodName) method_4_code (2 : Nat) (Option.some Jvm.ClassFile.FieldType.int)).before args0 about1 = true := code_word (m := ⟨1, 3⟩) (meth := k1m3) (c := k1c3) (by decide +kernel) rfl rfl rfl (by decide +kernel)
set_option maxRecDepth 65536 in
theorem w_c3 : (Jvm.Cond.code ({ cls := "com/example/dispatchwright/dispatchwright/learning/CharacterisationDistancePinLaw", name := "sq", desc := "(II)J" } : Jvm.MethodName) method_2_code (4 : Nat) (Option.some Jvm.ClassFile.FieldType.long)).before args0 about1 = true := code_word (m := ⟨1, 1⟩) (meth := k1m1) (c := k1c1) (by decide +kernel) rfl rfl rfl (by decide +kernel)
set_option maxRecDepth 65536 in
theorem w_c4 : (Jvm.Cond.code ({ cls := "com/example/dispatchwright/dispatchwright/learning/Characterisation", name := "distance", desc := "([I[I)J" } : Jvm.MethodName) prog_3_method_3_code (7 : Nat) (Option.some Jvm.ClassFile.FieldType.long)).before args0 about1 = true := code_word (m := ⟨2, 0⟩) (meth := k2m0) (c := k2c0) (by decide +kernel) rfl rfl rfl (by decide +kernel)
def codes1 : List Jvm.Cond := [Jvm.Cond.code x code maxLocals ret, Jvm.Cond.code ({ cls := "com/example/dispatchwright/dispatchwright/learning/CharacterisationDistancePinLaw", name := "low", desc := "(J)I" } : Jvm.MethodName) method_3_code (2 : Nat) (Option.some Jvm.ClassFile.FieldType.int), Jvm.Cond.code ({ cls := "com/example/dispatchwright/dispatchwright/learning/CharacterisationDistancePinLaw", name := "high", desc := "(J)I" } : Jvm.MethodName) method_4_code (2 : Nat) (Option.some Jvm.ClassFile.FieldType.int), Jvm.Cond.code ({ cls := "com/example/dispatchwright/dispatchwright/learning/CharacterisationDistancePinLaw", name := "sq", desc := "(II)J" } : Jvm.MethodName) method_2_code (4 : Nat) (Option.some Jvm.ClassFile.FieldType.long), Jvm.Cond.code ({ cls := "com/example/dispatchwright/dispatchwright/learning/Characterisation", name := "distance", desc := "([I[I)J" } : Jvm.MethodName) prog_3_method_3_code (7 : Nat) (Option.some Jvm.ClassFile.FieldType.long)]
set_option maxRecDepth 65536 in
theorem codes_eq : words1.filter isCode = codes1 := rfl
theorem w_codes : ∀ c ∈ words1.filter isCode, c.before args0 about1 = true := by
  rw [codes_eq]
  intro c hc
  simp only [codes1, List.mem_cons, List.not_mem_nil, or_false] at hc
  rcases hc with rfl | rfl | rfl | rfl | rfl
  · exact w_c0
  · exact w_c1
  · exact w_c2
  · exact w_c3
  · exact w_c4
set_option maxRecDepth 65536 in
theorem w_t1 : words1.all (fun c => isCode c || c.before args0 about1) = true := by decide +kernel
theorem w_tables : (allAtoms (Jvm.Cond.code x code maxLocals ret :: tables_1)).before args0 about1 = true := by
  rw [allAtoms_all]
  show words1.all (fun c => c.before args0 about1) = true
  refine all_split ?_ w_codes
  rw [w_t1]
set_option maxRecDepth 65536 in
theorem w_case : (Jvm.Cond.and given_1 narrow_1).before args0 about1 = true := by decide +kernel
theorem w_applies : (headSpec (Jvm.Cond.code x code maxLocals ret :: tables_1) room_1).applies x e0.platform about1 = true :=
  (Spec.applies_iff w_frames).mpr ⟨w_running, w_runnable, w_alone, w_named, w_hears, w_ripe, w_room, w_tables⟩
theorem atStart : AtStart classFile x code maxLocals ret World_1 tables_1 room_1 Calls_1 rest_1 Pre_1 launch0 p0 e0 about1 theMethod args0 below0 :=
  ⟨lists_1, trivial, launch0.admits_env _ _ _, launch0.least_env, fairChoices_fair.cas, fairChoices_fair.clock, w_frames, w_args, w_heap, w_applies, trivial, trivial, w_case⟩
end start1
theorem witness_1 : WitnessClaimed_1 := ⟨start1.p0, start1.e0, start1.about1, start1.theMethod, start1.args0, start1.below0, start1.atStart⟩
end Jvm.Pilot.@@N@@
