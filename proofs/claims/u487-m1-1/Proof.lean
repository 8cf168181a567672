import JvmDerived
import JvmDerived.Pilot.@@N@@Statement
import JvmDerived.Pilot.@@N@@Code
set_option linter.unusedVariables false
set_option linter.unusedSimpArgs false
namespace Jvm.OwnK
open Jvm Sem ClassFile Op Lib Jvm.Stand Jvm.Free Jvm.LawKit Jvm.RoadKit Bundle
/-- where a walk stands: pc, locals, stack, heap, cells and slots made so far -/
abbrev Kt := Nat → Array Slot → List Value → Heap → Nat → Nat → Prop
/-- what a body leaves: the value that it returns, the heap -/
abbrev Qt := Option Value → Heap → Prop
/-- a body's end, as its contract asks it -/
def Out (p : Program) (e : Env) (below : List Frame) (s s1 : State) (f0 : JFrame) (R : Room) (n0 : Nat) (Q : Qt) : Prop :=
  ∃ s2 o, Steps p.tables e below (s1.setTop f0) s2 ∧ s2.status = .running ∧ Ended s2 below o ∧ ∃ v L, o = .returned v ∧ (Q v s2.heap ∧ Fr n0 L) ∧ FrameEnd s o s2 L R.cells R.slots
/-- what doesn't change along a walk, and what K and O mean -/
def Ctx (l : Launch) (R : Room) (n0 : Nat) (Z : State) (own : String) (bytes : ByteArray) (ml : Nat) (nm : String) (rt : Option FieldType) (Q : Qt) (K : Kt) (O : Prop) : Prop :=
  ∃ (p : Program) (e : Env) (s : State) (m : MethodId) (args : Array Value) (below : List Frame) (meth : Method) (c : Code) (s1 : State) (f0 : JFrame),
    p.tables.exec = Jvm.exec ∧ c.code = bytes ∧ Z.Warmed39 s.vm ∧ s.vm.findClass own = some m.cls ∧ c.maxLocals = ml ∧ meth.name = nm ∧ meth.sig.returnType = rt ∧ meth.locks = false ∧
    (∀ pc L S h cl sl, K pc L S h cl sl ↔ ∃ T locs, Stand p l e R s m args below meth c T locs cl sl ∧ T.heap = h ∧ Fr n0 locs ∧ ∀ t, Steps p.tables e below (T.setTop (mkF m pc L S)) t → Steps p.tables e below (s1.setTop f0) t) ∧
    (Out p e below s s1 f0 R n0 Q → O)
/-- a body's contract -/
def Con (l : Launch) (y : MethodName) (bytes : ByteArray) (ml : Nat) (rt : Option FieldType) (rm : Room) (Z : State) (as : Array Value) (h : Heap) (n0 : Nat) (Q : Qt) : Prop :=
  ∀ ws : List Jvm.Cond, MetFree l y (head1 (Jvm.Cond.code y bytes ml rt :: ws) rm) (fun a U => a = as ∧ Z.Warmed39 U.vm ∧ U.heap = h) (fun _ _ _ _ _ => True) (fun _ U o U' => ∃ v L, o = .returned v ∧ (Q v U'.heap ∧ Fr n0 L) ∧ FrameEnd U o U' L rm.cells rm.slots)
theorem Con.mono {l : Launch} {y : MethodName} {bytes : ByteArray} {ml : Nat} {rt : Option FieldType} {rm : Room} {Z : State} {as : Array Value} {h : Heap} {n0 : Nat} {Q Q' : Qt} (K : Con l y bytes ml rt rm Z as h n0 Q) (q : ∀ v h', Q v h' → Q' v h') : Con l y bytes ml rt rm Z as h n0 Q' := by
  intro ws p e ha hc hk s m args below hf happ hP hK
  obtain ⟨n, o, h1, h2, h3, v, L, h4, ⟨h5, h6⟩, h7⟩ := K ws p e ha hc hk s m args below hf happ hP hK
  exact ⟨n, o, h1, h2, h3, v, L, h4, ⟨q _ _ h5, h6⟩, h7⟩
theorem Con.enter {l : Launch} {y : MethodName} {bytes : ByteArray} {ml : Nat} {rt : Option FieldType} {rm : Room} {Z : State} {as : Array Value} {h : Heap} {n0 : Nat} {Q : Qt} {L0 : Array Slot} (hpl : plainFor y = true) (hef : ∀ m, entryFrame m as ml = mkF m 0 L0 [])
    (hb : ∀ (K : Kt) (O : Prop), Ctx l rm n0 Z y.cls bytes ml y.name rt Q K O → K 0 L0 [] h 0 0 → O) : Con l y bytes ml rt rm Z as h n0 Q := by
  intro ws
  refine MetFree.of_bodySF hpl hisR ?_
  intro p e s m args below meth c s1 Bd hml0 hP hK
  obtain ⟨rfl, hZ, hh⟩ := hP
  have X0 : Stand p l e rm s m args below meth c s1 [] 0 0 := Stand.of_body Bd
  have e0 : s1.heap = h := by rw [← hh, Bd.state]; rfl
  exact hb (fun pc L S h cl sl => ∃ T locs, Stand p l e rm s m args below meth c T locs cl sl ∧ T.heap = h ∧ Fr n0 locs ∧ ∀ t, Steps p.tables e below (T.setTop (mkF m pc L S)) t → Steps p.tables e below (s1.setTop (entryFrame m args ml)) t)
    (Out p e below s s1 (entryFrame m args ml) rm n0 Q)
    ⟨p, e, s, m, args, below, meth, c, s1, entryFrame m args ml, Bd.exec, Bd.bytes, hZ, findClass_of_methodNamed Bd.named, hml0, (name_of_methodNamed Bd.named Bd.method).1, Bd.returns, Bd.notSynchronized, fun _ _ _ _ _ _ => Iff.rfl, id⟩
    ⟨s1, [], X0, e0, Fr.nil n0, fun t k => castTop (hef m) k⟩
section Steps
variable {l : Launch} {R : Room} {n0 : Nat} {Z : State} {own : String} {bytes : ByteArray} {ml : Nat} {nm : String} {rt : Option FieldType} {Q : Qt} {K : Kt} {O : Prop} {a0 : Array Value} {pc : Nat} {L : Array Slot} {S rest : List Value} {h : Heap} {cl sl : Nat} {pc' : Nat}
theorem Ctx.pure (C : Ctx l R n0 Z own bytes ml nm rt Q K O) (H : K pc L S h cl sl) {L' : Array Slot} {S' : List Value}
    (f : ∀ (p : Program) (e : Env) (s : State) (m : MethodId) (args : Array Value) (below : List Frame) (meth : Method) (c : Code) (T : State) (locs : List Loc), Stand p l e R s m args below meth c T locs cl sl → p.tables.exec = Jvm.exec → c.code = bytes → Z.Warmed39 s.vm → s.vm.findClass own = some m.cls → T.heap = h →
      ∀ t, Steps p.tables e below (T.setTop (mkF m pc' L' S')) t → Steps p.tables e below (T.setTop (mkF m pc L S)) t) : K pc' L' S' h cl sl := by
  obtain ⟨p, e, s, m, args, below, meth, c, s1, f0, hx, hby, hZ, hown, hml, hnm, hrt, hlk, hK, hO⟩ := C
  obtain ⟨T, locs, X, eT, N, st⟩ := (hK _ _ _ _ _ _).mp H
  exact (hK _ _ _ _ _ _).mpr ⟨T, locs, X, eT, N, fun t k => st t (f p e s m args below meth c T locs X hx hby hZ hown eT t k)⟩
/-- a step that may note something in the tables -/
theorem Ctx.note (C : Ctx l R n0 Z own bytes ml nm rt Q K O) (H : K pc L S h cl sl) {L' : Array Slot} {S' : List Value}
    (f : ∀ (p : Program) (e : Env) (s : State) (m : MethodId) (args : Array Value) (below : List Frame) (meth : Method) (c : Code) (T : State) (locs : List Loc), Stand p l e R s m args below meth c T locs cl sl → p.tables.exec = Jvm.exec → c.code = bytes → Z.Warmed39 s.vm → s.vm.findClass own = some m.cls → c.maxLocals = ml → T.heap = h →
      ∃ T', Stand p l e R s m args below meth c T' locs cl sl ∧ T'.heap = h ∧ ∀ t, Steps p.tables e below (T'.setTop (mkF m pc' L' S')) t → Steps p.tables e below (T.setTop (mkF m pc L S)) t) : K pc' L' S' h cl sl := by
  obtain ⟨p, e, s, m, args, below, meth, c, s1, f0, hx, hby, hZ, hown, hml, hnm, hrt, hlk, hK, hO⟩ := C
  obtain ⟨T, locs, X, eT, N, st⟩ := (hK _ _ _ _ _ _).mp H
  obtain ⟨T', X', eT', st'⟩ := f p e s m args below meth c T locs X hx hby hZ hown hml eT
  exact (hK _ _ _ _ _ _).mpr ⟨T', locs, X', eT', N, fun t k => st t (st' t k)⟩

theorem k_iloadN (C : Ctx l R n0 Z own bytes ml nm rt Q K O) {k : Fin 4} {v : Int32} (H : K pc L (S) h cl sl) (d : decode bytes pc = .ok (.iload_n k, 1)) (hl : L[k.val]? = some (.val (.int v))) (hp : pc + 1 = pc') : K pc' L ((.int v) :: S) h cl sl := by
  subst hp
  exact C.pure H fun p e s m args below meth c T locs X hx hby _ _ _ t k => XS.iloadN X.here hx rfl (hb hby d) hl k
theorem k_iload (C : Ctx l R n0 Z own bytes ml nm rt Q K O) {k : Nat} {v : Int32} (H : K pc L (S) h cl sl) (d : decode bytes pc = .ok (.iload k, 2)) (hl : L[k]? = some (.val (.int v))) (hp : pc + 2 = pc') : K pc' L ((.int v) :: S) h cl sl := by
  subst hp
  exact C.pure H fun p e s m args below meth c T locs X hx hby _ _ _ t k => XS.iload X.here hx rfl (hb hby d) hl k
theorem k_lloadN (C : Ctx l R n0 Z own bytes ml nm rt Q K O) {k : Fin 4} {v : Int64} (H : K pc L (S) h cl sl) (d : decode bytes pc = .ok (.lload_n k, 1)) (hl : L[k.val]? = some (.val (.long v))) (hp : pc + 1 = pc') : K pc' L ((.long v) :: S) h cl sl := by
  subst hp
  exact C.pure H fun p e s m args below meth c T locs X hx hby _ _ _ t k => XS.lloadN X.here hx rfl (hb hby d) hl k
theorem k_lload (C : Ctx l R n0 Z own bytes ml nm rt Q K O) {k : Nat} {v : Int64} (H : K pc L (S) h cl sl) (d : decode bytes pc = .ok (.lload k, 2)) (hl : L[k]? = some (.val (.long v))) (hp : pc + 2 = pc') : K pc' L ((.long v) :: S) h cl sl := by
  subst hp
  exact C.pure H fun p e s m args below meth c T locs X hx hby _ _ _ t k => XS.lload X.here hx rfl (hb hby d) hl k
theorem k_aloadN (C : Ctx l R n0 Z own bytes ml nm rt Q K O) {k : Fin 4} {v : Value} (H : K pc L (S) h cl sl) (d : decode bytes pc = .ok (.aload_n k, 1)) (hl : L[k.val]? = some (.val v)) (hv : v.isRef = true) (hp : pc + 1 = pc') : K pc' L (v :: S) h cl sl := by
  subst hp
  exact C.pure H fun p e s m args below meth c T locs X hx hby _ _ _ t k => XS.aloadN X.here hx rfl (hb hby d) hl hv k
theorem k_aload (C : Ctx l R n0 Z own bytes ml nm rt Q K O) {k : Nat} {v : Value} (H : K pc L (S) h cl sl) (d : decode bytes pc = .ok (.aload k, 2)) (hl : L[k]? = some (.val v)) (hv : v.isRef = true) (hp : pc + 2 = pc') : K pc' L (v :: S) h cl sl := by
  subst hp
  exact C.pure H fun p e s m args below meth c T locs X hx hby _ _ _ t k => XS.aload X.here hx rfl (hb hby d) hl hv k
theorem k_istoreN (C : Ctx l R n0 Z own bytes ml nm rt Q K O) {k : Fin 4} {v : Int32} {L' : Array Slot} (H : K pc L ((.int v) :: rest) h cl sl) (d : decode bytes pc = .ok (.istore_n k, 1)) (hl : storeLocals L k.val (.int v) = some L') (hp : pc + 1 = pc') : K pc' L' (rest) h cl sl := by
  subst hp
  exact C.pure H fun p e s m args below meth c T locs X hx hby _ _ _ t k => XS.istoreN X.here hx rfl (hb hby d) rfl hl k
theorem k_istore (C : Ctx l R n0 Z own bytes ml nm rt Q K O) {k : Nat} {v : Int32} {L' : Array Slot} (H : K pc L ((.int v) :: rest) h cl sl) (d : decode bytes pc = .ok (.istore k, 2)) (hl : storeLocals L k (.int v) = some L') (hp : pc + 2 = pc') : K pc' L' (rest) h cl sl := by
  subst hp
  exact C.pure H fun p e s m args below meth c T locs X hx hby _ _ _ t k => XS.istore X.here hx rfl (hb hby d) rfl hl k
theorem k_lstoreN (C : Ctx l R n0 Z own bytes ml nm rt Q K O) {k : Fin 4} {v : Int64} {L' : Array Slot} (H : K pc L ((.long v) :: rest) h cl sl) (d : decode bytes pc = .ok (.lstore_n k, 1)) (hl : storeLocals L k.val (.long v) = some L') (hp : pc + 1 = pc') : K pc' L' (rest) h cl sl := by
  subst hp
  exact C.pure H fun p e s m args below meth c T locs X hx hby _ _ _ t k => XS.lstoreN X.here hx rfl (hb hby d) rfl hl k
theorem k_lstore (C : Ctx l R n0 Z own bytes ml nm rt Q K O) {k : Nat} {v : Int64} {L' : Array Slot} (H : K pc L ((.long v) :: rest) h cl sl) (d : decode bytes pc = .ok (.lstore k, 2)) (hl : storeLocals L k (.long v) = some L') (hp : pc + 2 = pc') : K pc' L' (rest) h cl sl := by
  subst hp
  exact C.pure H fun p e s m args below meth c T locs X hx hby _ _ _ t k => XS.lstore X.here hx rfl (hb hby d) rfl hl k
theorem k_astoreN (C : Ctx l R n0 Z own bytes ml nm rt Q K O) {k : Fin 4} {v : Value} {L' : Array Slot} (H : K pc L (v :: rest) h cl sl) (d : decode bytes pc = .ok (.astore_n k, 1)) (hv : v.isRef = true) (hl : storeLocals L k.val v = some L') (hp : pc + 1 = pc') : K pc' L' (rest) h cl sl := by
  subst hp
  exact C.pure H fun p e s m args below meth c T locs X hx hby _ _ _ t k => XS.astoreN X.here hx rfl (hb hby d) rfl hv hl k
theorem k_astore (C : Ctx l R n0 Z own bytes ml nm rt Q K O) {k : Nat} {v : Value} {L' : Array Slot} (H : K pc L (v :: rest) h cl sl) (d : decode bytes pc = .ok (.astore k, 2)) (hv : v.isRef = true) (hl : storeLocals L k v = some L') (hp : pc + 2 = pc') : K pc' L' (rest) h cl sl := by
  subst hp
  exact C.pure H fun p e s m args below meth c T locs X hx hby _ _ _ t k => XS.astore X.here hx rfl (hb hby d) rfl hv hl k
theorem k_iconst (C : Ctx l R n0 Z own bytes ml nm rt Q K O) {i : Int} {v : Int32} (H : K pc L (S) h cl sl) (d : decode bytes pc = .ok (.iconst i, 1)) (hv : Int32.ofInt i = v) (hp : pc + 1 = pc') : K pc' L (.int v :: S) h cl sl := by
  subst hp
  exact C.pure H fun p e s m args below meth c T locs X hx hby _ _ _ t k => XS.iconst X.here hx rfl (hb hby d) (by rw [hv]; exact k)
theorem k_bipush (C : Ctx l R n0 Z own bytes ml nm rt Q K O) {i : Int} {v : Int32} (H : K pc L (S) h cl sl) (d : decode bytes pc = .ok (.bipush i, 2)) (hv : (Int8.ofInt i).toInt32 = v) (hp : pc + 2 = pc') : K pc' L (.int v :: S) h cl sl := by
  subst hp
  exact C.pure H fun p e s m args below meth c T locs X hx hby _ _ _ t k => XS.bipush X.here hx rfl (hb hby d) (by rw [hv]; exact k)
theorem k_sipush (C : Ctx l R n0 Z own bytes ml nm rt Q K O) {i : Int} {v : Int32} (H : K pc L (S) h cl sl) (d : decode bytes pc = .ok (.sipush i, 3)) (hv : (Int16.ofInt i).toInt32 = v) (hp : pc + 3 = pc') : K pc' L (.int v :: S) h cl sl := by
  subst hp
  exact C.pure H fun p e s m args below meth c T locs X hx hby _ _ _ t k => XS.sipush X.here hx rfl (hb hby d) (by rw [hv]; exact k)
theorem k_lconst (C : Ctx l R n0 Z own bytes ml nm rt Q K O) {i : Fin 2} {v : Int64} (H : K pc L (S) h cl sl) (d : decode bytes pc = .ok (.lconst i, 1)) (hv : Int64.ofNat i = v) (hp : pc + 1 = pc') : K pc' L (.long v :: S) h cl sl := by
  subst hp
  exact C.pure H fun p e s m args below meth c T locs X hx hby _ _ _ t k => XS.lconst X.here hx rfl (hb hby d) (by rw [hv]; exact k)
theorem k_anull (C : Ctx l R n0 Z own bytes ml nm rt Q K O)  (H : K pc L (S) h cl sl) (d : decode bytes pc = .ok (.aconst_null, 1))  (hp : pc + 1 = pc') : K pc' L (.null :: S) h cl sl := by
  subst hp
  exact C.pure H fun p e s m args below meth c T locs X hx hby _ _ _ t k => XS.aconstNull X.here hx rfl (hb hby d) k
theorem k_iadd (C : Ctx l R n0 Z own bytes ml nm rt Q K O) {x y : Int32} (H : K pc L (.int y :: .int x :: rest) h cl sl) (d : decode bytes pc = .ok (.iadd, 1))  (hp : pc + 1 = pc') : K pc' L (.int (x + y) :: rest) h cl sl := by
  subst hp
  exact C.pure H fun p e s m args below meth c T locs X hx hby _ _ _ t k => XS.iadd X.here hx rfl (hb hby d) rfl k
theorem k_isub (C : Ctx l R n0 Z own bytes ml nm rt Q K O) {x y : Int32} (H : K pc L (.int y :: .int x :: rest) h cl sl) (d : decode bytes pc = .ok (.isub, 1))  (hp : pc + 1 = pc') : K pc' L (.int (x - y) :: rest) h cl sl := by
  subst hp
  exact C.pure H fun p e s m args below meth c T locs X hx hby _ _ _ t k => XS.isub X.here hx rfl (hb hby d) rfl k
theorem k_imul (C : Ctx l R n0 Z own bytes ml nm rt Q K O) {x y : Int32} (H : K pc L (.int y :: .int x :: rest) h cl sl) (d : decode bytes pc = .ok (.imul, 1))  (hp : pc + 1 = pc') : K pc' L (.int (x * y) :: rest) h cl sl := by
  subst hp
  exact C.pure H fun p e s m args below meth c T locs X hx hby _ _ _ t k => XS.imul X.here hx rfl (hb hby d) rfl k
theorem k_iand (C : Ctx l R n0 Z own bytes ml nm rt Q K O) {x y : Int32} (H : K pc L (.int y :: .int x :: rest) h cl sl) (d : decode bytes pc = .ok (.iand, 1))  (hp : pc + 1 = pc') : K pc' L (.int (x &&& y) :: rest) h cl sl := by
  subst hp
  exact C.pure H fun p e s m args below meth c T locs X hx hby _ _ _ t k => XS.iand X.here hx rfl (hb hby d) rfl k
theorem k_ior (C : Ctx l R n0 Z own bytes ml nm rt Q K O) {x y : Int32} (H : K pc L (.int y :: .int x :: rest) h cl sl) (d : decode bytes pc = .ok (.ior, 1))  (hp : pc + 1 = pc') : K pc' L (.int (x ||| y) :: rest) h cl sl := by
  subst hp
  exact C.pure H fun p e s m args below meth c T locs X hx hby _ _ _ t k => XS.ior X.here hx rfl (hb hby d) rfl k
theorem k_ixor (C : Ctx l R n0 Z own bytes ml nm rt Q K O) {x y : Int32} (H : K pc L (.int y :: .int x :: rest) h cl sl) (d : decode bytes pc = .ok (.ixor, 1))  (hp : pc + 1 = pc') : K pc' L (.int (x ^^^ y) :: rest) h cl sl := by
  subst hp
  exact C.pure H fun p e s m args below meth c T locs X hx hby _ _ _ t k => XS.ixor X.here hx rfl (hb hby d) rfl k
theorem k_ishl (C : Ctx l R n0 Z own bytes ml nm rt Q K O) {x y : Int32} (H : K pc L (.int y :: .int x :: rest) h cl sl) (d : decode bytes pc = .ok (.ishl, 1))  (hp : pc + 1 = pc') : K pc' L (.int (x <<< (y &&& 31)) :: rest) h cl sl := by
  subst hp
  exact C.pure H fun p e s m args below meth c T locs X hx hby _ _ _ t k => XS.ishl X.here hx rfl (hb hby d) rfl k
theorem k_ishr (C : Ctx l R n0 Z own bytes ml nm rt Q K O) {x y : Int32} (H : K pc L (.int y :: .int x :: rest) h cl sl) (d : decode bytes pc = .ok (.ishr, 1))  (hp : pc + 1 = pc') : K pc' L (.int (x >>> (y &&& 31)) :: rest) h cl sl := by
  subst hp
  exact C.pure H fun p e s m args below meth c T locs X hx hby _ _ _ t k => XS.ishr X.here hx rfl (hb hby d) rfl k
theorem k_iushr (C : Ctx l R n0 Z own bytes ml nm rt Q K O) {x y : Int32} (H : K pc L (.int y :: .int x :: rest) h cl sl) (d : decode bytes pc = .ok (.iushr, 1))  (hp : pc + 1 = pc') : K pc' L (.int ((x.toUInt32 >>> (y &&& 31).toUInt32).toInt32) :: rest) h cl sl := by
  subst hp
  exact C.pure H fun p e s m args below meth c T locs X hx hby _ _ _ t k => XS.iushr X.here hx rfl (hb hby d) rfl k
theorem k_ladd (C : Ctx l R n0 Z own bytes ml nm rt Q K O) {x y : Int64} (H : K pc L (.long y :: .long x :: rest) h cl sl) (d : decode bytes pc = .ok (.ladd, 1))  (hp : pc + 1 = pc') : K pc' L (.long (x + y) :: rest) h cl sl := by
  subst hp
  exact C.pure H fun p e s m args below meth c T locs X hx hby _ _ _ t k => XS.ladd X.here hx rfl (hb hby d) rfl k
theorem k_lsub (C : Ctx l R n0 Z own bytes ml nm rt Q K O) {x y : Int64} (H : K pc L (.long y :: .long x :: rest) h cl sl) (d : decode bytes pc = .ok (.lsub, 1))  (hp : pc + 1 = pc') : K pc' L (.long (x - y) :: rest) h cl sl := by
  subst hp
  exact C.pure H fun p e s m args below meth c T locs X hx hby _ _ _ t k => XS.lsub X.here hx rfl (hb hby d) rfl k
theorem k_lmul (C : Ctx l R n0 Z own bytes ml nm rt Q K O) {x y : Int64} (H : K pc L (.long y :: .long x :: rest) h cl sl) (d : decode bytes pc = .ok (.lmul, 1))  (hp : pc + 1 = pc') : K pc' L (.long (x * y) :: rest) h cl sl := by
  subst hp
  exact C.pure H fun p e s m args below meth c T locs X hx hby _ _ _ t k => XS.lmul X.here hx rfl (hb hby d) rfl k
theorem k_land (C : Ctx l R n0 Z own bytes ml nm rt Q K O) {x y : Int64} (H : K pc L (.long y :: .long x :: rest) h cl sl) (d : decode bytes pc = .ok (.land, 1))  (hp : pc + 1 = pc') : K pc' L (.long (x &&& y) :: rest) h cl sl := by
  subst hp
  exact C.pure H fun p e s m args below meth c T locs X hx hby _ _ _ t k => XS.land X.here hx rfl (hb hby d) rfl k
theorem k_lor (C : Ctx l R n0 Z own bytes ml nm rt Q K O) {x y : Int64} (H : K pc L (.long y :: .long x :: rest) h cl sl) (d : decode bytes pc = .ok (.lor, 1))  (hp : pc + 1 = pc') : K pc' L (.long (x ||| y) :: rest) h cl sl := by
  subst hp
  exact C.pure H fun p e s m args below meth c T locs X hx hby _ _ _ t k => XS.lor X.here hx rfl (hb hby d) rfl k
theorem k_lxor (C : Ctx l R n0 Z own bytes ml nm rt Q K O) {x y : Int64} (H : K pc L (.long y :: .long x :: rest) h cl sl) (d : decode bytes pc = .ok (.lxor, 1))  (hp : pc + 1 = pc') : K pc' L (.long (x ^^^ y) :: rest) h cl sl := by
  subst hp
  exact C.pure H fun p e s m args below meth c T locs X hx hby _ _ _ t k => XS.lxor X.here hx rfl (hb hby d) rfl k
theorem k_lshl (C : Ctx l R n0 Z own bytes ml nm rt Q K O) {x : Int64} {y : Int32} (H : K pc L (.int y :: .long x :: rest) h cl sl) (d : decode bytes pc = .ok (.lshl, 1))  (hp : pc + 1 = pc') : K pc' L (.long (x <<< (y &&& 0x3f).toInt64) :: rest) h cl sl := by
  subst hp
  exact C.pure H fun p e s m args below meth c T locs X hx hby _ _ _ t k => XS.lshl X.here hx rfl (hb hby d) rfl k
theorem k_lshr (C : Ctx l R n0 Z own bytes ml nm rt Q K O) {x : Int64} {y : Int32} (H : K pc L (.int y :: .long x :: rest) h cl sl) (d : decode bytes pc = .ok (.lshr, 1))  (hp : pc + 1 = pc') : K pc' L (.long (x >>> (y &&& 0x3f).toInt64) :: rest) h cl sl := by
  subst hp
  exact C.pure H fun p e s m args below meth c T locs X hx hby _ _ _ t k => XS.lshr X.here hx rfl (hb hby d) rfl k
theorem k_lushr (C : Ctx l R n0 Z own bytes ml nm rt Q K O) {x : Int64} {y : Int32} (H : K pc L (.int y :: .long x :: rest) h cl sl) (d : decode bytes pc = .ok (.lushr, 1))  (hp : pc + 1 = pc') : K pc' L (.long ((x.toUInt64 >>> (y &&& 0x3f).toInt64.toUInt64).toInt64) :: rest) h cl sl := by
  subst hp
  exact C.pure H fun p e s m args below meth c T locs X hx hby _ _ _ t k => XS.lushr X.here hx rfl (hb hby d) rfl k
theorem k_lcmp (C : Ctx l R n0 Z own bytes ml nm rt Q K O) {x y : Int64} (H : K pc L (.long y :: .long x :: rest) h cl sl) (d : decode bytes pc = .ok (.lcmp, 1))  (hp : pc + 1 = pc') : K pc' L (.int (lcmpW x y) :: rest) h cl sl := by
  subst hp
  exact C.pure H fun p e s m args below meth c T locs X hx hby _ _ _ t k => XS.lcmp X.here hx rfl (hb hby d) rfl k
theorem k_ineg (C : Ctx l R n0 Z own bytes ml nm rt Q K O) {x : Int32} (H : K pc L (.int x :: rest) h cl sl) (d : decode bytes pc = .ok (.ineg, 1))  (hp : pc + 1 = pc') : K pc' L (.int (-x) :: rest) h cl sl := by
  subst hp
  exact C.pure H fun p e s m args below meth c T locs X hx hby _ _ _ t k => XS.ineg X.here hx rfl (hb hby d) rfl k
theorem k_idiv (C : Ctx l R n0 Z own bytes ml nm rt Q K O) {x y : Int32} (H : K pc L (.int y :: .int x :: rest) h cl sl) (d : decode bytes pc = .ok (.idiv, 1)) (hy : y ≠ 0) (hp : pc + 1 = pc') : K pc' L (.int (x / y) :: rest) h cl sl := by
  subst hp
  exact C.pure H fun p e s m args below meth c T locs X hx hby _ _ _ t k => XS.idiv X.here hx rfl (hb hby d) rfl hy k
theorem k_irem (C : Ctx l R n0 Z own bytes ml nm rt Q K O) {x y : Int32} (H : K pc L (.int y :: .int x :: rest) h cl sl) (d : decode bytes pc = .ok (.irem, 1)) (hy : y ≠ 0) (hp : pc + 1 = pc') : K pc' L (.int (x % y) :: rest) h cl sl := by
  subst hp
  exact C.pure H fun p e s m args below meth c T locs X hx hby _ _ _ t k => iremM X hx rfl (hb hby d) rfl hy k
theorem k_ldiv (C : Ctx l R n0 Z own bytes ml nm rt Q K O) {x y : Int64} (H : K pc L (.long y :: .long x :: rest) h cl sl) (d : decode bytes pc = .ok (.ldiv, 1)) (hy : y ≠ 0) (hp : pc + 1 = pc') : K pc' L (.long (x / y) :: rest) h cl sl := by
  subst hp
  exact C.pure H fun p e s m args below meth c T locs X hx hby _ _ _ t k => XS.ldiv X.here hx rfl (hb hby d) rfl hy k
theorem k_i2l (C : Ctx l R n0 Z own bytes ml nm rt Q K O) {x : Int32} (H : K pc L (.int x :: rest) h cl sl) (d : decode bytes pc = .ok (.i2l, 1))  (hp : pc + 1 = pc') : K pc' L (.long (x.toInt64) :: rest) h cl sl := by
  subst hp
  exact C.pure H fun p e s m args below meth c T locs X hx hby _ _ _ t k => XS.i2l X.here hx rfl (hb hby d) rfl k
theorem k_l2i (C : Ctx l R n0 Z own bytes ml nm rt Q K O) {x : Int64} (H : K pc L (.long x :: rest) h cl sl) (d : decode bytes pc = .ok (.l2i, 1))  (hp : pc + 1 = pc') : K pc' L (.int (x.toInt32) :: rest) h cl sl := by
  subst hp
  exact C.pure H fun p e s m args below meth c T locs X hx hby _ _ _ t k => XS.l2i X.here hx rfl (hb hby d) rfl k
theorem k_i2b (C : Ctx l R n0 Z own bytes ml nm rt Q K O) {x : Int32} (H : K pc L (.int x :: rest) h cl sl) (d : decode bytes pc = .ok (.i2b, 1))  (hp : pc + 1 = pc') : K pc' L (.int (x.toInt8.toInt32) :: rest) h cl sl := by
  subst hp
  exact C.pure H fun p e s m args below meth c T locs X hx hby _ _ _ t k => XS.i2b X.here hx rfl (hb hby d) rfl k
theorem k_i2c (C : Ctx l R n0 Z own bytes ml nm rt Q K O) {x : Int32} (H : K pc L (.int x :: rest) h cl sl) (d : decode bytes pc = .ok (.i2c, 1))  (hp : pc + 1 = pc') : K pc' L (.int (x.toUInt32.toUInt16.toUInt32.toInt32) :: rest) h cl sl := by
  subst hp
  exact C.pure H fun p e s m args below meth c T locs X hx hby _ _ _ t k => XS.i2c X.here hx rfl (hb hby d) rfl k
theorem k_i2s (C : Ctx l R n0 Z own bytes ml nm rt Q K O) {x : Int32} (H : K pc L (.int x :: rest) h cl sl) (d : decode bytes pc = .ok (.i2s, 1))  (hp : pc + 1 = pc') : K pc' L (.int (x.toInt16.toInt32) :: rest) h cl sl := by
  subst hp
  exact C.pure H fun p e s m args below meth c T locs X hx hby _ _ _ t k => XS.i2s X.here hx rfl (hb hby d) rfl k
theorem k_dup (C : Ctx l R n0 Z own bytes ml nm rt Q K O) {x : Value} (H : K pc L (x :: rest) h cl sl) (d : decode bytes pc = .ok (.dup, 1)) (hc : x.category = 1) (hp : pc + 1 = pc') : K pc' L (x :: x :: rest) h cl sl := by
  subst hp
  exact C.pure H fun p e s m args below meth c T locs X hx hby _ _ _ t k => XS.dup X.here hx rfl (hb hby d) rfl hc k
theorem k_pop (C : Ctx l R n0 Z own bytes ml nm rt Q K O) {x : Value} (H : K pc L (x :: rest) h cl sl) (d : decode bytes pc = .ok (.pop, 1)) (hc : x.category = 1) (hp : pc + 1 = pc') : K pc' L (rest) h cl sl := by
  subst hp
  exact C.pure H fun p e s m args below meth c T locs X hx hby _ _ _ t k => XS.pop X.here hx rfl (hb hby d) rfl hc k
theorem k_dupX1 (C : Ctx l R n0 Z own bytes ml nm rt Q K O) {x y : Value} (H : K pc L (x :: y :: rest) h cl sl) (d : decode bytes pc = .ok (.dup_x1, 1)) (hc : x.category = 1) (hc' : y.category = 1) (hp : pc + 1 = pc') : K pc' L (x :: y :: x :: rest) h cl sl := by
  subst hp
  exact C.pure H fun p e s m args below meth c T locs X hx hby _ _ _ t k => XS.dupX1 X.here hx rfl (hb hby d) rfl hc hc' k
theorem k_dup2 (C : Ctx l R n0 Z own bytes ml nm rt Q K O) {x y : Value} (H : K pc L (x :: y :: rest) h cl sl) (d : decode bytes pc = .ok (.dup2, 1)) (hc : x.category = 1) (hc' : y.category = 1) (hp : pc + 1 = pc') : K pc' L (x :: y :: x :: y :: rest) h cl sl := by
  subst hp
  exact C.pure H fun p e s m args below meth c T locs X hx hby _ _ _ t k => Jvm.Free.XT.dup2 X.here hx rfl (hb hby d) rfl hc hc' k
theorem k_iinc (C : Ctx l R n0 Z own bytes ml nm rt Q K O) {k : Nat} {i : Int} {x y : Int32} {L' : Array Slot} (H : K pc L (S) h cl sl) (d : decode bytes pc = .ok (.iinc k i, 3)) (hl : L[k]? = some (.val (.int x))) (hv : x + Int32.ofInt i = y) (hl' : storeLocals L k (.int y) = some L') (hp : pc + 3 = pc') : K pc' L' (S) h cl sl := by
  subst hp
  exact C.pure H fun p e s m args below meth c T locs X hx hby _ _ _ t k => XS.iinc X.here hx rfl (hb hby d) hl (by rw [hv]; exact hl') k
theorem k_ifcY (C : Ctx l R n0 Z own bytes ml nm rt Q K O) {cd : ClassFile.Cond} {o : Int} {x : Int32} (H : K pc L (.int x :: rest) h cl sl) (d : decode bytes pc = .ok (.ifCond cd o, 3)) (hc : if_icmp.holds cd x 0 = true) (ho : 0 ≤ (pc : Int) + o) (hp : ((pc : Int) + o).toNat = pc') : K pc' L rest h cl sl :=
  C.pure H fun p e s m args below meth c T locs X hx hby _ _ _ t k => XS.ifYes X.here hx rfl (pc0 := pc) rfl (hb hby d) rfl ((if0 _ _).trans hc) ho hp k
theorem k_ifcN (C : Ctx l R n0 Z own bytes ml nm rt Q K O) {cd : ClassFile.Cond} {o : Int} {x : Int32} (H : K pc L (.int x :: rest) h cl sl) (d : decode bytes pc = .ok (.ifCond cd o, 3)) (hc : if_icmp.holds cd x 0 = false) (hp : pc + 3 = pc') : K pc' L rest h cl sl := by
  subst hp
  exact C.pure H fun p e s m args below meth c T locs X hx hby _ _ _ t k => XS.ifNo X.here hx rfl (hb hby d) rfl ((if0 _ _).trans hc) k
theorem k_icmpY (C : Ctx l R n0 Z own bytes ml nm rt Q K O) {cd : ClassFile.Cond} {o : Int} {x y : Int32} (H : K pc L (.int y :: .int x :: rest) h cl sl) (d : decode bytes pc = .ok (.if_icmp cd o, 3)) (hc : if_icmp.holds cd x y = true) (ho : 0 ≤ (pc : Int) + o) (hp : ((pc : Int) + o).toNat = pc') : K pc' L rest h cl sl :=
  C.pure H fun p e s m args below meth c T locs X hx hby _ _ _ t k => XS.icmpYes X.here hx rfl (pc0 := pc) rfl (hb hby d) rfl hc ho hp k
theorem k_icmpN (C : Ctx l R n0 Z own bytes ml nm rt Q K O) {cd : ClassFile.Cond} {o : Int} {x y : Int32} (H : K pc L (.int y :: .int x :: rest) h cl sl) (d : decode bytes pc = .ok (.if_icmp cd o, 3)) (hc : if_icmp.holds cd x y = false) (hp : pc + 3 = pc') : K pc' L rest h cl sl := by
  subst hp
  exact C.pure H fun p e s m args below meth c T locs X hx hby _ _ _ t k => XS.icmpNo X.here hx rfl (hb hby d) rfl hc k
theorem k_goto (C : Ctx l R n0 Z own bytes ml nm rt Q K O) (H : K pc L S h cl sl) {o : Int} (d : decode bytes pc = .ok (.goto o, 3)) (ho : 0 ≤ (pc : Int) + o) (hp : ((pc : Int) + o).toNat = pc') : K pc' L S h cl sl :=
  C.pure H fun p e s m args below meth c T locs X hx hby _ _ _ t k => XS.goto X.here hx rfl (pc0 := pc) rfl (hb hby d) ho hp k
theorem k_ifnullY (C : Ctx l R n0 Z own bytes ml nm rt Q K O) (H : K pc L (.null :: rest) h cl sl) {o : Int} (d : decode bytes pc = .ok (.ifnull o, 3)) (ho : 0 ≤ (pc : Int) + o) (hp : ((pc : Int) + o).toNat = pc') : K pc' L rest h cl sl :=
  C.pure H fun p e s m args below meth c T locs X hx hby _ _ _ t k => XS.ifnullYes X.here hx rfl (pc0 := pc) rfl (hb hby d) rfl ho hp k
theorem k_ifnullN (C : Ctx l R n0 Z own bytes ml nm rt Q K O) {b : Addr} (H : K pc L (.ref b :: rest) h cl sl) {o : Int} (d : decode bytes pc = .ok (.ifnull o, 3)) (hp : pc + 3 = pc') : K pc' L rest h cl sl := by
  subst hp
  exact C.pure H fun p e s m args below meth c T locs X hx hby _ _ _ t k => XS.ifnullNo X.here hx rfl (hb hby d) rfl k
theorem k_ifnonnullY (C : Ctx l R n0 Z own bytes ml nm rt Q K O) {b : Addr} (H : K pc L (.ref b :: rest) h cl sl) {o : Int} (d : decode bytes pc = .ok (.ifnonnull o, 3)) (ho : 0 ≤ (pc : Int) + o) (hp : ((pc : Int) + o).toNat = pc') : K pc' L rest h cl sl :=
  C.pure H fun p e s m args below meth c T locs X hx hby _ _ _ t k => XS.ifnonnullYes X.here hx rfl (pc0 := pc) rfl (hb hby d) rfl ho hp k
theorem k_ifnonnullN (C : Ctx l R n0 Z own bytes ml nm rt Q K O) (H : K pc L (.null :: rest) h cl sl) {o : Int} (d : decode bytes pc = .ok (.ifnonnull o, 3)) (hp : pc + 3 = pc') : K pc' L rest h cl sl := by
  subst hp
  exact C.pure H fun p e s m args below meth c T locs X hx hby _ _ _ t k => XS.ifnonnullNo X.here hx rfl (hb hby d) rfl k
theorem k_acmp (C : Ctx l R n0 Z own bytes ml nm rt Q K O) {x y : Value} (H : K pc L (y :: x :: rest) h cl sl) {cd : ACond} {o : Int} (d : decode bytes pc = .ok (.if_acmp cd o, 3)) (h1 : x.isRef = true) (h2 : y.isRef = true) {same : Bool} (hq : decide (x = y) = same) (ho : 0 ≤ (pc : Int) + o) (hp : pc' = if acV cd same = true then ((pc : Int) + o).toNat else pc + 3) : K pc' L rest h cl sl :=
  C.pure H fun p e s m args below meth c T locs X hx hby _ _ _ t k => Jvm.RoadKit.acmp X hx rfl h1 h2 (pc0 := pc) rfl (hb hby d) rfl hq ho hp k
theorem k_dupX2 (C : Ctx l R n0 Z own bytes ml nm rt Q K O) {x y z : Value} (H : K pc L (x :: y :: z :: rest) h cl sl) (d : decode bytes pc = .ok (.dup_x2, 1)) (h1 : x.category = 1) (h2 : y.category = 1) (h3 : z.category = 1) (hp : pc + 1 = pc') : K pc' L (x :: y :: z :: x :: rest) h cl sl := by
  subst hp
  refine C.pure H fun p e s m args below meth c T locs X hx hby _ _ _ t k => ?_
  jvm_step X.here [X.here.top, hx, hb hby d, h1, h2, h3]
  exact k
theorem k_ldcI (C : Ctx l R n0 Z own bytes ml nm rt Q K O) (H : K pc L S h cl sl) {i : Nat} {v : Int32} (w : (Cond.constant own i v).before a0 Z = true) (d : decode bytes pc = .ok (.ldc i, 2)) (hp : pc + 2 = pc') : K pc' L (.int v :: S) h cl sl := by
  subst hp
  exact C.pure H fun p e s m args below meth c T locs X hx hby hZ hown _ t k => X.ldcInt hx hown (mvT hZ w) (g := mkF m pc L S) rfl (hb hby d) t k
theorem k_ldcL (C : Ctx l R n0 Z own bytes ml nm rt Q K O) (H : K pc L S h cl sl) {i : Nat} {v : Int64} (w : (Cond.constantLong own i v).before a0 Z = true) (d : decode bytes pc = .ok (.ldc2_w i, 3)) (hp : pc + 3 = pc') : K pc' L (.long v :: S) h cl sl := by
  subst hp
  exact C.pure H fun p e s m args below meth c T locs X hx hby hZ hown _ t k => X.ldc2Long hx hown (mvT hZ w) (g := mkF m pc L S) rfl (hb hby d) t k
theorem k_getFld (C : Ctx l R n0 Z own bytes ml nm rt Q K O) {a : Addr} (H : K pc L (.ref a :: rest) h cl sl) {i : Nat} {O' n d' : String} {v : Value} (w : (Cond.fieldLink own i O' n d').before a0 Z = true) (F : Fld Z h a O' n d' v) (d : decode bytes pc = .ok (.getfield i, 3)) (hp : pc + 3 = pc') : K pc' L (v :: rest) h cl sl := by
  subst hp
  exact C.note H fun p e s m args below meth c T locs X hx hby hZ hown _ eT => getF X hx hZ hown (host := "") (Or.inl w) Via.refl eT F (g := mkF m pc L (.ref a :: rest)) rfl rfl (hb hby d)
theorem k_getFldN (C : Ctx l R n0 Z own bytes ml nm rt Q K O) {a : Addr} (H : K pc L (.ref a :: rest) h cl sl) {i : Nat} {O' n d' host : String} {v : Value} (w : (Cond.fieldLinkNest own i O' n d' host).before a0 Z = true) (F : Fld Z h a O' n d' v) (d : decode bytes pc = .ok (.getfield i, 3)) (hp : pc + 3 = pc') : K pc' L (v :: rest) h cl sl := by
  subst hp
  exact C.note H fun p e s m args below meth c T locs X hx hby hZ hown _ eT => getF X hx hZ hown (Or.inr w) Via.refl eT F (g := mkF m pc L (.ref a :: rest)) rfl rfl (hb hby d)
theorem k_getSta (C : Ctx l R n0 Z own bytes ml nm rt Q K O) (H : K pc L S h cl sl) {i : Nat} {O' n d' : String} {v : Value} (w : (Cond.fieldLink own i O' n d').before a0 Z = true) (F : Sta Z h O' n d' v) (d : decode bytes pc = .ok (.getstatic i, 3)) (hp : pc + 3 = pc') : K pc' L (v :: S) h cl sl := by
  subst hp
  exact C.note H fun p e s m args below meth c T locs X hx hby hZ hown _ eT => getS2 X hx hZ hown (host := "") (Or.inl w) Via.refl eT F (g := mkF m pc L S) rfl (hb hby d)
theorem k_initObj (C : Ctx l R n0 Z own bytes ml nm rt Q K O) {a : Addr} (H : K pc L (.ref a :: rest) h cl sl) {i : Nat} (w1 : (Cond.methodLink own i Lib.objectInit).before a0 Z = true) (w2 : (Cond.instanceMethod Lib.objectInit).before a0 Z = true) (w3 : (Cond.code Lib.objectInit ⟨#[0xb1]⟩ 1 none).before a0 Z = true) (d : decode bytes pc = .ok (.invokespecial i, 3)) (hsz : L.size = ml)
    (hf : 1 ≤ R.frames) (W : Nat) (hW : (rest.map fun v => v.category).sum = W) (hl : W + 12 ≤ R.locals) (hp : pc + 3 = pc') : K pc' L rest h cl sl := by
  subst hp
  exact C.note H fun p e s m args below meth c T locs X hx hby hZ hown hml eT => initO X hx hZ hown w1 w2 w3 eT (g := mkF m pc L (.ref a :: rest)) rfl (hsz.trans hml.symm) rfl (hb hby d) hf (W := W) (by show 2 * 0 + _ ≤ _; omega) hl
theorem k_castYes (C : Ctx l R n0 Z own bytes ml nm rt Q K O) {a : Addr} (H : K pc L (.ref a :: rest) h cl sl) {i : Nat} {C' : String} (w : (Cond.classLink own i C').before a0 Z = true) (F : Ins Z h a C' true) (d : decode bytes pc = .ok (.checkcast i, 3)) (hp : pc + 3 = pc') : K pc' L (.ref a :: rest) h cl sl := by
  subst hp
  exact C.note H fun p e s m args below meth c T locs X hx hby hZ hown _ eT => castY X hx hZ hown w eT F (g := mkF m pc L (.ref a :: rest)) rfl rfl (hb hby d)
theorem k_castNull (C : Ctx l R n0 Z own bytes ml nm rt Q K O) (H : K pc L (.null :: rest) h cl sl) {i : Nat} (d : decode bytes pc = .ok (.checkcast i, 3)) (hp : pc + 3 = pc') : K pc' L (.null :: rest) h cl sl := by
  subst hp
  exact C.pure H fun p e s m args below meth c T locs X hx hby hZ hown _ t k => X.checkcastNull hx (g := mkF m pc L (.null :: rest)) rfl rfl (hb hby d) t k
theorem k_instYes (C : Ctx l R n0 Z own bytes ml nm rt Q K O) {a : Addr} (H : K pc L (.ref a :: rest) h cl sl) {i : Nat} {C' : String} (w : (Cond.classLink own i C').before a0 Z = true) (F : Ins Z h a C' true) (d : decode bytes pc = .ok (.instanceof i, 3)) (hp : pc + 3 = pc') : K pc' L (.int 1 :: rest) h cl sl := by
  subst hp
  exact C.note H fun p e s m args below meth c T locs X hx hby hZ hown _ eT => instY X hx hZ hown w eT F (g := mkF m pc L (.ref a :: rest)) rfl rfl (hb hby d)
theorem k_instNull (C : Ctx l R n0 Z own bytes ml nm rt Q K O) (H : K pc L (.null :: rest) h cl sl) {i : Nat} (d : decode bytes pc = .ok (.instanceof i, 3)) (hp : pc + 3 = pc') : K pc' L (.int 0 :: rest) h cl sl := by
  subst hp
  exact C.pure H fun p e s m args below meth c T locs X hx hby hZ hown _ t k => X.instanceofNull hx (g := mkF m pc L (.null :: rest)) rfl rfl (hb hby d) t k
theorem k_instNot (C : Ctx l R n0 Z own bytes ml nm rt Q K O) {a : Addr} (H : K pc L (.ref a :: rest) h cl sl) {i : Nat} {C' D' : String} (w : (Cond.classLink own i C').before a0 Z = true) (E : Exa Z h a D') (F : ∃ c t, Z.vm.findClass D' = some c ∧ Z.vm.findClass C' = some t ∧ Z.vm.assignable c t = false) (d : decode bytes pc = .ok (.instanceof i, 3)) (hp : pc + 3 = pc') : K pc' L (.int 0 :: rest) h cl sl := by
  subst hp
  exact C.note H fun p e s m args below meth c T locs X hx hby hZ hown _ eT => instNo X hx hZ hown w eT E F (g := mkF m pc L (.ref a :: rest)) rfl rfl (hb hby d)
/-! what writes or makes -/
theorem k_putFld (C : Ctx l R n0 Z own bytes ml nm rt Q K O) {a : Addr} {v : Value} (H : K pc L (v :: .ref a :: rest) h cl sl) {i kk : Nat} {O' n d' C' : String} {ty : FieldType} {old : Value} (w : (Cond.fieldLink own i O' n d').before a0 Z = true) (F : Fld Z h a O' n d' old) (E : Exa Z h a C')
    (Lw : (Cond.lays C' O' n d').before a0 Z = true ∨ ((Cond.laysFinal C' O' n d').before a0 Z = true ∧ own = O' ∧ nm = "<init>")) (wi : (Cond.instantiable C' kk).before a0 Z = true) (hty : parseFieldDescriptor d' = some ty) {v' : Value} (hn : narrow ty v = v') (hf : fits ty v' = true) (g : n0 ≤ a) (d : decode bytes pc = .ok (.putfield i, 3)) (hp : pc + 3 = pc') :
    ∃ h', Wr h h' a (Jvm.RoadKit.slotOf Z O' n d') v' ∧ K pc' L rest h' cl sl := by
  subst hp
  obtain ⟨p, e, s, m, args, below, meth, c, s1, f0, hx, hby, hZ, hown, hml, hnm, hrt, hlk, hK, hO⟩ := C
  obtain ⟨T, locs, X, eT, N, st⟩ := (hK _ _ _ _ _ _).mp H
  obtain ⟨T', h', X', e', W', st'⟩ := putFN X hx hZ hown w Via.refl eT F E (Lw.imp id fun q => ⟨q.1, q.2.1, hnm.trans q.2.2⟩) wi hty hn hf (g := mkF m pc L (v :: .ref a :: rest)) rfl rfl (hb hby d)
  exact ⟨h', W', (hK _ _ _ _ _ _).mpr ⟨T', _, X', e', Fr.snoc X' N g, fun t k => st t (st' t k)⟩⟩
theorem k_newObj (C : Ctx l R n0 Z own bytes ml nm rt Q K O) (H : K pc L S h cl sl) {i n : Nat} {C' : String} (w : (Cond.classLink own i C').before a0 Z = true) (wi : (Cond.instantiable C' n).before a0 Z = true) (wz : (Cond.initialized C').before a0 Z = true) (d : decode bytes pc = .ok (.new i, 3)) (hc : cl + 1 ≤ R.cells) (hl : sl + n ≤ R.slots) (hp : pc + 3 = pc') :
    ∃ h' b, b = h.size ∧ Ext h h' ∧ Exa Z h' b C' ∧ (∀ {O' nm' d' : String} {ty : FieldType}, Laid Z a0 C' O' nm' d' → parseFieldDescriptor d' = some ty → Fld Z h' b O' nm' d' (defaultValue ty)) ∧ K pc' L (.ref b :: S) h' (cl + 1) (sl + n) := by
  subst hp
  obtain ⟨p, e, s, m, args, below, meth, c, s1, f0, hx, hby, hZ, hown, hml, hnm, hrt, hlk, hK, hO⟩ := C
  obtain ⟨T, locs, X, eT, N, st⟩ := (hK _ _ _ _ _ _).mp H
  obtain ⟨T', h', X', e', E', A', D', -, st'⟩ := newO X hx hZ hown w wi wz eT (g := mkF m pc L S) rfl (hb hby d) hc hl
  exact ⟨h', _, rfl, E', A', D', (hK _ _ _ _ _ _).mpr ⟨T', _, X', e', N, fun t k => st t (st' t k)⟩⟩
theorem k_newArr (C : Ctx l R n0 Z own bytes ml nm rt Q K O) {n : Int32} (H : K pc L (.int n :: rest) h cl sl) {aty : ArrayType} (w : (Cond.arrayClass (newarray.typeOf aty)).before a0 Z = true) (d : decode bytes pc = .ok (.newarray aty, 2)) (hn : ¬ n < 0) {cap : Nat} (hcap : n.toNatClampNeg ≤ cap) (hb' : cap * 8 ≤ 536870912) (hc : cl + 1 ≤ R.cells) (hl : sl + cap ≤ R.slots) (hp : pc + 2 = pc') :
    ∃ h' b cA, b = h.size ∧ Ext h h' ∧ Arr Z h' b (newA cA (newarray.typeOf aty) n) (newarray.typeOf aty) ∧ K pc' L (.ref b :: rest) h' (cl + 1) (sl + cap) := by
  subst hp
  obtain ⟨p, e, s, m, args, below, meth, c, s1, f0, hx, hby, hZ, hown, hml, hnm, hrt, hlk, hK, hO⟩ := C
  obtain ⟨T, locs, X, eT, N, st⟩ := (hK _ _ _ _ _ _).mp H
  obtain ⟨T', h', cA, X', e', E', A', st'⟩ := newP X hx hZ w eT (g := mkF m pc L (.int n :: rest)) rfl (hb hby d) rfl hn hcap hb' hc hl
  exact ⟨h', _, cA, rfl, E', A', (hK _ _ _ _ _ _).mpr ⟨T', _, X', e', N, fun t k => st t (st' t k)⟩⟩
/-! the returns -/
theorem k_out_of (C : Ctx l R n0 Z own bytes ml nm rt Q K O) (H : K pc L S h cl sl) {v : Option Value} (hv : rt = none → v = none) (hq : Q v h) (hc : cl ≤ R.cells) (hl : sl ≤ R.slots)
    (f : ∀ (p : Program) (e : Env) (s : State) (m : MethodId) (args : Array Value) (below : List Frame) (meth : Method) (c : Code) (T : State) (locs : List Loc) (fs : List Frame), Stand p l e R s m args below meth c T locs cl sl → p.tables.exec = Jvm.exec → c.code = bytes → meth.sig.returnType = rt →
      (∀ (f : JFrame) (acts : List Action), f.method = m → f.locked = none → f.entered = [] → (doReturn e (T.setTop f) acts v).1 = T.setFrames fs) → Steps p.tables e below (T.setTop (mkF m pc L S)) (T.setFrames fs)) : O := by
  obtain ⟨p, e, s, m, args, below, meth, c, s1, f0, hx, hby, hZ, hown, hml, hnm, hrt, hlk, hK, hO⟩ := C
  obtain ⟨T, locs, X, eT, N, st⟩ := (hK _ _ _ _ _ _).mp H
  obtain ⟨fs, hr, hrun, hended, hW, hsame⟩ := X.leave (v := v) (fun q => hv (hrt.symm.trans q)) hlk
  refine hO ⟨_, _, st _ (f p e s m args below meth c T locs fs X hx hby hrt hr), hrun, hended, v, locs, rfl, ⟨?_, N⟩, ⟨_, rfl⟩, hW, hsame.mono hc hl⟩
  show Q v T.heap
  rw [eT]; exact hq
theorem k_retV (C : Ctx l R n0 Z own bytes ml nm none Q K O) (H : K pc L [] h cl sl) (d : decode bytes pc = .ok (.return_, 1)) (hc : cl ≤ R.cells) (hl : sl ≤ R.slots) (hq : Q none h) : O :=
  k_out_of C H (fun _ => rfl) hq hc hl fun p e s m args below meth c T locs fs X hx hby hrt hr => X.returnOut hx hrt (hb hby d) hr
theorem k_retI (C : Ctx l R n0 Z own bytes ml nm (some .int) Q K O) {z : Int32} (H : K pc L (.int z :: rest) h cl sl) (d : decode bytes pc = .ok (.ireturn, 1)) (hc : cl ≤ R.cells) (hl : sl ≤ R.slots) (hq : Q (some (.int z)) h) : O :=
  k_out_of C H (fun q => nomatch q) hq hc hl fun p e s m args below meth c T locs fs X hx hby hrt hr => retOut X hx hrt (i := .ireturn) rfl (Or.inl ⟨rfl, Or.inl rfl, _, rfl⟩) (hb hby d) hr
theorem k_retJ (C : Ctx l R n0 Z own bytes ml nm (some .long) Q K O) {z : Int64} (H : K pc L (.long z :: rest) h cl sl) (d : decode bytes pc = .ok (.lreturn, 1)) (hc : cl ≤ R.cells) (hl : sl ≤ R.slots) (hq : Q (some (.long z)) h) : O :=
  k_out_of C H (fun q => nomatch q) hq hc hl fun p e s m args below meth c T locs fs X hx hby hrt hr => retOut X hx hrt (i := .lreturn) rfl (Or.inr (Or.inl ⟨rfl, rfl, _, rfl⟩)) (hb hby d) hr
theorem k_retA {t : FieldType} (C : Ctx l R n0 Z own bytes ml nm (some t) Q K O) {v : Value} (H : K pc L (v :: rest) h cl sl) (d : decode bytes pc = .ok (.areturn, 1)) (ht : t.isReference = true) (hv : v.isRef = true) (hc : cl ≤ R.cells) (hl : sl ≤ R.slots) (hq : Q (some v) h) : O :=
  k_out_of C H (fun q => nomatch q) hq hc hl fun p e s m args below meth c T locs fs X hx hby hrt hr => retOut X hx hrt (i := .areturn) (by rcases ref_cases hv with rfl | ⟨a, rfl⟩ <;> cases t <;> first | rfl | cases ht) (Or.inr (Or.inr (Or.inr (Or.inr ⟨rfl, ht, hv⟩)))) (hb hby d) hr
theorem k_retN {t : FieldType} (C : Ctx l R n0 Z own bytes ml nm (some t) Q K O) {z : Int32} (H : K pc L (.int z :: rest) h cl sl) (d : decode bytes pc = .ok (.ireturn, 1)) (ht : t = .boolean ∨ t = .byte ∨ t = .char ∨ t = .short) (hc : cl ≤ R.cells) (hl : sl ≤ R.slots) (hq : Q (some (.int (nar t z))) h) : O :=
  k_out_of C H (fun q => nomatch q) hq hc hl fun p e s m args below meth c T locs fs X hx hby hrt hr => Jvm.RoadKit.retN X hx hrt ht (hb hby d) hr
theorem k_retZ (C : Ctx l R n0 Z own bytes ml nm (some .boolean) Q K O) {z : Int32} (H : K pc L (.int z :: rest) h cl sl) (d : decode bytes pc = .ok (.ireturn, 1)) (hz : z &&& 1 = z) (hc : cl ≤ R.cells) (hl : sl ≤ R.slots) (hq : Q (some (.int z)) h) : O :=
  k_retN C H d (Or.inl rfl) hc hl (by show Q (some (.int (z &&& 1))) h; rw [hz]; exact hq)
/-! the calls -/
theorem k_callSta (C : Ctx l R n0 Z own bytes ml nm rt Q K O) (H : K pc L S h cl sl) {i : Nat} {y : MethodName} {bytes' : ByteArray} {ml' : Nat} {rt' : Option FieldType} {rm : Room} {as : Array Value} {Q' : Qt} (k : Con l y bytes' ml' rt' rm Z as h n0 Q')
    (w1 : (Cond.methodLink own i y).before a0 Z = true) (w2 : (Cond.static y).before a0 Z = true) (w3 : (Cond.initialized y.cls).before a0 Z = true) (w4 : (Cond.code y bytes' ml' rt').before a0 Z = true) (hy : y.cls ≠ "java/lang/invoke/MethodHandle" ∧ y.cls ≠ "java/lang/invoke/VarHandle")
    (d : decode bytes pc = .ok (.invokestatic i, 3)) (hsz : L.size = ml) (argsL rest : List Value) {ps : List FieldType} (hd : parseMethodDescriptor y.desc = some ⟨ps, rt'⟩) (hlen : argsL.length = ps.length) (hS : S = argsL.reverse ++ rest) (has : argsL.toArray = as) (W : Nat) (hW : (rest.map fun v => v.category).sum = W)
    (hfr : rm.frames + 1 ≤ R.frames) (hlo : W + (ml' + 11) + rm.locals ≤ R.locals) (hc : cl + rm.cells ≤ R.cells) (hs : sl + rm.slots ≤ R.slots) (hp : pc + 3 = pc') :
    ∃ v h', Q' v h' ∧ K pc' L (v.toList ++ rest) h' (cl + rm.cells) (sl + rm.slots) := by
  subst hp
  obtain ⟨p, e, s, m, args, below, meth, c, s1, f0, hx, hby, hZ, hown, hml, hnm, hrt, hlk, hK, hO⟩ := C
  obtain ⟨T, locs, X, eT, N, st⟩ := (hK _ _ _ _ _ _).mp H
  obtain ⟨v, _, ⟨T', L', k', n'⟩, -, X', ⟨Lc, ⟨hQ, hF⟩, l', y', z'⟩, st'⟩ := Jvm.LawKit.callS X hx (y := y) hown (mvT hZ w1) (mvT hZ w2) (mvT hZ w3) (mvT hZ w4) hy (backOf (Q := fun v h' L => Q' v h' ∧ Fr n0 L) (W := W) (k []) hZ w4 w3 hfr hlo) (g := mkF m pc L S) rfl (hsz.trans hml.symm) (argsL := argsL) (rest := rest) (lenOf hd hlen) hS (by show 2 * 0 + _ ≤ _; omega) (hb hby d) (fun _ _ => ⟨has, eT, hc, hs⟩)
  dsimp only [Pt.U, Pt.locs, Pt.cells, Pt.slots] at X' l' y' z' st' hQ
  subst l' y' z'
  exact ⟨v, T'.heap, hQ, (hK _ _ _ _ _ _).mpr ⟨T', _, X', rfl, N.app hF, fun t k => st t (st' t k)⟩⟩
theorem k_callCon (C : Ctx l R n0 Z own bytes ml nm rt Q K O) (H : K pc L S h cl sl) {i : Nat} {y : MethodName} {bytes' : ByteArray} {ml' : Nat} {rm : Room} {as : Array Value} {Q' : Qt} (k : Con l y bytes' ml' none rm Z as h n0 Q') (hi : y.name = "<init>")
    (w1 : (Cond.methodLink own i y).before a0 Z = true) (w2 : (Cond.instanceMethod y).before a0 Z = true) (w3 : (Cond.initialized y.cls).before a0 Z = true) (w4 : (Cond.code y bytes' ml' none).before a0 Z = true) (hy : y.cls ≠ "java/lang/invoke/MethodHandle" ∧ y.cls ≠ "java/lang/invoke/VarHandle")
    (d : decode bytes pc = .ok (.invokespecial i, 3)) (hsz : L.size = ml) (a : Addr) (argsL rest : List Value) {ps : List FieldType} (hd : parseMethodDescriptor y.desc = some ⟨ps, none⟩) (hlen : argsL.length = ps.length) (hS : S = argsL.reverse ++ .ref a :: rest) (has : (.ref a :: argsL).toArray = as) (W : Nat) (hW : (rest.map fun v => v.category).sum = W)
    (hfr : rm.frames + 1 ≤ R.frames) (hlo : W + (ml' + 11) + rm.locals ≤ R.locals) (hc : cl + rm.cells ≤ R.cells) (hs : sl + rm.slots ≤ R.slots) (hp : pc + 3 = pc') :
    ∃ v h', Q' v h' ∧ K pc' L (v.toList ++ rest) h' (cl + rm.cells) (sl + rm.slots) := by
  subst hp
  obtain ⟨p, e, s, m, args, below, meth, c, s1, f0, hx, hby, hZ, hown, hml, hnm, hrt, hlk, hK, hO⟩ := C
  obtain ⟨T, locs, X, eT, N, st⟩ := (hK _ _ _ _ _ _).mp H
  obtain ⟨v, _, ⟨T', L', k', n'⟩, -, X', ⟨Lc, ⟨hQ, hF⟩, l', y', z'⟩, st'⟩ := X.specialBack hx (y := y) hi hown (mvT hZ w1) (mvT hZ w2) (mvT hZ w4) hy (backOf (Q := fun v h' L => Q' v h' ∧ Fr n0 L) (W := W) (k []) hZ w4 w3 hfr hlo) (g := mkF m pc L S) rfl (hsz.trans hml.symm) (Steps.refl _) (a := a) (argsL := argsL) (rest := rest) (lenOf hd hlen) hS (by show 2 * 0 + _ ≤ _; omega) (hb hby d) (fun _ _ => ⟨has, eT, hc, hs⟩)
  dsimp only [Pt.U, Pt.locs, Pt.cells, Pt.slots] at X' l' y' z' st' hQ
  subst l' y' z'
  exact ⟨v, T'.heap, hQ, (hK _ _ _ _ _ _).mpr ⟨T', _, X', rfl, N.app hF, fun t k => st t (st'.trans k)⟩⟩
theorem k_callVir (C : Ctx l R n0 Z own bytes ml nm rt Q K O) (H : K pc L S h cl sl) {i : Nat} {y : MethodName} {bytes' : ByteArray} {ml' : Nat} {rt' : Option FieldType} {rm : Room} {as : Array Value} {Q' : Qt} (k : Con l y bytes' ml' rt' rm Z as h n0 Q') {a : Addr} {C' : String} (E : Exa Z h a C')
    (w1 : (Cond.methodLink own i y).before a0 Z = true) (w2 : (Cond.declares y).before a0 Z = true) (w3 : (Cond.selects C' y y).before a0 Z = true) (w4 : (Cond.instanceMethod y).before a0 Z = true) (w5 : (Cond.initialized y.cls).before a0 Z = true) (w6 : (Cond.code y bytes' ml' rt').before a0 Z = true) (hy : y.cls ≠ "java/lang/invoke/MethodHandle" ∧ y.cls ≠ "java/lang/invoke/VarHandle")
    (d : decode bytes pc = .ok (.invokevirtual i, 3)) (hsz : L.size = ml) (argsL rest : List Value) {ps : List FieldType} {rt2 : Option FieldType} (hd : parseMethodDescriptor y.desc = some ⟨ps, rt2⟩) (hlen : argsL.length = ps.length) (hS : S = argsL.reverse ++ .ref a :: rest) (has : (.ref a :: argsL).toArray = as) (W : Nat) (hW : (rest.map fun v => v.category).sum = W)
    (hfr : rm.frames + 1 ≤ R.frames) (hlo : W + (ml' + 11) + rm.locals ≤ R.locals) (hc : cl + rm.cells ≤ R.cells) (hs : sl + rm.slots ≤ R.slots) (hp : pc + 3 = pc') :
    ∃ v h', Q' v h' ∧ K pc' L (v.toList ++ rest) h' (cl + rm.cells) (sl + rm.slots) := by
  subst hp
  obtain ⟨p, e, s, m, args, below, meth, c, s1, f0, hx, hby, hZ, hown, hml, hnm, hrt, hlk, hK, hO⟩ := C
  obtain ⟨T, locs, X, eT, N, st⟩ := (hK _ _ _ _ _ _).mp H
  obtain ⟨cq, kq, qa, qb, qc⟩ := isOf hZ eT E
  obtain ⟨v, _, ⟨T', L', k', n'⟩, -, X', ⟨Lc, ⟨hQ, hF⟩, l', y', z'⟩, st'⟩ := X.virtualBack hx (y := y) (z := y) hown (mvT hZ w1) (mvT hZ w2) (notFace_of_selects (args := #[]) (mvT hZ w3)) (mvT hZ w3) (mvT hZ w4) hy (backOf (Q := fun v h' L => Q' v h' ∧ Fr n0 L) (W := W) (k []) hZ w6 w5 hfr hlo) qa qc (g := mkF m pc L S) rfl (hsz.trans hml.symm) (Steps.refl _) (argsL := argsL) (rest := rest) (lenOf hd hlen) hS (by show 2 * 0 + _ ≤ _; omega) (hb hby d) (fun _ _ => ⟨has, eT, hc, hs⟩)
  dsimp only [Pt.U, Pt.locs, Pt.cells, Pt.slots] at X' l' y' z' st' hQ
  subst l' y' z'
  exact ⟨v, T'.heap, hQ, (hK _ _ _ _ _ _).mpr ⟨T', _, X', rfl, N.app hF, fun t k => st t (st'.trans k)⟩⟩
end Steps
/-- a class whose only superclass is one without a superclass is no subclass of a third, ordinary one -/
theorem noSub {Z : State} {a0 : Array Value} {C S K : String} {n : Nat} (w : (Cond.superclass C S).before a0 Z = true) (wo : (Cond.noSuperclass S).before a0 Z = true) (wk : (Cond.instantiable K n).before a0 Z = true) (h1 : S ≠ K) (h2 : C ≠ K) :
    ∃ c t, Z.vm.findClass C = some c ∧ Z.vm.findClass K = some t ∧ Z.vm.assignable c t = false := by
  obtain ⟨t, kt, g1, g2, g3, g4, -⟩ := Cond.instantiable_spec wk
  obtain ⟨co, ko, o1, o2, o3, -, -⟩ := Cond.noSuperclass_spec wo
  have nsO : NS Z S K := ⟨co, t, o1, g1, fun fuel => by
    have ne := ids_ne o1 g1 h1
    cases fuel with
    | zero => rfl
    | succ f => simp [Vm.isSubclassAux, ne, o2, o3]⟩
  obtain ⟨c, t', h0, g0, n3⟩ := NS.step w nsO h2
  cases g1.symm.trans g0
  obtain ⟨p, k, kp, q1, q2, q3, q4, q5, -, q7⟩ := Cond.superclass_spec h0 w
  have ne := ids_ne h0 g0 h2
  have gi : kt.isInterface = false := by
    cases hi : kt.isInterface with
    | false => rfl
    | true => simp [hi] at g4
  refine ⟨c, t, h0, g1, ?_⟩
  show Z.vm.assignableAux (255 + 1) c t = false
  simp [Vm.assignableAux, ne, q2, g2, q5, g3, gi, Vm.isSubclass, n3]
/-! arrays of ints, bytes, chars: what lies at each place -/
def Ari (Z : State) (h : Heap) (a : Addr) (ty : FieldType) (n : Nat) (f : Nat → Int32) : Prop := ∃ c : Cell, Arr Z h a c ty ∧ c.slots.size = n ∧ n < 2 ^ 31 ∧ ∀ i, i < n → c.slots[i]? = some (.int (f i))
section Arrays
variable {Z : State} {h h' : Heap} {a b : Addr} {ty : FieldType} {n : Nat} {f : Nat → Int32} {sl : Nat} {v : Value} {ws : List Addr}
theorem Ari.lt (F : Ari Z h a ty n f) : a < h.size := by obtain ⟨c, A, -⟩ := F; exact A.lt
theorem Ari.ext (F : Ari Z h a ty n f) (E : Ext h h') : Ari Z h' a ty n f := by obtain ⟨c, A, r⟩ := F; exact ⟨c, A.ext E, r⟩
theorem Ari.other (F : Ari Z h b ty n f) (W : Wr h h' a sl v) (q : b ≠ a) : Ari Z h' b ty n f := by obtain ⟨c, A, r⟩ := F; exact ⟨c, A.other W q, r⟩
theorem Ari.keep (F : Ari Z h a ty n f) (K : Keep h h' ws) (q : a ∉ ws) : Ari Z h' a ty n f := by obtain ⟨c, A, r⟩ := F; exact ⟨c, ⟨K.2.1 a c A.1 q, A.2⟩, r⟩
theorem Ari.congr {g : Nat → Int32} (F : Ari Z h a ty n f) (q : ∀ i, i < n → f i = g i) : Ari Z h a ty n g := by obtain ⟨c, A, r1, r2, r3⟩ := F; exact ⟨c, A, r1, r2, fun i hi => by rw [← q i hi]; exact r3 i hi⟩
theorem Ari.set (F : Ari Z h a ty n f) {i : Nat} {x : Int32} (W : Wr h h' a i (.int x)) : Ari Z h' a ty n (fun k => if k = i then x else f k) := by
  obtain ⟨c, A, r1, r2, r3⟩ := F
  refine ⟨c.setSlot i (.int x), A.same W, by rw [sz_set]; exact r1, r2, fun k hk => ?_⟩
  by_cases q : k = i
  · subst q
    simp [Cell.setSlot, r1, hk]
  · have : i ≠ k := fun z => q z.symm
    simp [Cell.setSlot, q, this, Array.getElem?_setIfInBounds_ne this, r3 k hk]
theorem addN {x y : Int32} {i j : Nat} (hx : x.toInt = i) (hy : y.toInt = j) (h : i + j < 2147483648) : (x + y).toInt = ((i + j : Nat) : Int) := by
  have a := c_iadd x y
  have r := rng32 (x + y)
  omega
theorem toNatClampNeg_of {j : Int32} {i : Nat} (hj : j.toInt = i) : j.toNatClampNeg = i := by rw [Int32.toNatClampNeg, hj]; rfl
theorem inb {j : Int32} {i m : Nat} (hj : j.toInt = i) (hi : i < m) : ¬ (j < 0 ∨ m ≤ j.toNatClampNeg) := by
  rw [toNatClampNeg_of hj, Int32.lt_iff_toInt_lt, hj]
  simp; omega
theorem Ari.ofNew {cA : ClassId} {z : Int32} (A : Arr Z h a (newA cA ty z) ty) (hz : z.toInt = n) (hd : defaultValue ty = .int 0) : Ari Z h a ty n (fun _ => 0) := by
  have hn : z.toNatClampNeg = n := toNatClampNeg_of hz
  refine ⟨_, A, by rw [sz_new, hn], by have := z.toInt_lt; omega, fun i hi => ?_⟩
  simp [newA, hn, hi, hd]
end Arrays
section ArrSteps
variable {l : Launch} {R : Room} {n0 : Nat} {Z : State} {own : String} {bytes : ByteArray} {ml : Nat} {nm : String} {rt : Option FieldType} {Q : Qt} {K : Kt} {O : Prop} {a0 : Array Value} {pc : Nat} {L : Array Slot} {S rest : List Value} {h : Heap} {cl sl : Nat} {pc' : Nat}
theorem k_arrlen (C : Ctx l R n0 Z own bytes ml nm rt Q K O) {a : Addr} (H : K pc L (.ref a :: rest) h cl sl) {ty : FieldType} {n : Nat} {f : Nat → Int32} (F : Ari Z h a ty n f) (d : decode bytes pc = .ok (.arraylength, 1)) (hp : pc + 1 = pc') : K pc' L (.int n.toInt32 :: rest) h cl sl := by
  subst hp
  obtain ⟨c', A, r1, r2, r3⟩ := F
  exact C.pure H fun p e s m args below meth c T locs X hx hby hZ hown eT t k => X.arraylength hx (by rw [eT]; exact A.1) (State.isArrayOf_alike hZ.alike A.2.1) (g := mkF m pc L (.ref a :: rest)) rfl rfl (hb hby d) t (by rw [r1]; exact k)

theorem k_iaload (C : Ctx l R n0 Z own bytes ml nm rt Q K O) {a : Addr} {j : Int32} (H : K pc L (.int j :: .ref a :: rest) h cl sl) {n : Nat} {f : Nat → Int32} (F : Ari Z h a .int n f) {i : Nat} (hj : j.toInt = i) (hi : i < n) (d : decode bytes pc = .ok (.iaload, 1)) (hp : pc + 1 = pc') : K pc' L (.int (f i) :: rest) h cl sl := by
  subst hp
  obtain ⟨c', A, r1, r2, r3⟩ := F
  exact C.pure H fun p e s m args below meth c T locs X hx hby hZ hown eT t k => X.iaload hx (by rw [eT]; exact A.1) (State.isArrayOf_alike hZ.alike A.2.1) A.2.2 (inb hj (r1.symm ▸ hi)) (by rw [toNatClampNeg_of hj]; exact r3 i hi) (g := mkF m pc L (.int j :: .ref a :: rest)) rfl rfl (hb hby d) t k
theorem k_baload (C : Ctx l R n0 Z own bytes ml nm rt Q K O) {a : Addr} {j : Int32} (H : K pc L (.int j :: .ref a :: rest) h cl sl) {n : Nat} {f : Nat → Int32} (F : Ari Z h a .byte n f) {i : Nat} (hj : j.toInt = i) (hi : i < n) (d : decode bytes pc = .ok (.baload, 1)) (hp : pc + 1 = pc') : K pc' L (.int (f i) :: rest) h cl sl := by
  subst hp
  obtain ⟨c', A, r1, r2, r3⟩ := F
  exact C.pure H fun p e s m args below meth c T locs X hx hby hZ hown eT t k => X.baloadBytes hx (by rw [eT]; exact A.1) (State.isArrayOf_alike hZ.alike A.2.1) A.2.2 (inb hj (r1.symm ▸ hi)) (by rw [toNatClampNeg_of hj]; exact r3 i hi) (g := mkF m pc L (.int j :: .ref a :: rest)) rfl rfl (hb hby d) t k
theorem k_caload (C : Ctx l R n0 Z own bytes ml nm rt Q K O) {a : Addr} {j : Int32} (H : K pc L (.int j :: .ref a :: rest) h cl sl) {n : Nat} {f : Nat → Int32} (F : Ari Z h a .char n f) {i : Nat} (hj : j.toInt = i) (hi : i < n) (d : decode bytes pc = .ok (.caload, 1)) (hp : pc + 1 = pc') : K pc' L (.int (f i) :: rest) h cl sl := by
  subst hp
  obtain ⟨c', A, r1, r2, r3⟩ := F
  exact C.pure H fun p e s m args below meth c T locs X hx hby hZ hown eT t k => X.caload hx (by rw [eT]; exact A.1) (State.isArrayOf_alike hZ.alike A.2.1) A.2.2 (inb hj (r1.symm ▸ hi)) (by rw [toNatClampNeg_of hj]; exact r3 i hi) (g := mkF m pc L (.int j :: .ref a :: rest)) rfl rfl (hb hby d) t k
theorem k_iastore (C : Ctx l R n0 Z own bytes ml nm rt Q K O) {a : Addr} {j x : Int32} (H : K pc L (.int x :: .int j :: .ref a :: rest) h cl sl) {n : Nat} {f : Nat → Int32} (F : Ari Z h a .int n f) {i : Nat} (hj : j.toInt = i) (hi : i < n) (g : n0 ≤ a) (d : decode bytes pc = .ok (.iastore, 1)) (hp : pc + 1 = pc') : ∃ h', Wr h h' a i (.int (x)) ∧ Ari Z h' a .int n (fun k => if k = i then x else f k) ∧ K pc' L rest h' cl sl := by
  subst hp
  have F0 := F
  obtain ⟨c', A, r1, r2, r3⟩ := F
  obtain ⟨p, e, s, m, args, below, meth, c, s1, f0, hx, hby, hZ, hown, hml, hnm, hrt, hlk, hK, hO⟩ := C
  obtain ⟨T, locs, X, eT, N, st⟩ := (hK _ _ _ _ _ _).mp H
  obtain ⟨T', h', X', e', W', st'⟩ := stI X hx hZ eT A (inb hj (r1.symm ▸ hi)) (g := mkF m pc L (.int x :: .int j :: .ref a :: rest)) rfl rfl (hb hby d)
  have N' := Fr.snoc X' N g
  rw [toNatClampNeg_of hj] at W'
  exact ⟨h', W', F0.set W', (hK _ _ _ _ _ _).mpr ⟨T', _, X', e', N', fun t k => st t (st' t k)⟩⟩
theorem k_bastore (C : Ctx l R n0 Z own bytes ml nm rt Q K O) {a : Addr} {j x : Int32} (H : K pc L (.int x :: .int j :: .ref a :: rest) h cl sl) {n : Nat} {f : Nat → Int32} (F : Ari Z h a .byte n f) {i : Nat} (hj : j.toInt = i) (hi : i < n) (g : n0 ≤ a) (d : decode bytes pc = .ok (.bastore, 1)) (hp : pc + 1 = pc') : ∃ h', Wr h h' a i (.int (nar .byte x)) ∧ Ari Z h' a .byte n (fun k => if k = i then nar .byte x else f k) ∧ K pc' L rest h' cl sl := by
  subst hp
  have F0 := F
  obtain ⟨c', A, r1, r2, r3⟩ := F
  obtain ⟨p, e, s, m, args, below, meth, c, s1, f0, hx, hby, hZ, hown, hml, hnm, hrt, hlk, hK, hO⟩ := C
  obtain ⟨T, locs, X, eT, N, st⟩ := (hK _ _ _ _ _ _).mp H
  obtain ⟨T', h', X', e', W', st'⟩ := stB X hx hZ eT A (inb hj (r1.symm ▸ hi)) (g := mkF m pc L (.int x :: .int j :: .ref a :: rest)) rfl rfl (hb hby d)
  have N' := Fr.snoc X' N g
  rw [toNatClampNeg_of hj] at W'
  exact ⟨h', W', F0.set W', (hK _ _ _ _ _ _).mpr ⟨T', _, X', e', N', fun t k => st t (st' t k)⟩⟩
theorem k_castore (C : Ctx l R n0 Z own bytes ml nm rt Q K O) {a : Addr} {j x : Int32} (H : K pc L (.int x :: .int j :: .ref a :: rest) h cl sl) {n : Nat} {f : Nat → Int32} (F : Ari Z h a .char n f) {i : Nat} (hj : j.toInt = i) (hi : i < n) (g : n0 ≤ a) (d : decode bytes pc = .ok (.castore, 1)) (hp : pc + 1 = pc') : ∃ h', Wr h h' a i (.int (nar .char x)) ∧ Ari Z h' a .char n (fun k => if k = i then nar .char x else f k) ∧ K pc' L rest h' cl sl := by
  subst hp
  have F0 := F
  obtain ⟨c', A, r1, r2, r3⟩ := F
  obtain ⟨p, e, s, m, args, below, meth, c, s1, f0, hx, hby, hZ, hown, hml, hnm, hrt, hlk, hK, hO⟩ := C
  obtain ⟨T, locs, X, eT, N, st⟩ := (hK _ _ _ _ _ _).mp H
  obtain ⟨T', h', X', e', W', st'⟩ := stC X hx hZ eT A (inb hj (r1.symm ▸ hi)) (g := mkF m pc L (.int x :: .int j :: .ref a :: rest)) rfl rfl (hb hby d)
  have N' := Fr.snoc X' N g
  rw [toNatClampNeg_of hj] at W'
  exact ⟨h', W', F0.set W', (hK _ _ _ _ _ _).mpr ⟨T', _, X', e', N', fun t k => st t (st' t k)⟩⟩
end ArrSteps
end Jvm.OwnK
namespace Jvm.Pilot.@@N@@
open Jvm Jvm.ClassFile Sem Op Lib Jvm.Free Jvm.Stand Jvm.LawKit Jvm.RoadKit Bundle Jvm.OwnK Jvm.Pilot.@@N@@.Jvm.D
theorem d1_0 : decode prog_24_method_1_code 0 = .ok (.aload_n 0, 1) := by decide +kernel
theorem d1_1 : decode prog_24_method_1_code 1 = .ok (.invokespecial 1, 3) := by decide +kernel
theorem d1_4 : decode prog_24_method_1_code 4 = .ok (.return_, 1) := by decide +kernel
theorem pl_1 : plainFor (⟨"com/example/partition_handoff/partitionhandoff/OpenSteps", "<init>", "()V"⟩ : MethodName) = true := plainFor_of_name (by first | (simp [plainName, overriddenIn]; done) | decide +kernel)
theorem ef_1 (mm : MethodId) (a1 : Addr) : entryFrame mm #[(.ref a1)] 1 = mkF mm 0 #[.val (.ref a1)] [] := by first | (simp [entryFrame, mkF, argsToLocals, Value.category]; done) | rfl
set_option maxRecDepth 65536 in
set_option maxHeartbeats 40000000 in
theorem rm1 (l : Launch) (Z : State) (a0 : Array Value) (hw : ∀ d ∈ tables_1, d.before a0 Z = true) (a1 : Addr) (h0 : Heap) (n0 : Nat)  :
    Con l (⟨"com/example/partition_handoff/partitionhandoff/OpenSteps", "<init>", "()V"⟩ : MethodName) prog_24_method_1_code 1 none ({ frames := 1, cells := 0, slots := 0, locals := 12 } : Room) Z #[(.ref a1)] h0 n0 (fun o h => o = none ∧ h0 = h) := by
  refine Con.enter pl_1 (fun mm => ef_1 mm a1) ?_
  intro K O C H
  replace H := k_aloadN C H d1_0 rfl rfl (pc' := 1) rfl
  replace H := k_initObj C H (hw _ (List.mem_of_getElem? (i := 6) rfl)) (hw _ (List.mem_of_getElem? (i := 7) rfl)) (hw _ (List.mem_of_getElem? (i := 8) rfl)) d1_1 rfl (by decide) 0 rfl (by decide) (pc' := 4) rfl
  exact k_retV C H d1_4 (by decide) (by decide) ⟨rfl, rfl⟩
theorem d2_0 : decode prog_24_method_2_code 0 = .ok (.aload_n 0, 1) := by decide +kernel
theorem d2_1 : decode prog_24_method_2_code 1 = .ok (.iconst 1, 1) := by decide +kernel
theorem d2_2 : decode prog_24_method_2_code 2 = .ok (.putfield 7, 3) := by decide +kernel
theorem d2_5 : decode prog_24_method_2_code 5 = .ok (.aload_n 0, 1) := by decide +kernel
theorem d2_6 : decode prog_24_method_2_code 6 = .ok (.getfield 13, 3) := by decide +kernel
theorem d2_9 : decode prog_24_method_2_code 9 = .ok (.ifCond .ne 7, 3) := by decide +kernel
theorem d2_12 : decode prog_24_method_2_code 12 = .ok (.iconst 1, 1) := by decide +kernel
theorem d2_13 : decode prog_24_method_2_code 13 = .ok (.goto 4, 3) := by decide +kernel
theorem d2_17 : decode prog_24_method_2_code 17 = .ok (.istore_n 1, 1) := by decide +kernel
theorem d2_18 : decode prog_24_method_2_code 18 = .ok (.iload_n 1, 1) := by decide +kernel
theorem d2_19 : decode prog_24_method_2_code 19 = .ok (.ifCond .ne 8, 3) := by decide +kernel
theorem d2_27 : decode prog_24_method_2_code 27 = .ok (.iload_n 1, 1) := by decide +kernel
theorem d2_28 : decode prog_24_method_2_code 28 = .ok (.ireturn, 1) := by decide +kernel
theorem pl_2 : plainFor (⟨"com/example/partition_handoff/partitionhandoff/OpenSteps", "start", "()Z"⟩ : MethodName) = true := plainFor_of_name (by first | (simp [plainName, overriddenIn]; done) | decide +kernel)
theorem ef_2 (mm : MethodId) (a1 : Addr) : entryFrame mm #[(.ref a1)] 2 = mkF mm 0 #[.val (.ref a1), .unset] [] := by first | (simp [entryFrame, mkF, argsToLocals, Value.category]; done) | rfl
set_option maxRecDepth 65536 in
set_option maxHeartbeats 40000000 in
theorem rm2 (l : Launch) (Z : State) (a0 : Array Value) (hw : ∀ d ∈ tables_1, d.before a0 Z = true) (a1 : Addr) (h0 : Heap) (n0 : Nat) (u : Value) (E : Exa Z h0 a1 "com/example/partition_handoff/partitionhandoff/OpenSteps") (Fs : Fld Z h0 a1 "com/example/partition_handoff/partitionhandoff/OpenSteps" "stepping" "Z" u) (Fc : Fld Z h0 a1 "com/example/partition_handoff/partitionhandoff/OpenSteps" "closed" "Z" (.int (0 : Int32))) (g : n0 ≤ a1) :
    Con l (⟨"com/example/partition_handoff/partitionhandoff/OpenSteps", "start", "()Z"⟩ : MethodName) prog_24_method_2_code 2 (some .boolean) ({ frames := 0, cells := 0, slots := 0, locals := 0 } : Room) Z #[(.ref a1)] h0 n0 (fun o h => o = some (.int 1) ∧ Keep h0 h [a1] ∧ Fld Z h a1 "com/example/partition_handoff/partitionhandoff/OpenSteps" "stepping" "Z" (.int (1 : Int32)) ∧ Fld Z h a1 "com/example/partition_handoff/partitionhandoff/OpenSteps" "closed" "Z" (.int (0 : Int32))) := by
  refine Con.enter pl_2 (fun mm => ef_2 mm a1) ?_
  intro K O C H
  replace H := k_aloadN C H d2_0 rfl rfl (pc' := 1) rfl
  replace H := k_iconst C H (v := 1) d2_1 rfl (pc' := 2) rfl
  obtain ⟨h1, W1, H⟩ := k_putFld C H (hw _ (List.mem_of_getElem? (i := 14) rfl)) Fs E (Or.inl (hw _ (List.mem_of_getElem? (i := 15) rfl))) (hw _ (List.mem_of_getElem? (i := 1) rfl)) (ty := .boolean) (by decide) (v' := (.int (1 : Int32))) rfl rfl g d2_2 (pc' := 5) rfl
  replace Fs := Fs.same W1
  replace Fc := Fc.other W1 (Or.inr (slot_ne (Or.inl (hw _ (List.mem_of_getElem? (i := 17) rfl))) (Or.inl (hw _ (List.mem_of_getElem? (i := 15) rfl))) (by decide) (t := .boolean) (t' := .boolean) (by decide) (by decide)))
  replace H := k_aloadN C H d2_5 rfl rfl (pc' := 6) rfl
  replace H := k_getFld C H (hw _ (List.mem_of_getElem? (i := 16) rfl)) Fc d2_6 (pc' := 9) rfl
  replace H := k_ifcN C H d2_9 (teq (rfl : (0 : Int32) = 0)).2 (pc' := 12) rfl
  replace H := k_iconst C H (v := 1) d2_12 rfl (pc' := 13) rfl
  replace H := k_goto C H d2_13 (by decide) (pc' := 17) rfl
  replace H := k_istoreN C H d2_17 (L' := #[.val (.ref a1), .val (.int (1 : Int32))]) rfl (pc' := 18) rfl
  replace H := k_iloadN C H d2_18 rfl (pc' := 19) rfl
  replace H := k_ifcY C H d2_19 (feq (by decide : ¬ (1 : Int32) = 0)).2 (by decide) (pc' := 27) rfl
  replace H := k_iloadN C H d2_27 rfl (pc' := 28) rfl
  exact k_retZ C H d2_28 (by decide) (by decide) (by decide) ⟨rfl, Keep.of_wr W1, Fs, Fc⟩
theorem d3_0 : decode prog_24_method_2_code 0 = .ok (.aload_n 0, 1) := by decide +kernel
theorem d3_1 : decode prog_24_method_2_code 1 = .ok (.iconst 1, 1) := by decide +kernel
theorem d3_2 : decode prog_24_method_2_code 2 = .ok (.putfield 7, 3) := by decide +kernel
theorem d3_5 : decode prog_24_method_2_code 5 = .ok (.aload_n 0, 1) := by decide +kernel
theorem d3_6 : decode prog_24_method_2_code 6 = .ok (.getfield 13, 3) := by decide +kernel
theorem d3_9 : decode prog_24_method_2_code 9 = .ok (.ifCond .ne 7, 3) := by decide +kernel
theorem d3_16 : decode prog_24_method_2_code 16 = .ok (.iconst 0, 1) := by decide +kernel
theorem d3_17 : decode prog_24_method_2_code 17 = .ok (.istore_n 1, 1) := by decide +kernel
theorem d3_18 : decode prog_24_method_2_code 18 = .ok (.iload_n 1, 1) := by decide +kernel
theorem d3_19 : decode prog_24_method_2_code 19 = .ok (.ifCond .ne 8, 3) := by decide +kernel
theorem d3_22 : decode prog_24_method_2_code 22 = .ok (.aload_n 0, 1) := by decide +kernel
theorem d3_23 : decode prog_24_method_2_code 23 = .ok (.iconst 0, 1) := by decide +kernel
theorem d3_24 : decode prog_24_method_2_code 24 = .ok (.putfield 7, 3) := by decide +kernel
theorem d3_27 : decode prog_24_method_2_code 27 = .ok (.iload_n 1, 1) := by decide +kernel
theorem d3_28 : decode prog_24_method_2_code 28 = .ok (.ireturn, 1) := by decide +kernel
theorem pl_3 : plainFor (⟨"com/example/partition_handoff/partitionhandoff/OpenSteps", "start", "()Z"⟩ : MethodName) = true := plainFor_of_name (by first | (simp [plainName, overriddenIn]; done) | decide +kernel)
theorem ef_3 (mm : MethodId) (a1 : Addr) : entryFrame mm #[(.ref a1)] 2 = mkF mm 0 #[.val (.ref a1), .unset] [] := by first | (simp [entryFrame, mkF, argsToLocals, Value.category]; done) | rfl
set_option maxRecDepth 65536 in
set_option maxHeartbeats 40000000 in
theorem rm3 (l : Launch) (Z : State) (a0 : Array Value) (hw : ∀ d ∈ tables_1, d.before a0 Z = true) (a1 : Addr) (h0 : Heap) (n0 : Nat) (u : Value) (E : Exa Z h0 a1 "com/example/partition_handoff/partitionhandoff/OpenSteps") (Fs : Fld Z h0 a1 "com/example/partition_handoff/partitionhandoff/OpenSteps" "stepping" "Z" u) (Fc : Fld Z h0 a1 "com/example/partition_handoff/partitionhandoff/OpenSteps" "closed" "Z" (.int (1 : Int32))) (g : n0 ≤ a1) :
    Con l (⟨"com/example/partition_handoff/partitionhandoff/OpenSteps", "start", "()Z"⟩ : MethodName) prog_24_method_2_code 2 (some .boolean) ({ frames := 0, cells := 0, slots := 0, locals := 0 } : Room) Z #[(.ref a1)] h0 n0 (fun o h => o = some (.int 0) ∧ Keep h0 h [a1] ∧ Fld Z h a1 "com/example/partition_handoff/partitionhandoff/OpenSteps" "stepping" "Z" (.int (0 : Int32)) ∧ Fld Z h a1 "com/example/partition_handoff/partitionhandoff/OpenSteps" "closed" "Z" (.int (1 : Int32))) := by
  refine Con.enter pl_3 (fun mm => ef_3 mm a1) ?_
  intro K O C H
  replace H := k_aloadN C H d3_0 rfl rfl (pc' := 1) rfl
  replace H := k_iconst C H (v := 1) d3_1 rfl (pc' := 2) rfl
  obtain ⟨h1, W1, H⟩ := k_putFld C H (hw _ (List.mem_of_getElem? (i := 14) rfl)) Fs E (Or.inl (hw _ (List.mem_of_getElem? (i := 15) rfl))) (hw _ (List.mem_of_getElem? (i := 1) rfl)) (ty := .boolean) (by decide) (v' := (.int (1 : Int32))) rfl rfl g d3_2 (pc' := 5) rfl
  replace Fs := Fs.same W1
  replace Fc := Fc.other W1 (Or.inr (slot_ne (Or.inl (hw _ (List.mem_of_getElem? (i := 17) rfl))) (Or.inl (hw _ (List.mem_of_getElem? (i := 15) rfl))) (by decide) (t := .boolean) (t' := .boolean) (by decide) (by decide)))
  replace H := k_aloadN C H d3_5 rfl rfl (pc' := 6) rfl
  replace H := k_getFld C H (hw _ (List.mem_of_getElem? (i := 16) rfl)) Fc d3_6 (pc' := 9) rfl
  replace H := k_ifcY C H d3_9 (feq (by decide : ¬ (1 : Int32) = 0)).2 (by decide) (pc' := 16) rfl
  replace H := k_iconst C H (v := 0) d3_16 rfl (pc' := 17) rfl
  replace H := k_istoreN C H d3_17 (L' := #[.val (.ref a1), .val (.int (0 : Int32))]) rfl (pc' := 18) rfl
  replace H := k_iloadN C H d3_18 rfl (pc' := 19) rfl
  replace H := k_ifcN C H d3_19 (teq (rfl : (0 : Int32) = 0)).2 (pc' := 22) rfl
  replace H := k_aloadN C H d3_22 rfl rfl (pc' := 23) rfl
  replace H := k_iconst C H (v := 0) d3_23 rfl (pc' := 24) rfl
  obtain ⟨h2, W2, H⟩ := k_putFld C H (hw _ (List.mem_of_getElem? (i := 14) rfl)) Fs (E.wr W1) (Or.inl (hw _ (List.mem_of_getElem? (i := 15) rfl))) (hw _ (List.mem_of_getElem? (i := 1) rfl)) (ty := .boolean) (by decide) (v' := (.int (0 : Int32))) rfl rfl g d3_24 (pc' := 27) rfl
  replace Fs := Fs.same W2
  replace Fc := Fc.other W2 (Or.inr (slot_ne (Or.inl (hw _ (List.mem_of_getElem? (i := 17) rfl))) (Or.inl (hw _ (List.mem_of_getElem? (i := 15) rfl))) (by decide) (t := .boolean) (t' := .boolean) (by decide) (by decide)))
  replace H := k_iloadN C H d3_27 rfl (pc' := 28) rfl
  exact k_retZ C H d3_28 (by decide) (by decide) (by decide) ⟨rfl, (Keep.of_wr W1).wr W2 (Or.inl (List.mem_of_getElem? (i := 0) rfl)), Fs, Fc⟩
theorem d4_0 : decode prog_24_method_3_code 0 = .ok (.aload_n 0, 1) := by decide +kernel
theorem d4_1 : decode prog_24_method_3_code 1 = .ok (.iconst 0, 1) := by decide +kernel
theorem d4_2 : decode prog_24_method_3_code 2 = .ok (.putfield 7, 3) := by decide +kernel
theorem d4_5 : decode prog_24_method_3_code 5 = .ok (.return_, 1) := by decide +kernel
theorem pl_4 : plainFor (⟨"com/example/partition_handoff/partitionhandoff/OpenSteps", "end", "()V"⟩ : MethodName) = true := plainFor_of_name (by first | (simp [plainName, overriddenIn]; done) | decide +kernel)
theorem ef_4 (mm : MethodId) (a1 : Addr) : entryFrame mm #[(.ref a1)] 1 = mkF mm 0 #[.val (.ref a1)] [] := by first | (simp [entryFrame, mkF, argsToLocals, Value.category]; done) | rfl
set_option maxRecDepth 65536 in
set_option maxHeartbeats 40000000 in
theorem rm4 (l : Launch) (Z : State) (a0 : Array Value) (hw : ∀ d ∈ tables_1, d.before a0 Z = true) (a1 : Addr) (h0 : Heap) (n0 : Nat) (cv : Value) (u : Value) (E : Exa Z h0 a1 "com/example/partition_handoff/partitionhandoff/OpenSteps") (Fs : Fld Z h0 a1 "com/example/partition_handoff/partitionhandoff/OpenSteps" "stepping" "Z" u) (Fc : Fld Z h0 a1 "com/example/partition_handoff/partitionhandoff/OpenSteps" "closed" "Z" cv) (g : n0 ≤ a1) :
    Con l (⟨"com/example/partition_handoff/partitionhandoff/OpenSteps", "end", "()V"⟩ : MethodName) prog_24_method_3_code 1 none ({ frames := 0, cells := 0, slots := 0, locals := 0 } : Room) Z #[(.ref a1)] h0 n0 (fun o h => o = none ∧ Keep h0 h [a1] ∧ Fld Z h a1 "com/example/partition_handoff/partitionhandoff/OpenSteps" "stepping" "Z" (.int (0 : Int32)) ∧ Fld Z h a1 "com/example/partition_handoff/partitionhandoff/OpenSteps" "closed" "Z" cv) := by
  refine Con.enter pl_4 (fun mm => ef_4 mm a1) ?_
  intro K O C H
  replace H := k_aloadN C H d4_0 rfl rfl (pc' := 1) rfl
  replace H := k_iconst C H (v := 0) d4_1 rfl (pc' := 2) rfl
  obtain ⟨h1, W1, H⟩ := k_putFld C H (hw _ (List.mem_of_getElem? (i := 14) rfl)) Fs E (Or.inl (hw _ (List.mem_of_getElem? (i := 15) rfl))) (hw _ (List.mem_of_getElem? (i := 1) rfl)) (ty := .boolean) (by decide) (v' := (.int (0 : Int32))) rfl rfl g d4_2 (pc' := 5) rfl
  replace Fs := Fs.same W1
  replace Fc := Fc.other W1 (Or.inr (slot_ne (Or.inl (hw _ (List.mem_of_getElem? (i := 17) rfl))) (Or.inl (hw _ (List.mem_of_getElem? (i := 15) rfl))) (by decide) (t := .boolean) (t' := .boolean) (by decide) (by decide)))
  exact k_retV C H d4_5 (by decide) (by decide) ⟨rfl, Keep.of_wr W1, Fs, Fc⟩
theorem d5_0 : decode prog_24_method_4_code 0 = .ok (.aload_n 0, 1) := by decide +kernel
theorem d5_1 : decode prog_24_method_4_code 1 = .ok (.iconst 1, 1) := by decide +kernel
theorem d5_2 : decode prog_24_method_4_code 2 = .ok (.putfield 13, 3) := by decide +kernel
theorem d5_5 : decode prog_24_method_4_code 5 = .ok (.iconst 0, 1) := by decide +kernel
theorem d5_6 : decode prog_24_method_4_code 6 = .ok (.istore_n 1, 1) := by decide +kernel
theorem d5_7 : decode prog_24_method_4_code 7 = .ok (.aload_n 0, 1) := by decide +kernel
theorem d5_8 : decode prog_24_method_4_code 8 = .ok (.getfield 7, 3) := by decide +kernel
theorem d5_11 : decode prog_24_method_4_code 11 = .ok (.ifCond .eq 24, 3) := by decide +kernel
theorem d5_35 : decode prog_24_method_4_code 35 = .ok (.return_, 1) := by decide +kernel
theorem pl_5 : plainFor (⟨"com/example/partition_handoff/partitionhandoff/OpenSteps", "close", "()V"⟩ : MethodName) = true := plainFor_of_name (by first | (simp [plainName, overriddenIn]; done) | decide +kernel)
theorem ef_5 (mm : MethodId) (a1 : Addr) : entryFrame mm #[(.ref a1)] 2 = mkF mm 0 #[.val (.ref a1), .unset] [] := by first | (simp [entryFrame, mkF, argsToLocals, Value.category]; done) | rfl
set_option maxRecDepth 65536 in
set_option maxHeartbeats 40000000 in
theorem rm5 (l : Launch) (Z : State) (a0 : Array Value) (hw : ∀ d ∈ tables_1, d.before a0 Z = true) (a1 : Addr) (h0 : Heap) (n0 : Nat) (u : Value) (E : Exa Z h0 a1 "com/example/partition_handoff/partitionhandoff/OpenSteps") (Fs : Fld Z h0 a1 "com/example/partition_handoff/partitionhandoff/OpenSteps" "stepping" "Z" (.int (0 : Int32))) (Fc : Fld Z h0 a1 "com/example/partition_handoff/partitionhandoff/OpenSteps" "closed" "Z" u) (g : n0 ≤ a1) :
    Con l (⟨"com/example/partition_handoff/partitionhandoff/OpenSteps", "close", "()V"⟩ : MethodName) prog_24_method_4_code 2 none ({ frames := 0, cells := 0, slots := 0, locals := 0 } : Room) Z #[(.ref a1)] h0 n0 (fun o h => o = none ∧ Keep h0 h [a1] ∧ Fld Z h a1 "com/example/partition_handoff/partitionhandoff/OpenSteps" "stepping" "Z" (.int (0 : Int32)) ∧ Fld Z h a1 "com/example/partition_handoff/partitionhandoff/OpenSteps" "closed" "Z" (.int (1 : Int32))) := by
  refine Con.enter pl_5 (fun mm => ef_5 mm a1) ?_
  intro K O C H
  replace H := k_aloadN C H d5_0 rfl rfl (pc' := 1) rfl
  replace H := k_iconst C H (v := 1) d5_1 rfl (pc' := 2) rfl
  obtain ⟨h1, W1, H⟩ := k_putFld C H (hw _ (List.mem_of_getElem? (i := 16) rfl)) Fc E (Or.inl (hw _ (List.mem_of_getElem? (i := 17) rfl))) (hw _ (List.mem_of_getElem? (i := 1) rfl)) (ty := .boolean) (by decide) (v' := (.int (1 : Int32))) rfl rfl g d5_2 (pc' := 5) rfl
  replace Fc := Fc.same W1
  replace Fs := Fs.other W1 (Or.inr (slot_ne (Or.inl (hw _ (List.mem_of_getElem? (i := 15) rfl))) (Or.inl (hw _ (List.mem_of_getElem? (i := 17) rfl))) (by decide) (t := .boolean) (t' := .boolean) (by decide) (by decide)))
  replace H := k_iconst C H (v := 0) d5_5 rfl (pc' := 6) rfl
  replace H := k_istoreN C H d5_6 (L' := #[.val (.ref a1), .val (.int (0 : Int32))]) rfl (pc' := 7) rfl
  replace H := k_aloadN C H d5_7 rfl rfl (pc' := 8) rfl
  replace H := k_getFld C H (hw _ (List.mem_of_getElem? (i := 14) rfl)) Fs d5_8 (pc' := 11) rfl
  replace H := k_ifcY C H d5_11 (teq (rfl : (0 : Int32) = 0)).1 (by decide) (pc' := 35) rfl
  exact k_retV C H d5_35 (by decide) (by decide) ⟨rfl, Keep.of_wr W1, Fs, Fc⟩
theorem pd0_0 : parseMethodDescriptor "()V" = some ⟨[], none⟩ := by decide +kernel
theorem pd0_1 : parseMethodDescriptor "()Z" = some ⟨[], some .boolean⟩ := by decide +kernel
theorem pl_0 : plainFor x = true := plainFor_of_name (by first | (simp [plainName, overriddenIn]; done) | decide +kernel)
theorem ef_0 (mm : MethodId) (x0 : Int32) : entryFrame mm #[(.int x0)] maxLocals = mkF mm 0 #[.val (.int x0), .unset, .unset, .unset, .unset, .unset, .unset, .unset] [] := by first | (simp [entryFrame, mkF, argsToLocals, Value.category, maxLocals]; done) | rfl
set_option maxRecDepth 65536 in
set_option maxHeartbeats 40000000 in
theorem rm0 (l : Launch) (Z : State) (a0 : Array Value) (hw : ∀ d ∈ tables_1, d.before a0 Z = true) (x0 : Int32) (h0 : Heap) (n0 : Nat) (Z0 : n0 ≤ h0.size) :
    Con l x code maxLocals ret room_1 Z #[(.int x0)] h0 n0 (fun o h => o = some (.int 1)) := by
  refine Con.enter pl_0 (fun mm => ef_0 mm x0) ?_
  intro K O C H
  obtain ⟨h1, b, g_b, E_b, X_b, D_b, H⟩ := k_newObj C H (hw _ (List.mem_of_getElem? (i := 0) rfl)) (hw _ (List.mem_of_getElem? (i := 1) rfl)) (hw _ (List.mem_of_getElem? (i := 2) rfl)) at_0 (by decide) (by decide) (pc' := 3) rfl
  replace H : K 3 #[.val (.int x0), .unset, .unset, .unset, .unset, .unset, .unset, .unset] [(.ref b)] h1 1 2 := H
  have Fs : Fld Z h1 b "com/example/partition_handoff/partitionhandoff/OpenSteps" "stepping" "Z" (.int (0 : Int32)) := D_b (Or.inl (hw _ (List.mem_of_getElem? (i := 15) rfl))) (ty := .boolean) (by decide)
  have Fc : Fld Z h1 b "com/example/partition_handoff/partitionhandoff/OpenSteps" "closed" "Z" (.int (0 : Int32)) := D_b (Or.inl (hw _ (List.mem_of_getElem? (i := 17) rfl))) (ty := .boolean) (by decide)
  have gb : n0 ≤ b := Nat.le_trans Z0 (Nat.le_of_eq g_b.symm)
  have X := X_b
  replace H := k_dup C H at_3 rfl (pc' := 4) rfl
  obtain ⟨_, _, ⟨rfl, rfl⟩, H⟩ := k_callCon C H (rm1 l Z a0 hw b h1 n0) rfl (hw _ (List.mem_of_getElem? (i := 3) rfl)) (hw _ (List.mem_of_getElem? (i := 4) rfl)) (hw _ (List.mem_of_getElem? (i := 2) rfl)) (hw _ (List.mem_of_getElem? (i := 5) rfl)) (by decide) at_4 rfl b [] [(.ref b)] pd0_0 rfl rfl rfl 1 rfl (by decide) (by decide) (by decide) (by decide) (pc' := 7) rfl
  replace H : K 7 #[.val (.int x0), .unset, .unset, .unset, .unset, .unset, .unset, .unset] [(.ref b)] h1 1 2 := H
  replace H := k_astoreN C H at_7 (L' := #[.val (.int x0), .val (.ref b), .unset, .unset, .unset, .unset, .unset, .unset]) rfl rfl (pc' := 8) rfl
  replace H := k_iconst C H (v := 1) at_8 rfl (pc' := 9) rfl
  replace H := k_istoreN C H at_9 (L' := #[.val (.int x0), .val (.ref b), .val (.int (1 : Int32)), .unset, .unset, .unset, .unset, .unset]) rfl (pc' := 10) rfl
  obtain ⟨tw, e_tw, H⟩ : ∃ tw : Int32, tw = (if (x0 &&& (1 : Int32)) = (0 : Int32) then (0 : Int32) else (1 : Int32)) ∧ K 21 #[.val (.int x0), .val (.ref b), .val (.int (1 : Int32)), .unset, .unset, .unset, .unset, .unset] [(.int tw)] h1 1 2 := by
    replace H := k_iloadN C H at_10 rfl (pc' := 11) rfl
    replace H := k_iconst C H (v := 1) at_11 rfl (pc' := 12) rfl
    replace H := k_iand C H at_12 (pc' := 13) rfl
    by_cases hc13 : (x0 &&& (1 : Int32)) = (0 : Int32)
    · replace H := k_ifcY C H at_13 (teq hc13).1 (by decide) (pc' := 20) rfl
      replace H := k_iconst C H (v := 0) at_20 rfl (pc' := 21) rfl
      exact ⟨(0 : Int32), by rw [if_pos hc13], H⟩
    · replace H := k_ifcN C H at_13 (feq hc13).1 (pc' := 16) rfl
      replace H := k_iconst C H (v := 1) at_16 rfl (pc' := 17) rfl
      replace H := k_goto C H at_17 (by decide) (pc' := 21) rfl
      exact ⟨(1 : Int32), by rw [if_neg hc13], H⟩
  replace H := k_istoreN C H at_21 (L' := #[.val (.int x0), .val (.ref b), .val (.int (1 : Int32)), .val (.int tw), .unset, .unset, .unset, .unset]) rfl (pc' := 22) rfl
  obtain ⟨cf, e_cf, H⟩ : ∃ cf : Int32, cf = (if (x0 &&& (2 : Int32)) = (0 : Int32) then (0 : Int32) else (1 : Int32)) ∧ K 33 #[.val (.int x0), .val (.ref b), .val (.int (1 : Int32)), .val (.int tw), .unset, .unset, .unset, .unset] [(.int cf)] h1 1 2 := by
    replace H := k_iloadN C H at_22 rfl (pc' := 23) rfl
    replace H := k_iconst C H (v := 2) at_23 rfl (pc' := 24) rfl
    replace H := k_iand C H at_24 (pc' := 25) rfl
    by_cases hc25 : (x0 &&& (2 : Int32)) = (0 : Int32)
    · replace H := k_ifcY C H at_25 (teq hc25).1 (by decide) (pc' := 32) rfl
      replace H := k_iconst C H (v := 0) at_32 rfl (pc' := 33) rfl
      exact ⟨(0 : Int32), by rw [if_pos hc25], H⟩
    · replace H := k_ifcN C H at_25 (feq hc25).1 (pc' := 28) rfl
      replace H := k_iconst C H (v := 1) at_28 rfl (pc' := 29) rfl
      replace H := k_goto C H at_29 (by decide) (pc' := 33) rfl
      exact ⟨(1 : Int32), by rw [if_neg hc25], H⟩
  replace H := k_istore C H at_33 (L' := #[.val (.int x0), .val (.ref b), .val (.int (1 : Int32)), .val (.int tw), .val (.int cf), .unset, .unset, .unset]) rfl (pc' := 35) rfl
  obtain ⟨ca, e_ca, H⟩ : ∃ ca : Int32, ca = (if (x0 &&& (4 : Int32)) = (0 : Int32) then (0 : Int32) else (1 : Int32)) ∧ K 46 #[.val (.int x0), .val (.ref b), .val (.int (1 : Int32)), .val (.int tw), .val (.int cf), .unset, .unset, .unset] [(.int ca)] h1 1 2 := by
    replace H := k_iloadN C H at_35 rfl (pc' := 36) rfl
    replace H := k_iconst C H (v := 4) at_36 rfl (pc' := 37) rfl
    replace H := k_iand C H at_37 (pc' := 38) rfl
    by_cases hc38 : (x0 &&& (4 : Int32)) = (0 : Int32)
    · replace H := k_ifcY C H at_38 (teq hc38).1 (by decide) (pc' := 45) rfl
      replace H := k_iconst C H (v := 0) at_45 rfl (pc' := 46) rfl
      exact ⟨(0 : Int32), by rw [if_pos hc38], H⟩
    · replace H := k_ifcN C H at_38 (feq hc38).1 (pc' := 41) rfl
      replace H := k_iconst C H (v := 1) at_41 rfl (pc' := 42) rfl
      replace H := k_goto C H at_42 (by decide) (pc' := 46) rfl
      exact ⟨(1 : Int32), by rw [if_neg hc38], H⟩
  replace H := k_istore C H at_46 (L' := #[.val (.int x0), .val (.ref b), .val (.int (1 : Int32)), .val (.int tw), .val (.int cf), .val (.int ca), .unset, .unset]) rfl (pc' := 48) rfl
  replace H := k_iload C H at_48 rfl (pc' := 50) rfl
  by_cases hz_cf : cf = (0 : Int32)
  · replace H := k_ifcN C H at_50 (teq hz_cf).2 (pc' := 53) rfl
    replace H := k_aloadN C H at_53 rfl rfl (pc' := 54) rfl
    obtain ⟨_, g1, ⟨rfl, K', Fs', Fc'⟩, H⟩ := k_callVir C H (rm2 l Z a0 hw b h1 n0 _ X Fs Fc gb) X (hw _ (List.mem_of_getElem? (i := 9) rfl)) (hw _ (List.mem_of_getElem? (i := 10) rfl)) (hw _ (List.mem_of_getElem? (i := 12) rfl)) (hw _ (List.mem_of_getElem? (i := 11) rfl)) (hw _ (List.mem_of_getElem? (i := 2) rfl)) (hw _ (List.mem_of_getElem? (i := 13) rfl)) (by decide) at_54 rfl [] [] pd0_1 rfl rfl rfl 0 rfl (by decide) (by decide) (by decide) (by decide) (pc' := 57) rfl
    replace H : K 57 #[.val (.int x0), .val (.ref b), .val (.int (1 : Int32)), .val (.int tw), .val (.int cf), .val (.int ca), .unset, .unset] [(.int (1 : Int32))] g1 1 2 := H
    replace X := X.keep K'
    replace Fs := Fs'
    replace Fc := Fc'
    clear K' Fs' Fc'
    replace H := k_istore C H at_57 (L' := #[.val (.int x0), .val (.ref b), .val (.int (1 : Int32)), .val (.int tw), .val (.int cf), .val (.int ca), .val (.int (1 : Int32)), .unset]) rfl (pc' := 59) rfl
    replace H := k_iloadN C H at_59 rfl (pc' := 60) rfl
    replace H := k_ifcN C H at_60 (feq (by decide : ¬ (1 : Int32) = 0)).1 (pc' := 63) rfl
    replace H := k_iload C H at_63 rfl (pc' := 65) rfl
    replace H := k_ifcN C H at_65 (feq (by decide : ¬ (1 : Int32) = 0)).1 (pc' := 68) rfl
    replace H := k_iconst C H (v := 1) at_68 rfl (pc' := 69) rfl
    replace H := k_goto C H at_69 (by decide) (pc' := 73) rfl
    replace H := k_istoreN C H at_73 (L' := #[.val (.int x0), .val (.ref b), .val (.int (1 : Int32)), .val (.int tw), .val (.int cf), .val (.int ca), .val (.int (1 : Int32)), .unset]) rfl (pc' := 74) rfl
    replace H := k_aloadN C H at_74 rfl rfl (pc' := 75) rfl
    obtain ⟨_, g2, ⟨rfl, K', Fs', Fc'⟩, H⟩ := k_callVir C H (rm4 l Z a0 hw b g1 n0 _ _ X Fs Fc gb) X (hw _ (List.mem_of_getElem? (i := 18) rfl)) (hw _ (List.mem_of_getElem? (i := 19) rfl)) (hw _ (List.mem_of_getElem? (i := 21) rfl)) (hw _ (List.mem_of_getElem? (i := 20) rfl)) (hw _ (List.mem_of_getElem? (i := 2) rfl)) (hw _ (List.mem_of_getElem? (i := 22) rfl)) (by decide) at_75 rfl [] [] pd0_0 rfl rfl rfl 0 rfl (by decide) (by decide) (by decide) (by decide) (pc' := 78) rfl
    replace H : K 78 #[.val (.int x0), .val (.ref b), .val (.int (1 : Int32)), .val (.int tw), .val (.int cf), .val (.int ca), .val (.int (1 : Int32)), .unset] [] g2 1 2 := H
    replace X := X.keep K'
    replace Fs := Fs'
    replace Fc := Fc'
    clear K' Fs' Fc'
    replace H := k_iloadN C H at_78 rfl (pc' := 79) rfl
    by_cases hz_tw : tw = (0 : Int32)
    · replace H := k_ifcY C H at_79 (teq hz_tw).1 (by decide) (pc' := 107) rfl
      replace H := k_aloadN C H at_107 rfl rfl (pc' := 108) rfl
      obtain ⟨_, g3, ⟨rfl, K', Fs', Fc'⟩, H⟩ := k_callVir C H (rm5 l Z a0 hw b g2 n0 _ X Fs Fc gb) X (hw _ (List.mem_of_getElem? (i := 23) rfl)) (hw _ (List.mem_of_getElem? (i := 24) rfl)) (hw _ (List.mem_of_getElem? (i := 26) rfl)) (hw _ (List.mem_of_getElem? (i := 25) rfl)) (hw _ (List.mem_of_getElem? (i := 2) rfl)) (hw _ (List.mem_of_getElem? (i := 27) rfl)) (by decide) at_108 rfl [] [] pd0_0 rfl rfl rfl 0 rfl (by decide) (by decide) (by decide) (by decide) (pc' := 111) rfl
      replace H : K 111 #[.val (.int x0), .val (.ref b), .val (.int (1 : Int32)), .val (.int tw), .val (.int cf), .val (.int ca), .val (.int (1 : Int32)), .unset] [] g3 1 2 := H
      replace X := X.keep K'
      replace Fs := Fs'
      replace Fc := Fc'
      clear K' Fs' Fc'
      replace H := k_aloadN C H at_111 rfl rfl (pc' := 112) rfl
      obtain ⟨_, g4, ⟨rfl, K', Fs', Fc'⟩, H⟩ := k_callVir C H (rm3 l Z a0 hw b g3 n0 _ X Fs Fc gb) X (hw _ (List.mem_of_getElem? (i := 9) rfl)) (hw _ (List.mem_of_getElem? (i := 10) rfl)) (hw _ (List.mem_of_getElem? (i := 12) rfl)) (hw _ (List.mem_of_getElem? (i := 11) rfl)) (hw _ (List.mem_of_getElem? (i := 2) rfl)) (hw _ (List.mem_of_getElem? (i := 13) rfl)) (by decide) at_112 rfl [] [] pd0_1 rfl rfl rfl 0 rfl (by decide) (by decide) (by decide) (by decide) (pc' := 115) rfl
      replace H : K 115 #[.val (.int x0), .val (.ref b), .val (.int (1 : Int32)), .val (.int tw), .val (.int cf), .val (.int ca), .val (.int (1 : Int32)), .unset] [(.int (0 : Int32))] g4 1 2 := H
      replace X := X.keep K'
      replace Fs := Fs'
      replace Fc := Fc'
      clear K' Fs' Fc'
      replace H := k_istore C H at_115 (L' := #[.val (.int x0), .val (.ref b), .val (.int (1 : Int32)), .val (.int tw), .val (.int cf), .val (.int ca), .val (.int (0 : Int32)), .unset]) rfl (pc' := 117) rfl
      replace H := k_iloadN C H at_117 rfl (pc' := 118) rfl
      replace H := k_ifcN C H at_118 (feq (by decide : ¬ (1 : Int32) = 0)).1 (pc' := 121) rfl
      replace H := k_iload C H at_121 rfl (pc' := 123) rfl
      replace H := k_ifcN C H at_123 (teq (rfl : (0 : Int32) = 0)).2 (pc' := 126) rfl
      replace H := k_iconst C H (v := 1) at_126 rfl (pc' := 127) rfl
      replace H := k_goto C H at_127 (by decide) (pc' := 131) rfl
      replace H := k_istoreN C H at_131 (L' := #[.val (.int x0), .val (.ref b), .val (.int (1 : Int32)), .val (.int tw), .val (.int cf), .val (.int ca), .val (.int (0 : Int32)), .unset]) rfl (pc' := 132) rfl
      replace H := k_iloadN C H at_132 rfl (pc' := 133) rfl
      replace H := k_ifcY C H at_133 (teq hz_tw).1 (by decide) (pc' := 157) rfl
      replace H := k_aloadN C H at_157 rfl rfl (pc' := 158) rfl
      obtain ⟨_, g5, ⟨rfl, K', Fs', Fc'⟩, H⟩ := k_callVir C H (rm5 l Z a0 hw b g4 n0 _ X Fs Fc gb) X (hw _ (List.mem_of_getElem? (i := 23) rfl)) (hw _ (List.mem_of_getElem? (i := 24) rfl)) (hw _ (List.mem_of_getElem? (i := 26) rfl)) (hw _ (List.mem_of_getElem? (i := 25) rfl)) (hw _ (List.mem_of_getElem? (i := 2) rfl)) (hw _ (List.mem_of_getElem? (i := 27) rfl)) (by decide) at_158 rfl [] [] pd0_0 rfl rfl rfl 0 rfl (by decide) (by decide) (by decide) (by decide) (pc' := 161) rfl
      replace H : K 161 #[.val (.int x0), .val (.ref b), .val (.int (1 : Int32)), .val (.int tw), .val (.int cf), .val (.int ca), .val (.int (0 : Int32)), .unset] [] g5 1 2 := H
      replace X := X.keep K'
      replace Fs := Fs'
      replace Fc := Fc'
      clear K' Fs' Fc'
      replace H := k_iload C H at_161 rfl (pc' := 163) rfl
      by_cases hz_ca : ca = (0 : Int32)
      · replace H := k_ifcY C H at_163 (teq hz_ca).1 (by decide) (pc' := 191) rfl
        replace H := k_iloadN C H at_191 rfl (pc' := 192) rfl
        exact k_retZ C H at_192 (by decide) (by decide) (by decide) rfl
      · replace H := k_ifcN C H at_163 (feq hz_ca).1 (pc' := 166) rfl
        replace H := k_aloadN C H at_166 rfl rfl (pc' := 167) rfl
        obtain ⟨_, g6, ⟨rfl, K', Fs', Fc'⟩, H⟩ := k_callVir C H (rm5 l Z a0 hw b g5 n0 _ X Fs Fc gb) X (hw _ (List.mem_of_getElem? (i := 23) rfl)) (hw _ (List.mem_of_getElem? (i := 24) rfl)) (hw _ (List.mem_of_getElem? (i := 26) rfl)) (hw _ (List.mem_of_getElem? (i := 25) rfl)) (hw _ (List.mem_of_getElem? (i := 2) rfl)) (hw _ (List.mem_of_getElem? (i := 27) rfl)) (by decide) at_167 rfl [] [] pd0_0 rfl rfl rfl 0 rfl (by decide) (by decide) (by decide) (by decide) (pc' := 170) rfl
        replace H : K 170 #[.val (.int x0), .val (.ref b), .val (.int (1 : Int32)), .val (.int tw), .val (.int cf), .val (.int ca), .val (.int (0 : Int32)), .unset] [] g6 1 2 := H
        replace X := X.keep K'
        replace Fs := Fs'
        replace Fc := Fc'
        clear K' Fs' Fc'
        replace H := k_aloadN C H at_170 rfl rfl (pc' := 171) rfl
        obtain ⟨_, g7, ⟨rfl, K', Fs', Fc'⟩, H⟩ := k_callVir C H (rm3 l Z a0 hw b g6 n0 _ X Fs Fc gb) X (hw _ (List.mem_of_getElem? (i := 9) rfl)) (hw _ (List.mem_of_getElem? (i := 10) rfl)) (hw _ (List.mem_of_getElem? (i := 12) rfl)) (hw _ (List.mem_of_getElem? (i := 11) rfl)) (hw _ (List.mem_of_getElem? (i := 2) rfl)) (hw _ (List.mem_of_getElem? (i := 13) rfl)) (by decide) at_171 rfl [] [] pd0_1 rfl rfl rfl 0 rfl (by decide) (by decide) (by decide) (by decide) (pc' := 174) rfl
        replace H : K 174 #[.val (.int x0), .val (.ref b), .val (.int (1 : Int32)), .val (.int tw), .val (.int cf), .val (.int ca), .val (.int (0 : Int32)), .unset] [(.int (0 : Int32))] g7 1 2 := H
        replace X := X.keep K'
        replace Fs := Fs'
        replace Fc := Fc'
        clear K' Fs' Fc'
        replace H := k_istore C H at_174 (L' := #[.val (.int x0), .val (.ref b), .val (.int (1 : Int32)), .val (.int tw), .val (.int cf), .val (.int ca), .val (.int (0 : Int32)), .val (.int (0 : Int32))]) rfl (pc' := 176) rfl
        replace H := k_iloadN C H at_176 rfl (pc' := 177) rfl
        replace H := k_ifcN C H at_177 (feq (by decide : ¬ (1 : Int32) = 0)).1 (pc' := 180) rfl
        replace H := k_iload C H at_180 rfl (pc' := 182) rfl
        replace H := k_ifcN C H at_182 (teq (rfl : (0 : Int32) = 0)).2 (pc' := 185) rfl
        replace H := k_iconst C H (v := 1) at_185 rfl (pc' := 186) rfl
        replace H := k_goto C H at_186 (by decide) (pc' := 190) rfl
        replace H := k_istoreN C H at_190 (L' := #[.val (.int x0), .val (.ref b), .val (.int (1 : Int32)), .val (.int tw), .val (.int cf), .val (.int ca), .val (.int (0 : Int32)), .val (.int (0 : Int32))]) rfl (pc' := 191) rfl
        replace H := k_iloadN C H at_191 rfl (pc' := 192) rfl
        exact k_retZ C H at_192 (by decide) (by decide) (by decide) rfl
    · replace H := k_ifcN C H at_79 (feq hz_tw).1 (pc' := 82) rfl
      replace H := k_aloadN C H at_82 rfl rfl (pc' := 83) rfl
      obtain ⟨_, g8, ⟨rfl, K', Fs', Fc'⟩, H⟩ := k_callVir C H (rm2 l Z a0 hw b g2 n0 _ X Fs Fc gb) X (hw _ (List.mem_of_getElem? (i := 9) rfl)) (hw _ (List.mem_of_getElem? (i := 10) rfl)) (hw _ (List.mem_of_getElem? (i := 12) rfl)) (hw _ (List.mem_of_getElem? (i := 11) rfl)) (hw _ (List.mem_of_getElem? (i := 2) rfl)) (hw _ (List.mem_of_getElem? (i := 13) rfl)) (by decide) at_83 rfl [] [] pd0_1 rfl rfl rfl 0 rfl (by decide) (by decide) (by decide) (by decide) (pc' := 86) rfl
      replace H : K 86 #[.val (.int x0), .val (.ref b), .val (.int (1 : Int32)), .val (.int tw), .val (.int cf), .val (.int ca), .val (.int (1 : Int32)), .unset] [(.int (1 : Int32))] g8 1 2 := H
      replace X := X.keep K'
      replace Fs := Fs'
      replace Fc := Fc'
      clear K' Fs' Fc'
      replace H := k_istore C H at_86 (L' := #[.val (.int x0), .val (.ref b), .val (.int (1 : Int32)), .val (.int tw), .val (.int cf), .val (.int ca), .val (.int (1 : Int32)), .val (.int (1 : Int32))]) rfl (pc' := 88) rfl
      replace H := k_iloadN C H at_88 rfl (pc' := 89) rfl
      replace H := k_ifcN C H at_89 (feq (by decide : ¬ (1 : Int32) = 0)).1 (pc' := 92) rfl
      replace H := k_iload C H at_92 rfl (pc' := 94) rfl
      replace H := k_ifcN C H at_94 (feq (by decide : ¬ (1 : Int32) = 0)).1 (pc' := 97) rfl
      replace H := k_iconst C H (v := 1) at_97 rfl (pc' := 98) rfl
      replace H := k_goto C H at_98 (by decide) (pc' := 102) rfl
      replace H := k_istoreN C H at_102 (L' := #[.val (.int x0), .val (.ref b), .val (.int (1 : Int32)), .val (.int tw), .val (.int cf), .val (.int ca), .val (.int (1 : Int32)), .val (.int (1 : Int32))]) rfl (pc' := 103) rfl
      replace H := k_aloadN C H at_103 rfl rfl (pc' := 104) rfl
      obtain ⟨_, g9, ⟨rfl, K', Fs', Fc'⟩, H⟩ := k_callVir C H (rm4 l Z a0 hw b g8 n0 _ _ X Fs Fc gb) X (hw _ (List.mem_of_getElem? (i := 18) rfl)) (hw _ (List.mem_of_getElem? (i := 19) rfl)) (hw _ (List.mem_of_getElem? (i := 21) rfl)) (hw _ (List.mem_of_getElem? (i := 20) rfl)) (hw _ (List.mem_of_getElem? (i := 2) rfl)) (hw _ (List.mem_of_getElem? (i := 22) rfl)) (by decide) at_104 rfl [] [] pd0_0 rfl rfl rfl 0 rfl (by decide) (by decide) (by decide) (by decide) (pc' := 107) rfl
      replace H : K 107 #[.val (.int x0), .val (.ref b), .val (.int (1 : Int32)), .val (.int tw), .val (.int cf), .val (.int ca), .val (.int (1 : Int32)), .val (.int (1 : Int32))] [] g9 1 2 := H
      replace X := X.keep K'
      replace Fs := Fs'
      replace Fc := Fc'
      clear K' Fs' Fc'
      replace H := k_aloadN C H at_107 rfl rfl (pc' := 108) rfl
      obtain ⟨_, g10, ⟨rfl, K', Fs', Fc'⟩, H⟩ := k_callVir C H (rm5 l Z a0 hw b g9 n0 _ X Fs Fc gb) X (hw _ (List.mem_of_getElem? (i := 23) rfl)) (hw _ (List.mem_of_getElem? (i := 24) rfl)) (hw _ (List.mem_of_getElem? (i := 26) rfl)) (hw _ (List.mem_of_getElem? (i := 25) rfl)) (hw _ (List.mem_of_getElem? (i := 2) rfl)) (hw _ (List.mem_of_getElem? (i := 27) rfl)) (by decide) at_108 rfl [] [] pd0_0 rfl rfl rfl 0 rfl (by decide) (by decide) (by decide) (by decide) (pc' := 111) rfl
      replace H : K 111 #[.val (.int x0), .val (.ref b), .val (.int (1 : Int32)), .val (.int tw), .val (.int cf), .val (.int ca), .val (.int (1 : Int32)), .val (.int (1 : Int32))] [] g10 1 2 := H
      replace X := X.keep K'
      replace Fs := Fs'
      replace Fc := Fc'
      clear K' Fs' Fc'
      replace H := k_aloadN C H at_111 rfl rfl (pc' := 112) rfl
      obtain ⟨_, g11, ⟨rfl, K', Fs', Fc'⟩, H⟩ := k_callVir C H (rm3 l Z a0 hw b g10 n0 _ X Fs Fc gb) X (hw _ (List.mem_of_getElem? (i := 9) rfl)) (hw _ (List.mem_of_getElem? (i := 10) rfl)) (hw _ (List.mem_of_getElem? (i := 12) rfl)) (hw _ (List.mem_of_getElem? (i := 11) rfl)) (hw _ (List.mem_of_getElem? (i := 2) rfl)) (hw _ (List.mem_of_getElem? (i := 13) rfl)) (by decide) at_112 rfl [] [] pd0_1 rfl rfl rfl 0 rfl (by decide) (by decide) (by decide) (by decide) (pc' := 115) rfl
      replace H : K 115 #[.val (.int x0), .val (.ref b), .val (.int (1 : Int32)), .val (.int tw), .val (.int cf), .val (.int ca), .val (.int (1 : Int32)), .val (.int (1 : Int32))] [(.int (0 : Int32))] g11 1 2 := H
      replace X := X.keep K'
      replace Fs := Fs'
      replace Fc := Fc'
      clear K' Fs' Fc'
      replace H := k_istore C H at_115 (L' := #[.val (.int x0), .val (.ref b), .val (.int (1 : Int32)), .val (.int tw), .val (.int cf), .val (.int ca), .val (.int (0 : Int32)), .val (.int (1 : Int32))]) rfl (pc' := 117) rfl
      replace H := k_iloadN C H at_117 rfl (pc' := 118) rfl
      replace H := k_ifcN C H at_118 (feq (by decide : ¬ (1 : Int32) = 0)).1 (pc' := 121) rfl
      replace H := k_iload C H at_121 rfl (pc' := 123) rfl
      replace H := k_ifcN C H at_123 (teq (rfl : (0 : Int32) = 0)).2 (pc' := 126) rfl
      replace H := k_iconst C H (v := 1) at_126 rfl (pc' := 127) rfl
      replace H := k_goto C H at_127 (by decide) (pc' := 131) rfl
      replace H := k_istoreN C H at_131 (L' := #[.val (.int x0), .val (.ref b), .val (.int (1 : Int32)), .val (.int tw), .val (.int cf), .val (.int ca), .val (.int (0 : Int32)), .val (.int (1 : Int32))]) rfl (pc' := 132) rfl
      replace H := k_iloadN C H at_132 rfl (pc' := 133) rfl
      replace H := k_ifcN C H at_133 (feq hz_tw).1 (pc' := 136) rfl
      replace H := k_aloadN C H at_136 rfl rfl (pc' := 137) rfl
      obtain ⟨_, g12, ⟨rfl, K', Fs', Fc'⟩, H⟩ := k_callVir C H (rm3 l Z a0 hw b g11 n0 _ X Fs Fc gb) X (hw _ (List.mem_of_getElem? (i := 9) rfl)) (hw _ (List.mem_of_getElem? (i := 10) rfl)) (hw _ (List.mem_of_getElem? (i := 12) rfl)) (hw _ (List.mem_of_getElem? (i := 11) rfl)) (hw _ (List.mem_of_getElem? (i := 2) rfl)) (hw _ (List.mem_of_getElem? (i := 13) rfl)) (by decide) at_137 rfl [] [] pd0_1 rfl rfl rfl 0 rfl (by decide) (by decide) (by decide) (by decide) (pc' := 140) rfl
      replace H : K 140 #[.val (.int x0), .val (.ref b), .val (.int (1 : Int32)), .val (.int tw), .val (.int cf), .val (.int ca), .val (.int (0 : Int32)), .val (.int (1 : Int32))] [(.int (0 : Int32))] g12 1 2 := H
      replace X := X.keep K'
      replace Fs := Fs'
      replace Fc := Fc'
      clear K' Fs' Fc'
      replace H := k_istore C H at_140 (L' := #[.val (.int x0), .val (.ref b), .val (.int (1 : Int32)), .val (.int tw), .val (.int cf), .val (.int ca), .val (.int (0 : Int32)), .val (.int (0 : Int32))]) rfl (pc' := 142) rfl
      replace H := k_iloadN C H at_142 rfl (pc' := 143) rfl
      replace H := k_ifcN C H at_143 (feq (by decide : ¬ (1 : Int32) = 0)).1 (pc' := 146) rfl
      replace H := k_iload C H at_146 rfl (pc' := 148) rfl
      replace H := k_ifcN C H at_148 (teq (rfl : (0 : Int32) = 0)).2 (pc' := 151) rfl
      replace H := k_iconst C H (v := 1) at_151 rfl (pc' := 152) rfl
      replace H := k_goto C H at_152 (by decide) (pc' := 156) rfl
      replace H := k_istoreN C H at_156 (L' := #[.val (.int x0), .val (.ref b), .val (.int (1 : Int32)), .val (.int tw), .val (.int cf), .val (.int ca), .val (.int (0 : Int32)), .val (.int (0 : Int32))]) rfl (pc' := 157) rfl
      replace H := k_aloadN C H at_157 rfl rfl (pc' := 158) rfl
      obtain ⟨_, g13, ⟨rfl, K', Fs', Fc'⟩, H⟩ := k_callVir C H (rm5 l Z a0 hw b g12 n0 _ X Fs Fc gb) X (hw _ (List.mem_of_getElem? (i := 23) rfl)) (hw _ (List.mem_of_getElem? (i := 24) rfl)) (hw _ (List.mem_of_getElem? (i := 26) rfl)) (hw _ (List.mem_of_getElem? (i := 25) rfl)) (hw _ (List.mem_of_getElem? (i := 2) rfl)) (hw _ (List.mem_of_getElem? (i := 27) rfl)) (by decide) at_158 rfl [] [] pd0_0 rfl rfl rfl 0 rfl (by decide) (by decide) (by decide) (by decide) (pc' := 161) rfl
      replace H : K 161 #[.val (.int x0), .val (.ref b), .val (.int (1 : Int32)), .val (.int tw), .val (.int cf), .val (.int ca), .val (.int (0 : Int32)), .val (.int (0 : Int32))] [] g13 1 2 := H
      replace X := X.keep K'
      replace Fs := Fs'
      replace Fc := Fc'
      clear K' Fs' Fc'
      replace H := k_iload C H at_161 rfl (pc' := 163) rfl
      by_cases hz_ca : ca = (0 : Int32)
      · replace H := k_ifcY C H at_163 (teq hz_ca).1 (by decide) (pc' := 191) rfl
        replace H := k_iloadN C H at_191 rfl (pc' := 192) rfl
        exact k_retZ C H at_192 (by decide) (by decide) (by decide) rfl
      · replace H := k_ifcN C H at_163 (feq hz_ca).1 (pc' := 166) rfl
        replace H := k_aloadN C H at_166 rfl rfl (pc' := 167) rfl
        obtain ⟨_, g14, ⟨rfl, K', Fs', Fc'⟩, H⟩ := k_callVir C H (rm5 l Z a0 hw b g13 n0 _ X Fs Fc gb) X (hw _ (List.mem_of_getElem? (i := 23) rfl)) (hw _ (List.mem_of_getElem? (i := 24) rfl)) (hw _ (List.mem_of_getElem? (i := 26) rfl)) (hw _ (List.mem_of_getElem? (i := 25) rfl)) (hw _ (List.mem_of_getElem? (i := 2) rfl)) (hw _ (List.mem_of_getElem? (i := 27) rfl)) (by decide) at_167 rfl [] [] pd0_0 rfl rfl rfl 0 rfl (by decide) (by decide) (by decide) (by decide) (pc' := 170) rfl
        replace H : K 170 #[.val (.int x0), .val (.ref b), .val (.int (1 : Int32)), .val (.int tw), .val (.int cf), .val (.int ca), .val (.int (0 : Int32)), .val (.int (0 : Int32))] [] g14 1 2 := H
        replace X := X.keep K'
        replace Fs := Fs'
        replace Fc := Fc'
        clear K' Fs' Fc'
        replace H := k_aloadN C H at_170 rfl rfl (pc' := 171) rfl
        obtain ⟨_, g15, ⟨rfl, K', Fs', Fc'⟩, H⟩ := k_callVir C H (rm3 l Z a0 hw b g14 n0 _ X Fs Fc gb) X (hw _ (List.mem_of_getElem? (i := 9) rfl)) (hw _ (List.mem_of_getElem? (i := 10) rfl)) (hw _ (List.mem_of_getElem? (i := 12) rfl)) (hw _ (List.mem_of_getElem? (i := 11) rfl)) (hw _ (List.mem_of_getElem? (i := 2) rfl)) (hw _ (List.mem_of_getElem? (i := 13) rfl)) (by decide) at_171 rfl [] [] pd0_1 rfl rfl rfl 0 rfl (by decide) (by decide) (by decide) (by decide) (pc' := 174) rfl
        replace H : K 174 #[.val (.int x0), .val (.ref b), .val (.int (1 : Int32)), .val (.int tw), .val (.int cf), .val (.int ca), .val (.int (0 : Int32)), .val (.int (0 : Int32))] [(.int (0 : Int32))] g15 1 2 := H
        replace X := X.keep K'
        replace Fs := Fs'
        replace Fc := Fc'
        clear K' Fs' Fc'
        replace H := k_istore C H at_174 (L' := #[.val (.int x0), .val (.ref b), .val (.int (1 : Int32)), .val (.int tw), .val (.int cf), .val (.int ca), .val (.int (0 : Int32)), .val (.int (0 : Int32))]) rfl (pc' := 176) rfl
        replace H := k_iloadN C H at_176 rfl (pc' := 177) rfl
        replace H := k_ifcN C H at_177 (feq (by decide : ¬ (1 : Int32) = 0)).1 (pc' := 180) rfl
        replace H := k_iload C H at_180 rfl (pc' := 182) rfl
        replace H := k_ifcN C H at_182 (teq (rfl : (0 : Int32) = 0)).2 (pc' := 185) rfl
        replace H := k_iconst C H (v := 1) at_185 rfl (pc' := 186) rfl
        replace H := k_goto C H at_186 (by decide) (pc' := 190) rfl
        replace H := k_istoreN C H at_190 (L' := #[.val (.int x0), .val (.ref b), .val (.int (1 : Int32)), .val (.int tw), .val (.int cf), .val (.int ca), .val (.int (0 : Int32)), .val (.int (0 : Int32))]) rfl (pc' := 191) rfl
        replace H := k_iloadN C H at_191 rfl (pc' := 192) rfl
        exact k_retZ C H at_192 (by decide) (by decide) (by decide) rfl
  · replace H := k_ifcY C H at_50 (feq hz_cf).2 (by decide) (pc' := 107) rfl
    replace H := k_aloadN C H at_107 rfl rfl (pc' := 108) rfl
    obtain ⟨_, g16, ⟨rfl, K', Fs', Fc'⟩, H⟩ := k_callVir C H (rm5 l Z a0 hw b h1 n0 _ X Fs Fc gb) X (hw _ (List.mem_of_getElem? (i := 23) rfl)) (hw _ (List.mem_of_getElem? (i := 24) rfl)) (hw _ (List.mem_of_getElem? (i := 26) rfl)) (hw _ (List.mem_of_getElem? (i := 25) rfl)) (hw _ (List.mem_of_getElem? (i := 2) rfl)) (hw _ (List.mem_of_getElem? (i := 27) rfl)) (by decide) at_108 rfl [] [] pd0_0 rfl rfl rfl 0 rfl (by decide) (by decide) (by decide) (by decide) (pc' := 111) rfl
    replace H : K 111 #[.val (.int x0), .val (.ref b), .val (.int (1 : Int32)), .val (.int tw), .val (.int cf), .val (.int ca), .unset, .unset] [] g16 1 2 := H
    replace X := X.keep K'
    replace Fs := Fs'
    replace Fc := Fc'
    clear K' Fs' Fc'
    replace H := k_aloadN C H at_111 rfl rfl (pc' := 112) rfl
    obtain ⟨_, g17, ⟨rfl, K', Fs', Fc'⟩, H⟩ := k_callVir C H (rm3 l Z a0 hw b g16 n0 _ X Fs Fc gb) X (hw _ (List.mem_of_getElem? (i := 9) rfl)) (hw _ (List.mem_of_getElem? (i := 10) rfl)) (hw _ (List.mem_of_getElem? (i := 12) rfl)) (hw _ (List.mem_of_getElem? (i := 11) rfl)) (hw _ (List.mem_of_getElem? (i := 2) rfl)) (hw _ (List.mem_of_getElem? (i := 13) rfl)) (by decide) at_112 rfl [] [] pd0_1 rfl rfl rfl 0 rfl (by decide) (by decide) (by decide) (by decide) (pc' := 115) rfl
    replace H : K 115 #[.val (.int x0), .val (.ref b), .val (.int (1 : Int32)), .val (.int tw), .val (.int cf), .val (.int ca), .unset, .unset] [(.int (0 : Int32))] g17 1 2 := H
    replace X := X.keep K'
    replace Fs := Fs'
    replace Fc := Fc'
    clear K' Fs' Fc'
    replace H := k_istore C H at_115 (L' := #[.val (.int x0), .val (.ref b), .val (.int (1 : Int32)), .val (.int tw), .val (.int cf), .val (.int ca), .val (.int (0 : Int32)), .unset]) rfl (pc' := 117) rfl
    replace H := k_iloadN C H at_117 rfl (pc' := 118) rfl
    replace H := k_ifcN C H at_118 (feq (by decide : ¬ (1 : Int32) = 0)).1 (pc' := 121) rfl
    replace H := k_iload C H at_121 rfl (pc' := 123) rfl
    replace H := k_ifcN C H at_123 (teq (rfl : (0 : Int32) = 0)).2 (pc' := 126) rfl
    replace H := k_iconst C H (v := 1) at_126 rfl (pc' := 127) rfl
    replace H := k_goto C H at_127 (by decide) (pc' := 131) rfl
    replace H := k_istoreN C H at_131 (L' := #[.val (.int x0), .val (.ref b), .val (.int (1 : Int32)), .val (.int tw), .val (.int cf), .val (.int ca), .val (.int (0 : Int32)), .unset]) rfl (pc' := 132) rfl
    replace H := k_iloadN C H at_132 rfl (pc' := 133) rfl
    by_cases hz_tw : tw = (0 : Int32)
    · replace H := k_ifcY C H at_133 (teq hz_tw).1 (by decide) (pc' := 157) rfl
      replace H := k_aloadN C H at_157 rfl rfl (pc' := 158) rfl
      obtain ⟨_, g18, ⟨rfl, K', Fs', Fc'⟩, H⟩ := k_callVir C H (rm5 l Z a0 hw b g17 n0 _ X Fs Fc gb) X (hw _ (List.mem_of_getElem? (i := 23) rfl)) (hw _ (List.mem_of_getElem? (i := 24) rfl)) (hw _ (List.mem_of_getElem? (i := 26) rfl)) (hw _ (List.mem_of_getElem? (i := 25) rfl)) (hw _ (List.mem_of_getElem? (i := 2) rfl)) (hw _ (List.mem_of_getElem? (i := 27) rfl)) (by decide) at_158 rfl [] [] pd0_0 rfl rfl rfl 0 rfl (by decide) (by decide) (by decide) (by decide) (pc' := 161) rfl
      replace H : K 161 #[.val (.int x0), .val (.ref b), .val (.int (1 : Int32)), .val (.int tw), .val (.int cf), .val (.int ca), .val (.int (0 : Int32)), .unset] [] g18 1 2 := H
      replace X := X.keep K'
      replace Fs := Fs'
      replace Fc := Fc'
      clear K' Fs' Fc'
      replace H := k_iload C H at_161 rfl (pc' := 163) rfl
      by_cases hz_ca : ca = (0 : Int32)
      · replace H := k_ifcY C H at_163 (teq hz_ca).1 (by decide) (pc' := 191) rfl
        replace H := k_iloadN C H at_191 rfl (pc' := 192) rfl
        exact k_retZ C H at_192 (by decide) (by decide) (by decide) rfl
      · replace H := k_ifcN C H at_163 (feq hz_ca).1 (pc' := 166) rfl
        replace H := k_aloadN C H at_166 rfl rfl (pc' := 167) rfl
        obtain ⟨_, g19, ⟨rfl, K', Fs', Fc'⟩, H⟩ := k_callVir C H (rm5 l Z a0 hw b g18 n0 _ X Fs Fc gb) X (hw _ (List.mem_of_getElem? (i := 23) rfl)) (hw _ (List.mem_of_getElem? (i := 24) rfl)) (hw _ (List.mem_of_getElem? (i := 26) rfl)) (hw _ (List.mem_of_getElem? (i := 25) rfl)) (hw _ (List.mem_of_getElem? (i := 2) rfl)) (hw _ (List.mem_of_getElem? (i := 27) rfl)) (by decide) at_167 rfl [] [] pd0_0 rfl rfl rfl 0 rfl (by decide) (by decide) (by decide) (by decide) (pc' := 170) rfl
        replace H : K 170 #[.val (.int x0), .val (.ref b), .val (.int (1 : Int32)), .val (.int tw), .val (.int cf), .val (.int ca), .val (.int (0 : Int32)), .unset] [] g19 1 2 := H
        replace X := X.keep K'
        replace Fs := Fs'
        replace Fc := Fc'
        clear K' Fs' Fc'
        replace H := k_aloadN C H at_170 rfl rfl (pc' := 171) rfl
        obtain ⟨_, g20, ⟨rfl, K', Fs', Fc'⟩, H⟩ := k_callVir C H (rm3 l Z a0 hw b g19 n0 _ X Fs Fc gb) X (hw _ (List.mem_of_getElem? (i := 9) rfl)) (hw _ (List.mem_of_getElem? (i := 10) rfl)) (hw _ (List.mem_of_getElem? (i := 12) rfl)) (hw _ (List.mem_of_getElem? (i := 11) rfl)) (hw _ (List.mem_of_getElem? (i := 2) rfl)) (hw _ (List.mem_of_getElem? (i := 13) rfl)) (by decide) at_171 rfl [] [] pd0_1 rfl rfl rfl 0 rfl (by decide) (by decide) (by decide) (by decide) (pc' := 174) rfl
        replace H : K 174 #[.val (.int x0), .val (.ref b), .val (.int (1 : Int32)), .val (.int tw), .val (.int cf), .val (.int ca), .val (.int (0 : Int32)), .unset] [(.int (0 : Int32))] g20 1 2 := H
        replace X := X.keep K'
        replace Fs := Fs'
        replace Fc := Fc'
        clear K' Fs' Fc'
        replace H := k_istore C H at_174 (L' := #[.val (.int x0), .val (.ref b), .val (.int (1 : Int32)), .val (.int tw), .val (.int cf), .val (.int ca), .val (.int (0 : Int32)), .val (.int (0 : Int32))]) rfl (pc' := 176) rfl
        replace H := k_iloadN C H at_176 rfl (pc' := 177) rfl
        replace H := k_ifcN C H at_177 (feq (by decide : ¬ (1 : Int32) = 0)).1 (pc' := 180) rfl
        replace H := k_iload C H at_180 rfl (pc' := 182) rfl
        replace H := k_ifcN C H at_182 (teq (rfl : (0 : Int32) = 0)).2 (pc' := 185) rfl
        replace H := k_iconst C H (v := 1) at_185 rfl (pc' := 186) rfl
        replace H := k_goto C H at_186 (by decide) (pc' := 190) rfl
        replace H := k_istoreN C H at_190 (L' := #[.val (.int x0), .val (.ref b), .val (.int (1 : Int32)), .val (.int tw), .val (.int cf), .val (.int ca), .val (.int (0 : Int32)), .val (.int (0 : Int32))]) rfl (pc' := 191) rfl
        replace H := k_iloadN C H at_191 rfl (pc' := 192) rfl
        exact k_retZ C H at_192 (by decide) (by decide) (by decide) rfl
    · replace H := k_ifcN C H at_133 (feq hz_tw).1 (pc' := 136) rfl
      replace H := k_aloadN C H at_136 rfl rfl (pc' := 137) rfl
      obtain ⟨_, g21, ⟨rfl, K', Fs', Fc'⟩, H⟩ := k_callVir C H (rm3 l Z a0 hw b g17 n0 _ X Fs Fc gb) X (hw _ (List.mem_of_getElem? (i := 9) rfl)) (hw _ (List.mem_of_getElem? (i := 10) rfl)) (hw _ (List.mem_of_getElem? (i := 12) rfl)) (hw _ (List.mem_of_getElem? (i := 11) rfl)) (hw _ (List.mem_of_getElem? (i := 2) rfl)) (hw _ (List.mem_of_getElem? (i := 13) rfl)) (by decide) at_137 rfl [] [] pd0_1 rfl rfl rfl 0 rfl (by decide) (by decide) (by decide) (by decide) (pc' := 140) rfl
      replace H : K 140 #[.val (.int x0), .val (.ref b), .val (.int (1 : Int32)), .val (.int tw), .val (.int cf), .val (.int ca), .val (.int (0 : Int32)), .unset] [(.int (0 : Int32))] g21 1 2 := H
      replace X := X.keep K'
      replace Fs := Fs'
      replace Fc := Fc'
      clear K' Fs' Fc'
      replace H := k_istore C H at_140 (L' := #[.val (.int x0), .val (.ref b), .val (.int (1 : Int32)), .val (.int tw), .val (.int cf), .val (.int ca), .val (.int (0 : Int32)), .val (.int (0 : Int32))]) rfl (pc' := 142) rfl
      replace H := k_iloadN C H at_142 rfl (pc' := 143) rfl
      replace H := k_ifcN C H at_143 (feq (by decide : ¬ (1 : Int32) = 0)).1 (pc' := 146) rfl
      replace H := k_iload C H at_146 rfl (pc' := 148) rfl
      replace H := k_ifcN C H at_148 (teq (rfl : (0 : Int32) = 0)).2 (pc' := 151) rfl
      replace H := k_iconst C H (v := 1) at_151 rfl (pc' := 152) rfl
      replace H := k_goto C H at_152 (by decide) (pc' := 156) rfl
      replace H := k_istoreN C H at_156 (L' := #[.val (.int x0), .val (.ref b), .val (.int (1 : Int32)), .val (.int tw), .val (.int cf), .val (.int ca), .val (.int (0 : Int32)), .val (.int (0 : Int32))]) rfl (pc' := 157) rfl
      replace H := k_aloadN C H at_157 rfl rfl (pc' := 158) rfl
      obtain ⟨_, g22, ⟨rfl, K', Fs', Fc'⟩, H⟩ := k_callVir C H (rm5 l Z a0 hw b g21 n0 _ X Fs Fc gb) X (hw _ (List.mem_of_getElem? (i := 23) rfl)) (hw _ (List.mem_of_getElem? (i := 24) rfl)) (hw _ (List.mem_of_getElem? (i := 26) rfl)) (hw _ (List.mem_of_getElem? (i := 25) rfl)) (hw _ (List.mem_of_getElem? (i := 2) rfl)) (hw _ (List.mem_of_getElem? (i := 27) rfl)) (by decide) at_158 rfl [] [] pd0_0 rfl rfl rfl 0 rfl (by decide) (by decide) (by decide) (by decide) (pc' := 161) rfl
      replace H : K 161 #[.val (.int x0), .val (.ref b), .val (.int (1 : Int32)), .val (.int tw), .val (.int cf), .val (.int ca), .val (.int (0 : Int32)), .val (.int (0 : Int32))] [] g22 1 2 := H
      replace X := X.keep K'
      replace Fs := Fs'
      replace Fc := Fc'
      clear K' Fs' Fc'
      replace H := k_iload C H at_161 rfl (pc' := 163) rfl
      by_cases hz_ca : ca = (0 : Int32)
      · replace H := k_ifcY C H at_163 (teq hz_ca).1 (by decide) (pc' := 191) rfl
        replace H := k_iloadN C H at_191 rfl (pc' := 192) rfl
        exact k_retZ C H at_192 (by decide) (by decide) (by decide) rfl
      · replace H := k_ifcN C H at_163 (feq hz_ca).1 (pc' := 166) rfl
        replace H := k_aloadN C H at_166 rfl rfl (pc' := 167) rfl
        obtain ⟨_, g23, ⟨rfl, K', Fs', Fc'⟩, H⟩ := k_callVir C H (rm5 l Z a0 hw b g22 n0 _ X Fs Fc gb) X (hw _ (List.mem_of_getElem? (i := 23) rfl)) (hw _ (List.mem_of_getElem? (i := 24) rfl)) (hw _ (List.mem_of_getElem? (i := 26) rfl)) (hw _ (List.mem_of_getElem? (i := 25) rfl)) (hw _ (List.mem_of_getElem? (i := 2) rfl)) (hw _ (List.mem_of_getElem? (i := 27) rfl)) (by decide) at_167 rfl [] [] pd0_0 rfl rfl rfl 0 rfl (by decide) (by decide) (by decide) (by decide) (pc' := 170) rfl
        replace H : K 170 #[.val (.int x0), .val (.ref b), .val (.int (1 : Int32)), .val (.int tw), .val (.int cf), .val (.int ca), .val (.int (0 : Int32)), .val (.int (0 : Int32))] [] g23 1 2 := H
        replace X := X.keep K'
        replace Fs := Fs'
        replace Fc := Fc'
        clear K' Fs' Fc'
        replace H := k_aloadN C H at_170 rfl rfl (pc' := 171) rfl
        obtain ⟨_, g24, ⟨rfl, K', Fs', Fc'⟩, H⟩ := k_callVir C H (rm3 l Z a0 hw b g23 n0 _ X Fs Fc gb) X (hw _ (List.mem_of_getElem? (i := 9) rfl)) (hw _ (List.mem_of_getElem? (i := 10) rfl)) (hw _ (List.mem_of_getElem? (i := 12) rfl)) (hw _ (List.mem_of_getElem? (i := 11) rfl)) (hw _ (List.mem_of_getElem? (i := 2) rfl)) (hw _ (List.mem_of_getElem? (i := 13) rfl)) (by decide) at_171 rfl [] [] pd0_1 rfl rfl rfl 0 rfl (by decide) (by decide) (by decide) (by decide) (pc' := 174) rfl
        replace H : K 174 #[.val (.int x0), .val (.ref b), .val (.int (1 : Int32)), .val (.int tw), .val (.int cf), .val (.int ca), .val (.int (0 : Int32)), .val (.int (0 : Int32))] [(.int (0 : Int32))] g24 1 2 := H
        replace X := X.keep K'
        replace Fs := Fs'
        replace Fc := Fc'
        clear K' Fs' Fc'
        replace H := k_istore C H at_174 (L' := #[.val (.int x0), .val (.ref b), .val (.int (1 : Int32)), .val (.int tw), .val (.int cf), .val (.int ca), .val (.int (0 : Int32)), .val (.int (0 : Int32))]) rfl (pc' := 176) rfl
        replace H := k_iloadN C H at_176 rfl (pc' := 177) rfl
        replace H := k_ifcN C H at_177 (feq (by decide : ¬ (1 : Int32) = 0)).1 (pc' := 180) rfl
        replace H := k_iload C H at_180 rfl (pc' := 182) rfl
        replace H := k_ifcN C H at_182 (teq (rfl : (0 : Int32) = 0)).2 (pc' := 185) rfl
        replace H := k_iconst C H (v := 1) at_185 rfl (pc' := 186) rfl
        replace H := k_goto C H at_186 (by decide) (pc' := 190) rfl
        replace H := k_istoreN C H at_190 (L' := #[.val (.int x0), .val (.ref b), .val (.int (1 : Int32)), .val (.int tw), .val (.int cf), .val (.int ca), .val (.int (0 : Int32)), .val (.int (0 : Int32))]) rfl (pc' := 191) rfl
        replace H := k_iloadN C H at_191 rfl (pc' := 192) rfl
        exact k_retZ C H at_192 (by decide) (by decide) (by decide) rfl
set_option maxRecDepth 65536 in
set_option maxHeartbeats 40000000 in
theorem comes_1 {Post : Tables → Env → Array Value → State → Outcome → State → Prop} (hpost : ∀ tb e args s v u, (limb_1_1.after args s (.returned v) u = true ∧ limb_1_2.after args s (.returned v) u = true) → FrameEnd s (.returned v) u (Jvm.fieldLocs frame_1_writes args s ++ Jvm.arrayLocs frame_1_arrays args s ++ Jvm.staticLocs frame_1_statics s) 16 128 → Post tb e args s (.returned v) u) :
    ArmFor flags0 classFile x code maxLocals ret World_1 tables_1 room_1 Calls_1 rest_1 Pre_1 Post := by
  intro l hfl _ _ p e ha hc hk s m args below hf hA hF happ hP
  obtain ⟨hcalls, hrest, hpre⟩ := hP
  obtain ⟨-, -, -, hnamed, -, -, -, hat⟩ := (Spec.applies_iff hf).mp happ
  obtain ⟨hg, hn⟩ := and_e (Cond.before_iff.mp (show (Jvm.Cond.and given_1 narrow_1).before args s = true from hpre))
  obtain ⟨g0, r0⟩ := and_e hg
  obtain ⟨w0, rfl⟩ : ∃ w0 : Value, args = #[w0] := by
    have hs : args.size = 1 := by simpa [Cond.value, given_1] using g0
    obtain ⟨L⟩ := args
    match L, hs with
    | [w0], _ => exact ⟨w0, rfl⟩
  have hw := fun d (hd : d ∈ tables_1) => atoms_spec (ws := Jvm.Cond.code x code maxLocals ret :: tables_1) hat d (List.mem_cons_of_mem _ hd)
  obtain ⟨i0, ei0⟩ := is_v r0
  obtain rfl : w0 = (.int i0) := Option.some.inj ei0
  obtain ⟨n, o, h1, h2, h3, _, L, rfl, ⟨rfl, N⟩, hq⟩ := rm0 l s _ hw i0 s.heap s.heap.size (Nat.le_refl _) tables_1 p e ha hc hk s m _ below hf ((Spec.applies_iff_loose hf).mp happ).1 ⟨rfl, State.Warmed39.refl s, rfl⟩ trivial
  refine ⟨n, _, h1, h2, h3, hpost _ _ _ _ _ _ ⟨Cond.after_iff.mpr rfl, Cond.after_iff.mpr (eq_i res_at (Term.int_eval (1)) rfl)⟩ ⟨hq.1, hq.2.1, (hq.2.2.sift fun y hy => Or.inr (N y hy)).mono (by decide) (by decide)⟩⟩
theorem main_1_1 : Claimed_1_1 := comes_1 fun _ _ _ _ _ _ h hF => ⟨h.1, hF⟩
theorem main_1_2 : Claimed_1_2 := comes_1 fun _ _ _ _ _ _ h hF => ⟨h.2, hF⟩
end Jvm.Pilot.@@N@@
namespace Jvm.Pilot.@@N@@
open Jvm Jvm.ClassFile Sem Op Lib Jvm.Free Jvm.Stand Jvm.Pilot.@@N@@.Jvm.D
/-! MADE BY PROGRAM (witnessworld.py) out of the Statement's table words and the real class files: 9 classes; the members and pool entries that the words name. The judged class is class 1, her method 1. -/
namespace start1
open Jvm.ClassFile
def u (s : String) : CpInfo := .utf8 (stringToUtf16 s)
/-- a pool by its gaps: so many unusable entries, then the entry; so many at the end -/
def gap : Nat → List CpInfo → List CpInfo
  | 0, r => r
  | n + 1, r => .unusable :: gap n r
def poolList (es : List (Nat × CpInfo)) (last : Nat) : List CpInfo := es.foldr (fun e r => gap e.1 (e.2 :: r)) (gap last [])
def pool (es : List (Nat × CpInfo)) (last : Nat) : Array CpInfo := ⟨poolList es last⟩
def fileOf (pool : Array CpInfo) (this : Nat) (attrs : Array Attribute := #[]) (ms : Array MethodInfo := #[]) (fl : Nat := 33) (sup : Nat := 0) (ifs : Array Nat := #[]) (fds : Array FieldInfo := #[]) : ClassFile where
  minorVersion := 0
  majorVersion := 65
  constantPool := pool
  accessFlags := fl
  thisClass := this
  superClass := sup
  interfaces := ifs
  fields := fds
  methods := ms
  attributes := attrs
def plain (name : String) (sup : Option ClassId) : Class where
  name := name
  kind := .ordinary
  loader := none
  accessFlags := 33
  super := sup
  interfaces := #[]
  cf := none
  fields := #[]
  methods := #[]
  instanceTypes := #[]
  staticTypes := #[]
  resolved := #[]
  callSites := []
  init := .initialized
  statics := none
  mirror := none

def pool0 : Array CpInfo := pool [(5, u "<init>"), (0, u "()V"), (1, .class_ 10), (1, u "java/lang/Object")] 113

def k0c0 : Code := { maxStack := 0, maxLocals := 1, code := object_method_1_code, exceptionTable := #[], attributes := #[] }
def k0m0 : Method := { name := "<init>", desc := "()V", sig := { parameters := [], returnType := none }, accessFlags := 1, code := some k0c0 }
/-- java/lang/Object -/
def k0 : Class := { plain "java/lang/Object" none with
  accessFlags := 33
  interfaces := #[]
  cf := some (fileOf pool0 8 #[] #[{ accessFlags := 1, nameIndex := 5, descriptorIndex := 6, attributes := #[] }] 33 0 #[] #[])
  fields := #[]
  methods := #[k0m0]
  instanceTypes := #[]
  staticTypes := #[]
  resolved := Array.replicate 124 none
  statics := none }

def pool1 : Array CpInfo := pool [(2, .class_ 4), (0, .nameAndType 5 6), (0, u "java/lang/Object"), (0, u "<init>"), (0, u "()V"), (0, .class_ 8), (0, u "com/example/partition_handoff/partitionhandoff/OpenSteps"), (0, .methodref 7 3), (0, .methodref 7 11), (0, .nameAndType 12 13), (0, u "start"), (0, u "()Z"), (0, .methodref 7 15), (0, .nameAndType 16 6), (0, u "end"), (0, .methodref 7 18), (0, .nameAndType 19 6), (0, u "close"), (0, .class_ 21), (0, u "com/example/partition_handoff/partitionhandoff/OpenStepsStartPinLaw"), (2, u "law"), (0, u "(I)Z")] 3

def k1m0 : Method := { name := "<init>", desc := "()V", sig := { parameters := [], returnType := none }, accessFlags := 1, code := none }
def k1c1 : Code := { maxStack := 2, maxLocals := 8, code := code, exceptionTable := #[], attributes := #[] }
def k1m1 : Method := { name := "law", desc := "(I)Z", sig := { parameters := [.int], returnType := some .boolean }, accessFlags := 9, code := some k1c1 }
/-- com/example/partition_handoff/partitionhandoff/OpenStepsStartPinLaw -/
def k1 : Class := { plain "com/example/partition_handoff/partitionhandoff/OpenStepsStartPinLaw" (some 0) with
  accessFlags := 49
  interfaces := #[]
  cf := some (fileOf pool1 20 #[] #[{ accessFlags := 1, nameIndex := 5, descriptorIndex := 6, attributes := #[] }, { accessFlags := 9, nameIndex := 24, descriptorIndex := 25, attributes := #[] }] 49 2 #[] #[])
  fields := #[]
  methods := #[k1m0, k1m1]
  instanceTypes := #[]
  staticTypes := #[]
  resolved := Array.replicate 29 none
  statics := none }

def pool2 : Array CpInfo := pool [(1, .methodref 2 3), (0, .class_ 4), (0, .nameAndType 5 6), (0, u "java/lang/Object"), (0, u "<init>"), (0, u "()V"), (0, .fieldref 8 9), (0, .class_ 10), (0, .nameAndType 11 12), (0, u "com/example/partition_handoff/partitionhandoff/OpenSteps"), (0, u "stepping"), (0, u "Z"), (0, .fieldref 8 14), (0, .nameAndType 15 12), (0, u "closed"), (8, u "SPINS"), (0, u "I"), (4, u "start"), (0, u "()Z"), (1, u "end"), (0, u "close")] 2

def k2c0 : Code := { maxStack := 1, maxLocals := 1, code := prog_24_method_1_code, exceptionTable := #[], attributes := #[] }
def k2m0 : Method := { name := "<init>", desc := "()V", sig := { parameters := [], returnType := none }, accessFlags := 0, code := some k2c0 }
def k2c1 : Code := { maxStack := 2, maxLocals := 2, code := prog_24_method_2_code, exceptionTable := #[], attributes := #[] }
def k2m1 : Method := { name := "start", desc := "()Z", sig := { parameters := [], returnType := some .boolean }, accessFlags := 0, code := some k2c1 }
def k2c2 : Code := { maxStack := 2, maxLocals := 1, code := prog_24_method_3_code, exceptionTable := #[], attributes := #[] }
def k2m2 : Method := { name := "end", desc := "()V", sig := { parameters := [], returnType := none }, accessFlags := 0, code := some k2c2 }
def k2c3 : Code := { maxStack := 2, maxLocals := 2, code := prog_24_method_4_code, exceptionTable := #[], attributes := #[] }
def k2m3 : Method := { name := "close", desc := "()V", sig := { parameters := [], returnType := none }, accessFlags := 0, code := some k2c3 }
/-- com/example/partition_handoff/partitionhandoff/OpenSteps -/
def k2 : Class := { plain "com/example/partition_handoff/partitionhandoff/OpenSteps" (some 0) with
  accessFlags := 48
  interfaces := #[]
  cf := some (fileOf pool2 8 #[] #[{ accessFlags := 0, nameIndex := 5, descriptorIndex := 6, attributes := #[] }, { accessFlags := 0, nameIndex := 30, descriptorIndex := 31, attributes := #[] }, { accessFlags := 0, nameIndex := 33, descriptorIndex := 6, attributes := #[] }, { accessFlags := 0, nameIndex := 34, descriptorIndex := 6, attributes := #[] }] 48 2 #[] #[{ accessFlags := 26, nameIndex := 24, descriptorIndex := 25, attributes := #[] }, { accessFlags := 66, nameIndex := 11, descriptorIndex := 12, attributes := #[] }, { accessFlags := 66, nameIndex := 15, descriptorIndex := 12, attributes := #[] }])
  fields := #[{ name := "SPINS", type := .int, accessFlags := 26, slot := 0, constantValue := 0 }, { name := "stepping", type := .boolean, accessFlags := 66, slot := 0, constantValue := 0 }, { name := "closed", type := .boolean, accessFlags := 66, slot := 1, constantValue := 0 }]
  methods := #[k2m0, k2m1, k2m2, k2m3]
  instanceTypes := #[.boolean, .boolean]
  staticTypes := #[.int]
  resolved := Array.replicate 37 none
  statics := none }

def pool3 : Array CpInfo := pool [(1, u "java/lang/Cloneable"), (0, .class_ 1), (0, u "java/lang/Object"), (0, .class_ 3)] 3

/-- java/lang/Cloneable -/
def k3 : Class := { plain "java/lang/Cloneable" (some 0) with
  accessFlags := 1537
  interfaces := #[]
  cf := some (fileOf pool3 2 #[] #[] 1537 4 #[] #[])
  fields := #[]
  methods := #[]
  instanceTypes := #[]
  staticTypes := #[]
  resolved := Array.replicate 8 none
  statics := none }

def pool4 : Array CpInfo := pool [(1, u "java/io/Serializable"), (0, .class_ 1), (0, u "java/lang/Object"), (0, .class_ 3)] 3

/-- java/io/Serializable -/
def k4 : Class := { plain "java/io/Serializable" (some 0) with
  accessFlags := 1537
  interfaces := #[]
  cf := some (fileOf pool4 2 #[] #[] 1537 4 #[] #[])
  fields := #[]
  methods := #[]
  instanceTypes := #[]
  staticTypes := #[]
  resolved := Array.replicate 8 none
  statics := none }

/-- the primitive byte -/
def k5 : Class := { plain "byte" none with kind := .primitive 'B', accessFlags := 0x411 }
/-- [B -/
def k6 : Class := { plain "[B" (some 0) with kind := .array 5 .byte, interfaces := #[3, 4], accessFlags := 1041 }

/-- the primitive int -/
def k7 : Class := { plain "int" none with kind := .primitive 'I', accessFlags := 0x411 }
/-- [I -/
def k8 : Class := { plain "[I" (some 0) with kind := .array 7 .int, interfaces := #[3, 4], accessFlags := 1041 }

def heap : Heap := #[]
def classes : Array Class := #[k0, k1, k2, k3, k4, k5, k6, k7, k8]
def interned : List (Array UInt16 × Addr) := []
def slotsUsed : Nat := 0
def theMethod : MethodId := ⟨1, 1⟩
def args0 : Array Value := #[.int 3]
def aboutOver (below : List Frame) : State where
  vm := { classes := classes, interned := interned.toArray }
  heap := heap
  slotsUsed := slotsUsed
  threads := #[{ frames := .invoking theMethod args0 :: below }]
def below0 : List Frame := [.native { method := ⟨0, 0⟩, args := #[] }]
def about1 : State := aboutOver below0
def p0 : Program := .bare "" "" ""
def e0 : Env := launch0.env 0 0 0
theorem w_frames : about1.frames = Frame.invoking theMethod args0 :: below0 := rfl
set_option maxRecDepth 65536 in
theorem w_args : argsFit about1.vm theMethod args0 = true := by decide +kernel
set_option maxRecDepth 65536 in
theorem w_heap : heapFits about1 = true := by decide +kernel
set_option maxRecDepth 65536 in
theorem w_runnable : about1.curStatus? = some .runnable := by decide +kernel
set_option maxRecDepth 65536 in
theorem w_alone : about1.alone = true := by decide +kernel
set_option maxRecDepth 65536 in
theorem w_named : about1.methodNamed? x = some theMethod := by decide +kernel
set_option maxRecDepth 65536 in
theorem w_hears : about1.hears theMethod below0 = true := by decide +kernel
set_option maxRecDepth 65536 in
theorem w_ripe : about1.ripe theMethod args0 below0 = true := by decide +kernel
theorem w_running : about1.status = .running := rfl
set_option maxRecDepth 65536 in
theorem w_room : about1.hasRoom e0.platform room_1 = true :=
  launch0.hasRoom_least _ room_1 (by decide +kernel) (by decide +kernel) (by decide +kernel) (by decide +kernel) (by decide +kernel) (by decide +kernel)
theorem allAtoms_all (ts : List Jvm.Cond) (a : Array Jvm.Value) (st : Jvm.State) : (allAtoms ts).before a st = ts.all (fun c => c.before a st) := by
  induction ts with
  | nil => rfl
  | cons c t ih =>
    show (Jvm.Cond.and c (allAtoms t)).before a st = _
    rw [Jvm.Cond.before_and, ih, List.all_cons]
def words1 : List Jvm.Cond := Jvm.Cond.code x code maxLocals ret :: tables_1
/-- a 'code' word, met by the world's own term for the bytes: nothing is compared byte by byte -/
theorem code_word {y : MethodName} {bytes : ByteArray} {mx : Nat} {rt : Option FieldType} {a : Array Value} {s : State} {m : MethodId} {meth : Method} {c : Code} (h1 : s.methodNamed? y = some m) (h2 : s.vm.method? m = some meth) (h3 : meth.code = some c) (h4 : c.code = bytes)
    (h5 : (c.maxLocals == mx && c.exceptionTable.isEmpty && decide (c.maxStack ≤ mostOperands) && decide (meth.sig.returnType = rt) && !meth.locks && decide (parseMethodDescriptor y.desc = some meth.sig)) = true) : (Jvm.Cond.code y bytes mx rt).before a s = true := by
  simp only [Bool.and_eq_true, beq_iff_eq, Bool.not_eq_true', decide_eq_true_eq] at h5
  obtain ⟨⟨⟨⟨⟨g1, g2⟩, g3⟩, g4⟩, g5⟩, g6⟩ := h5
  simp [Cond.before, Cond.holds, Cond.value, h1, h2, h3, h4, g1, g2, g3, g4, g5, g6]
def isCode : Jvm.Cond → Bool
  | .code _ _ _ _ => true
  | _ => false
theorem all_split {L : List Jvm.Cond} {P : Jvm.Cond → Bool} (h1 : L.all (fun c => isCode c || P c) = true) (h2 : ∀ c ∈ L.filter isCode, P c = true) : L.all P = true := by
  refine List.all_eq_true.mpr fun c hc => ?_
  have h := List.all_eq_true.mp h1 c hc
  rcases Bool.eq_false_or_eq_true (isCode c) with hi | hi
  · exact h2 c (List.mem_filter.mpr ⟨hc, hi⟩)
  · simpa [hi] using h
set_option maxRecDepth 65536 in
theorem w_c0 : (Jvm.Cond.code x code maxLocals ret).before args0 about1 = true := code_word (m := ⟨1, 1⟩) (meth := k1m1) (c := k1c1) (by decide +kernel) rfl rfl rfl (by decide +kernel)
set_option maxRecDepth 65536 in
theorem w_c1 : (Jvm.Cond.code ({ cls := "com/example/partition_handoff/partitionhandoff/OpenSteps", name := "<init>", desc := "()V" } : Jvm.MethodName) prog_24_method_1_code (1 : Nat) (Option.none : Option Jvm.ClassFile.FieldType)).before args0 about1 = true := code_word (m := ⟨2, 0⟩) (meth := k2m0) (c := k2c0) (by decide +kernel) rfl rfl rfl (by decide +kernel)
set_option maxRecDepth 65536 in
theorem w_c2 : (Jvm.Cond.code ({ cls := "java/lang/Object", name := "<init>", desc := "()V" } : Jvm.MethodName) object_method_1_code (1 : Nat) (Option.none : Option Jvm.ClassFile.FieldType)).before args0 about1 = true := code_word (m := ⟨0, 0⟩) (meth := k0m0) (c := k0c0) (by decide +kernel) rfl rfl rfl (by decide +kernel)
set_option maxRecDepth 65536 in
theorem w_c3 : (Jvm.Cond.code ({ cls := "com/example/partition_handoff/partitionhandoff/OpenSteps", name := "start", desc := "()Z" } : Jvm.MethodName) prog_24_method_2_code (2 : Nat) (Option.some Jvm.ClassFile.FieldType.boolean)).before args0 about1 = true := code_word (m := ⟨2, 1⟩) (meth := k2m1) (c := k2c1) (by decide +kernel) rfl rfl rfl (by decide +kernel)
set_option maxRecDepth 65536 in
theorem w_c4 : (Jvm.Cond.code ({ cls := "com/example/partition_handoff/partitionhandoff/OpenSteps", name := "end", desc := "()V" } : Jvm.MethodName) prog_24_method_3_code (1 : Nat) (Option.none : Option Jvm.ClassFile.FieldType)).before args0 about1 = true := code_word (m := ⟨2, 2⟩) (meth := k2m2) (c := k2c2) (by decide +kernel) rfl rfl rfl (by decide +kernel)
set_option maxRecDepth 65536 in
theorem w_c5 : (Jvm.Cond.code ({ cls := "com/example/partition_handoff/partitionhandoff/OpenSteps", name := "close", desc := "()V" } : Jvm.MethodName) prog_24_method_4_code (2 : Nat) (Option.none : Option Jvm.ClassFile.FieldType)).before args0 about1 = true := code_word (m := ⟨2, 3⟩) (meth := k2m3) (c := k2c3) (by decide +kernel) rfl rfl rfl (by decide +kernel)
def codes1 : List Jvm.Cond := [Jvm.Cond.code x code maxLocals ret, Jvm.Cond.code ({ cls := "com/example/partition_handoff/partitionhandoff/OpenSteps", name := "<init>", desc := "()V" } : Jvm.MethodName) prog_24_method_1_code (1 : Nat) (Option.none : Option Jvm.ClassFile.FieldType), Jvm.Cond.code ({ cls := "java/lang/Object", name := "<init>", desc := "()V" } : Jvm.MethodName) object_method_1_code (1 : Nat) (Option.none : Option Jvm.ClassFile.FieldType), Jvm.Cond.code ({ cls := "com/example/partition_handoff/partitionhandoff/OpenSteps", name := "start", desc := "()Z" } : Jvm.MethodName) prog_24_method_2_code (2 : Nat) (Option.some Jvm.ClassFile.FieldType.boolean), Jvm.Cond.code ({ cls := "com/example/partition_handoff/partitionhandoff/OpenSteps", name := "end", desc := "()V" } : Jvm.MethodName) prog_24_method_3_code (1 : Nat) (Option.none : Option Jvm.ClassFile.FieldType), Jvm.Cond.code ({ cls := "com/example/partition_handoff/partitionhandoff/OpenSteps", name := "close", desc := "()V" } : Jvm.MethodName) prog_24_method_4_code (2 : Nat) (Option.none : Option Jvm.ClassFile.FieldType)]
set_option maxRecDepth 65536 in
theorem codes_eq : words1.filter isCode = codes1 := rfl
theorem w_codes : ∀ c ∈ words1.filter isCode, c.before args0 about1 = true := by
  rw [codes_eq]
  intro c hc
  simp only [codes1, List.mem_cons, List.not_mem_nil, or_false] at hc
  rcases hc with rfl | rfl | rfl | rfl | rfl | rfl
  · exact w_c0
  · exact w_c1
  · exact w_c2
  · exact w_c3
  · exact w_c4
  · exact w_c5
set_option maxRecDepth 65536 in
theorem w_t1 : (words1.take 24).all (fun c => isCode c || c.before args0 about1) = true := by decide +kernel
set_option maxRecDepth 65536 in
theorem w_t2 : (words1.drop 24).all (fun c => isCode c || c.before args0 about1) = true := by decide +kernel
theorem w_tables : (allAtoms (Jvm.Cond.code x code maxLocals ret :: tables_1)).before args0 about1 = true := by
  rw [allAtoms_all]
  show words1.all (fun c => c.before args0 about1) = true
  refine all_split ?_ w_codes
  rw [← List.take_append_drop 24 words1, List.all_append, w_t1, w_t2]
  rfl
set_option maxRecDepth 65536 in
theorem w_case : (Jvm.Cond.and given_1 narrow_1).before args0 about1 = true := by decide +kernel
theorem w_applies : (headSpec (Jvm.Cond.code x code maxLocals ret :: tables_1) room_1).applies x e0.platform about1 = true :=
  (Spec.applies_iff w_frames).mpr ⟨w_running, w_runnable, w_alone, w_named, w_hears, w_ripe, w_room, w_tables⟩
theorem atStart : AtStart classFile x code maxLocals ret World_1 tables_1 room_1 Calls_1 rest_1 Pre_1 launch0 p0 e0 about1 theMethod args0 below0 :=
  ⟨lists_1, trivial, launch0.admits_env _ _ _, launch0.least_env, fairChoices_fair.cas, fairChoices_fair.clock, w_frames, w_args, w_heap, w_applies, trivial, trivial, w_case⟩
end start1
theorem witness_1 : WitnessClaimed_1 := ⟨start1.p0, start1.e0, start1.about1, start1.theMethod, start1.args0, start1.below0, start1.atStart⟩
end Jvm.Pilot.@@N@@
