import JvmDerived
import JvmDerived.Pilot.@@N@@Statement
import JvmDerived.Pilot.@@N@@Code
set_option linter.unusedVariables false
set_option linter.unusedSimpArgs false
namespace Jvm.Pilot.@@N@@
namespace Own
open Jvm Jvm.ClassFile Sem Op Lib Jvm.Free Jvm.Stand Jvm.LawKit Jvm.RoadKit Bundle
/-- what a body's walk knows of its method -/
def Ctx (p : Program) (l : Launch) (e : Env) (R : Room) (s : State) (m : MethodId) (args : Array Value) (below : List Frame) (meth : Method) (c : Code) (Z : State) (own : String) (cd : ByteArray) (maxL : Nat) (ret : Option FieldType) (nm : String) : Prop :=
  p.tables.exec = Jvm.exec ∧ Z.Warmed39 s.vm ∧ c.code = cd ∧ c.maxLocals = maxL ∧ s.vm.findClass own = some m.cls ∧ meth.sig.returnType = ret ∧ meth.locks = false ∧ meth.name = nm
/-- from every state that stands at pc with these locals and this stack over the heap h the method returns, and P holds -/
def Run (p : Program) (l : Launch) (e : Env) (R : Room) (s : State) (m : MethodId) (args : Array Value) (below : List Frame) (meth : Method) (c : Code) (n0 : Nat) (P : Option Value → Heap → Prop) (h : Heap) (k n : Nat) (pc : Nat) (Ls : Array Slot) (st : List Value) : Prop :=
  ∀ (T : State) (locs : List Loc), Stand p l e R s m args below meth c T locs k n → T.heap = h → Fr n0 locs →
    ∃ s₂ o, Steps p.tables e below (T.setTop (mkF m pc Ls st)) s₂ ∧ s₂.status = .running ∧ Ended s₂ below o ∧ ∃ v L, o = .returned v ∧ (P v s₂.heap ∧ Fr n0 L) ∧ FrameEnd s o s₂ L R.cells R.slots
def RetI (Q : Int32 → Heap → Prop) (v : Option Value) (h : Heap) : Prop := ∃ z, v = some (.int z) ∧ Q z h
def RetL (Q : Int64 → Heap → Prop) (v : Option Value) (h : Heap) : Prop := ∃ z, v = some (.long z) ∧ Q z h
def RetV (Q : Value → Heap → Prop) (v : Option Value) (h : Heap) : Prop := ∃ z, v = some z ∧ Q z h
def Ret0 (Q : Heap → Prop) (v : Option Value) (h : Heap) : Prop := v = none ∧ Q h
def Met (l : Launch) (Z : State) (y : MethodName) (bytes : ByteArray) (mL : Nat) (rt : Option FieldType) (ws : List Jvm.Cond) (rm : Room) (as : Array Value) (h : Heap) (n0 : Nat) (P : Option Value → Heap → Prop) : Prop :=
  MetFree l y (head1 (Jvm.Cond.code y bytes mL rt :: ws) rm) (fun a U => a = as ∧ Z.Warmed39 U.vm ∧ U.heap = h) (fun _ _ _ _ _ => True) (fun _ U o U' => ∃ v L, o = .returned v ∧ (P v U'.heap ∧ Fr n0 L) ∧ FrameEnd U o U' L rm.cells rm.slots)
section Steps
variable {p : Program} {l : Launch} {e : Env} {R : Room} {s : State} {m : MethodId} {args : Array Value} {below : List Frame} {meth : Method} {c : Code} {Z : State} {own nm : String} {cd : ByteArray} {maxL : Nat} {ret : Option FieldType} {n0 : Nat} {P : Option Value → Heap → Prop} {h : Heap} {k n pc pc' : Nat} {Ls l' : Array Slot} {st st' rest : List Value} {a0 : Array Value}
theorem Met.intro {y : MethodName} {bytes : ByteArray} {mL : Nat} {rt : Option FieldType} {ws : List Jvm.Cond} {rm : Room} {as : Array Value} (hpl : plainFor y = true) (ho : y.cls = own) (hn : y.name = nm) (ef : ∀ m, entryFrame m as mL = mkF m 0 Ls [])
    (body : ∀ p e s m below meth c, Ctx p l e rm s m as below meth c Z own bytes mL rt nm → Run p l e rm s m as below meth c n0 P h 0 0 0 Ls []) : Met l Z y bytes mL rt ws rm as h n0 P := by
  subst ho hn
  refine MetFree.of_bodySF hpl hisR ?_
  intro p e s m args below meth c s₁ Bd hml0 hP hK
  obtain ⟨rfl, hZ, hh⟩ := hP
  have X0 : Stand p l e rm s m args below meth c s₁ [] 0 0 := Stand.of_body Bd
  have e0 : s₁.heap = h := by rw [← hh, Bd.state]; rfl
  have hown : s.vm.findClass y.cls = some m.cls := findClass_of_methodNamed Bd.named
  obtain ⟨s₂, o, h1, h2⟩ := body p e s m below meth c ⟨Bd.exec, hZ, Bd.bytes, hml0, hown, Bd.returns, Bd.notSynchronized, (name_of_methodNamed Bd.named Bd.method).1⟩ s₁ [] X0 e0 (Fr.nil _)
  exact ⟨s₂, o, castTop (ef m) h1, h2⟩
theorem Run.pure (f : ∀ T locs, Stand p l e R s m args below meth c T locs k n → T.heap = h → ∀ t, Steps p.tables e below (T.setTop (mkF m pc' l' st')) t → Steps p.tables e below (T.setTop (mkF m pc Ls st)) t) (r : Run p l e R s m args below meth c n0 P h k n pc' l' st') : Run p l e R s m args below meth c n0 P h k n pc Ls st := fun T locs X eT N => by
  obtain ⟨s₂, o, q, r⟩ := r T locs X eT N
  exact ⟨s₂, o, f T locs X eT _ q, r⟩
theorem Run.warm (f : ∀ T locs, Stand p l e R s m args below meth c T locs k n → T.heap = h → ∃ T', Stand p l e R s m args below meth c T' locs k n ∧ T'.heap = h ∧ ∀ t, Steps p.tables e below (T'.setTop (mkF m pc' l' st')) t → Steps p.tables e below (T.setTop (mkF m pc Ls st)) t) (r : Run p l e R s m args below meth c n0 P h k n pc' l' st') : Run p l e R s m args below meth c n0 P h k n pc Ls st := fun T locs X eT N => by
  obtain ⟨T', X', e', f'⟩ := f T locs X eT
  obtain ⟨s₂, o, q, r⟩ := r T' locs X' e' N
  exact ⟨s₂, o, f' _ q, r⟩
/-! loads, stores, constants -/
theorem s_iloadN (C : Ctx p l e R s m args below meth c Z own cd maxL ret nm) {q : Fin 4} {v : Int32} (hd : decode cd pc = .ok (.iload_n q, 1)) (hp : pc + 1 = pc') (hl : Ls[q.val]? = some (.val (.int v))) (r : Run p l e R s m args below meth c n0 P h k n pc' Ls (.int v :: st)) : Run p l e R s m args below meth c n0 P h k n pc Ls st := by
  subst hp; exact Run.pure (fun T locs X _ t z => XS.iloadN X.here C.1 rfl (hb C.2.2.1 hd) hl z) r
theorem s_iload (C : Ctx p l e R s m args below meth c Z own cd maxL ret nm) {q : Nat} {v : Int32} (hd : decode cd pc = .ok (.iload q, 2)) (hp : pc + 2 = pc') (hl : Ls[q]? = some (.val (.int v))) (r : Run p l e R s m args below meth c n0 P h k n pc' Ls (.int v :: st)) : Run p l e R s m args below meth c n0 P h k n pc Ls st := by
  subst hp; exact Run.pure (fun T locs X _ t z => XS.iload X.here C.1 rfl (hb C.2.2.1 hd) hl z) r
theorem s_lloadN (C : Ctx p l e R s m args below meth c Z own cd maxL ret nm) {q : Fin 4} {v : Int64} (hd : decode cd pc = .ok (.lload_n q, 1)) (hp : pc + 1 = pc') (hl : Ls[q.val]? = some (.val (.long v))) (r : Run p l e R s m args below meth c n0 P h k n pc' Ls (.long v :: st)) : Run p l e R s m args below meth c n0 P h k n pc Ls st := by
  subst hp; exact Run.pure (fun T locs X _ t z => XS.lloadN X.here C.1 rfl (hb C.2.2.1 hd) hl z) r
theorem s_lload (C : Ctx p l e R s m args below meth c Z own cd maxL ret nm) {q : Nat} {v : Int64} (hd : decode cd pc = .ok (.lload q, 2)) (hp : pc + 2 = pc') (hl : Ls[q]? = some (.val (.long v))) (r : Run p l e R s m args below meth c n0 P h k n pc' Ls (.long v :: st)) : Run p l e R s m args below meth c n0 P h k n pc Ls st := by
  subst hp; exact Run.pure (fun T locs X _ t z => XS.lload X.here C.1 rfl (hb C.2.2.1 hd) hl z) r
theorem s_aloadN (C : Ctx p l e R s m args below meth c Z own cd maxL ret nm) {q : Fin 4} {v : Value} (hd : decode cd pc = .ok (.aload_n q, 1)) (hp : pc + 1 = pc') (hl : Ls[q.val]? = some (.val v)) (hv : v.isRef = true) (r : Run p l e R s m args below meth c n0 P h k n pc' Ls (v :: st)) : Run p l e R s m args below meth c n0 P h k n pc Ls st := by
  subst hp; exact Run.pure (fun T locs X _ t z => XS.aloadN X.here C.1 rfl (hb C.2.2.1 hd) hl hv z) r
theorem s_aload (C : Ctx p l e R s m args below meth c Z own cd maxL ret nm) {q : Nat} {v : Value} (hd : decode cd pc = .ok (.aload q, 2)) (hp : pc + 2 = pc') (hl : Ls[q]? = some (.val v)) (hv : v.isRef = true) (r : Run p l e R s m args below meth c n0 P h k n pc' Ls (v :: st)) : Run p l e R s m args below meth c n0 P h k n pc Ls st := by
  subst hp; exact Run.pure (fun T locs X _ t z => XS.aload X.here C.1 rfl (hb C.2.2.1 hd) hl hv z) r
theorem s_istoreN (C : Ctx p l e R s m args below meth c Z own cd maxL ret nm) {q : Fin 4} {x : Int32} (hd : decode cd pc = .ok (.istore_n q, 1)) (hp : pc + 1 = pc') (L : Int32 → Array Slot) (hl : ∀ y, storeLocals Ls q.val (.int y) = some (L y)) (r : ∀ y, y = x → Run p l e R s m args below meth c n0 P h k n pc' (L y) st) : Run p l e R s m args below meth c n0 P h k n pc Ls (.int x :: st) := by
  subst hp; exact Run.pure (fun T locs X _ t z => XS.istoreN X.here C.1 rfl (hb C.2.2.1 hd) rfl (hl x) z) (r x rfl)
theorem s_istore (C : Ctx p l e R s m args below meth c Z own cd maxL ret nm) {q : Nat} {x : Int32} (hd : decode cd pc = .ok (.istore q, 2)) (hp : pc + 2 = pc') (L : Int32 → Array Slot) (hl : ∀ y, storeLocals Ls q (.int y) = some (L y)) (r : ∀ y, y = x → Run p l e R s m args below meth c n0 P h k n pc' (L y) st) : Run p l e R s m args below meth c n0 P h k n pc Ls (.int x :: st) := by
  subst hp; exact Run.pure (fun T locs X _ t z => XS.istore X.here C.1 rfl (hb C.2.2.1 hd) rfl (hl x) z) (r x rfl)
theorem s_lstoreN (C : Ctx p l e R s m args below meth c Z own cd maxL ret nm) {q : Fin 4} {x : Int64} (hd : decode cd pc = .ok (.lstore_n q, 1)) (hp : pc + 1 = pc') (L : Int64 → Array Slot) (hl : ∀ y, storeLocals Ls q.val (.long y) = some (L y)) (r : ∀ y, y = x → Run p l e R s m args below meth c n0 P h k n pc' (L y) st) : Run p l e R s m args below meth c n0 P h k n pc Ls (.long x :: st) := by
  subst hp; exact Run.pure (fun T locs X _ t z => XS.lstoreN X.here C.1 rfl (hb C.2.2.1 hd) rfl (hl x) z) (r x rfl)
theorem s_lstore (C : Ctx p l e R s m args below meth c Z own cd maxL ret nm) {q : Nat} {x : Int64} (hd : decode cd pc = .ok (.lstore q, 2)) (hp : pc + 2 = pc') (L : Int64 → Array Slot) (hl : ∀ y, storeLocals Ls q (.long y) = some (L y)) (r : ∀ y, y = x → Run p l e R s m args below meth c n0 P h k n pc' (L y) st) : Run p l e R s m args below meth c n0 P h k n pc Ls (.long x :: st) := by
  subst hp; exact Run.pure (fun T locs X _ t z => XS.lstore X.here C.1 rfl (hb C.2.2.1 hd) rfl (hl x) z) (r x rfl)
theorem s_istoreNP (C : Ctx p l e R s m args below meth c Z own cd maxL ret nm) {q : Fin 4} {x : Int32} (hd : decode cd pc = .ok (.istore_n q, 1)) (hp : pc + 1 = pc') (L : Array Slot) (hl : storeLocals Ls q.val (.int x) = some L) (r : Run p l e R s m args below meth c n0 P h k n pc' L st) : Run p l e R s m args below meth c n0 P h k n pc Ls (.int x :: st) := by
  subst hp; exact Run.pure (fun T locs X _ t z => XS.istoreN X.here C.1 rfl (hb C.2.2.1 hd) rfl hl z) r
theorem s_istoreP (C : Ctx p l e R s m args below meth c Z own cd maxL ret nm) {q : Nat} {x : Int32} (hd : decode cd pc = .ok (.istore q, 2)) (hp : pc + 2 = pc') (L : Array Slot) (hl : storeLocals Ls q (.int x) = some L) (r : Run p l e R s m args below meth c n0 P h k n pc' L st) : Run p l e R s m args below meth c n0 P h k n pc Ls (.int x :: st) := by
  subst hp; exact Run.pure (fun T locs X _ t z => XS.istore X.here C.1 rfl (hb C.2.2.1 hd) rfl hl z) r
theorem s_lstoreNP (C : Ctx p l e R s m args below meth c Z own cd maxL ret nm) {q : Fin 4} {x : Int64} (hd : decode cd pc = .ok (.lstore_n q, 1)) (hp : pc + 1 = pc') (L : Array Slot) (hl : storeLocals Ls q.val (.long x) = some L) (r : Run p l e R s m args below meth c n0 P h k n pc' L st) : Run p l e R s m args below meth c n0 P h k n pc Ls (.long x :: st) := by
  subst hp; exact Run.pure (fun T locs X _ t z => XS.lstoreN X.here C.1 rfl (hb C.2.2.1 hd) rfl hl z) r
theorem s_lstoreP (C : Ctx p l e R s m args below meth c Z own cd maxL ret nm) {q : Nat} {x : Int64} (hd : decode cd pc = .ok (.lstore q, 2)) (hp : pc + 2 = pc') (L : Array Slot) (hl : storeLocals Ls q (.long x) = some L) (r : Run p l e R s m args below meth c n0 P h k n pc' L st) : Run p l e R s m args below meth c n0 P h k n pc Ls (.long x :: st) := by
  subst hp; exact Run.pure (fun T locs X _ t z => XS.lstore X.here C.1 rfl (hb C.2.2.1 hd) rfl hl z) r
theorem s_astoreN (C : Ctx p l e R s m args below meth c Z own cd maxL ret nm) {q : Fin 4} {x : Value} (hd : decode cd pc = .ok (.astore_n q, 1)) (hp : pc + 1 = pc') (hv : x.isRef = true) (L : Array Slot) (hl : storeLocals Ls q.val x = some L) (r : Run p l e R s m args below meth c n0 P h k n pc' L st) : Run p l e R s m args below meth c n0 P h k n pc Ls (x :: st) := by
  subst hp; exact Run.pure (fun T locs X _ t z => XS.astoreN X.here C.1 rfl (hb C.2.2.1 hd) rfl hv hl z) r
theorem s_astore (C : Ctx p l e R s m args below meth c Z own cd maxL ret nm) {q : Nat} {x : Value} (hd : decode cd pc = .ok (.astore q, 2)) (hp : pc + 2 = pc') (hv : x.isRef = true) (L : Array Slot) (hl : storeLocals Ls q x = some L) (r : Run p l e R s m args below meth c n0 P h k n pc' L st) : Run p l e R s m args below meth c n0 P h k n pc Ls (x :: st) := by
  subst hp; exact Run.pure (fun T locs X _ t z => XS.astore X.here C.1 rfl (hb C.2.2.1 hd) rfl hv hl z) r
theorem s_iconst (C : Ctx p l e R s m args below meth c Z own cd maxL ret nm) {i : Int} (hd : decode cd pc = .ok (.iconst i, 1)) (hp : pc + 1 = pc') (v : Int32) (hv : Int32.ofInt i = v) (r : Run p l e R s m args below meth c n0 P h k n pc' Ls (.int v :: st)) : Run p l e R s m args below meth c n0 P h k n pc Ls st := by
  subst hp hv; exact Run.pure (fun T locs X _ t z => XS.iconst X.here C.1 rfl (hb C.2.2.1 hd) z) r
theorem s_bipush (C : Ctx p l e R s m args below meth c Z own cd maxL ret nm) {i : Int} (hd : decode cd pc = .ok (.bipush i, 2)) (hp : pc + 2 = pc') (v : Int32) (hv : (Int8.ofInt i).toInt32 = v) (r : Run p l e R s m args below meth c n0 P h k n pc' Ls (.int v :: st)) : Run p l e R s m args below meth c n0 P h k n pc Ls st := by
  subst hp hv; exact Run.pure (fun T locs X _ t z => XS.bipush X.here C.1 rfl (hb C.2.2.1 hd) z) r
theorem s_sipush (C : Ctx p l e R s m args below meth c Z own cd maxL ret nm) {i : Int} (hd : decode cd pc = .ok (.sipush i, 3)) (hp : pc + 3 = pc') (v : Int32) (hv : (Int16.ofInt i).toInt32 = v) (r : Run p l e R s m args below meth c n0 P h k n pc' Ls (.int v :: st)) : Run p l e R s m args below meth c n0 P h k n pc Ls st := by
  subst hp hv; exact Run.pure (fun T locs X _ t z => XS.sipush X.here C.1 rfl (hb C.2.2.1 hd) z) r
theorem s_lconst (C : Ctx p l e R s m args below meth c Z own cd maxL ret nm) {i : Fin 2} (hd : decode cd pc = .ok (.lconst i, 1)) (hp : pc + 1 = pc') (v : Int64) (hv : Int64.ofNat i.val = v) (r : Run p l e R s m args below meth c n0 P h k n pc' Ls (.long v :: st)) : Run p l e R s m args below meth c n0 P h k n pc Ls st := by
  subst hp hv; exact Run.pure (fun T locs X _ t z => XS.lconst X.here C.1 rfl (hb C.2.2.1 hd) z) r
theorem s_null (C : Ctx p l e R s m args below meth c Z own cd maxL ret nm) (hd : decode cd pc = .ok (.aconst_null, 1)) (hp : pc + 1 = pc') (r : Run p l e R s m args below meth c n0 P h k n pc' Ls (.null :: st)) : Run p l e R s m args below meth c n0 P h k n pc Ls st := by
  subst hp; exact Run.pure (fun T locs X _ t z => XS.aconstNull X.here C.1 rfl (hb C.2.2.1 hd) z) r
theorem s_ldc (C : Ctx p l e R s m args below meth c Z own cd maxL ret nm) {i : Nat} {v : Int32} (hd : decode cd pc = .ok (.ldc i, 2)) (hp : pc + 2 = pc') (w : (Jvm.Cond.constant own i v).before a0 Z = true) (r : Run p l e R s m args below meth c n0 P h k n pc' Ls (.int v :: st)) : Run p l e R s m args below meth c n0 P h k n pc Ls st := by
  subst hp; exact Run.pure (fun T locs X _ t z => X.ldcInt C.1 C.2.2.2.2.1 (mvT C.2.1 w) (g := mkF m pc Ls st) rfl (hb C.2.2.1 hd) _ z) r
theorem s_ldc2 (C : Ctx p l e R s m args below meth c Z own cd maxL ret nm) {i : Nat} {v : Int64} (hd : decode cd pc = .ok (.ldc2_w i, 3)) (hp : pc + 3 = pc') (w : (Jvm.Cond.constantLong own i v).before a0 Z = true) (r : Run p l e R s m args below meth c n0 P h k n pc' Ls (.long v :: st)) : Run p l e R s m args below meth c n0 P h k n pc Ls st := by
  subst hp; exact Run.pure (fun T locs X _ t z => X.ldc2Long C.1 C.2.2.2.2.1 (mvT C.2.1 w) (g := mkF m pc Ls st) rfl (hb C.2.2.1 hd) _ z) r
theorem s_iinc (C : Ctx p l e R s m args below meth c Z own cd maxL ret nm) {q : Nat} {cst : Int} {x : Int32} (hd : decode cd pc = .ok (.iinc q cst, 3)) (hp : pc + 3 = pc') (hl : Ls[q]? = some (.val (.int x))) (z : Int32) (hz : Int32.ofInt cst = z) (L : Int32 → Array Slot) (hl' : ∀ y, storeLocals Ls q (.int y) = some (L y)) (r : ∀ y, y = x + z → Run p l e R s m args below meth c n0 P h k n pc' (L y) st) : Run p l e R s m args below meth c n0 P h k n pc Ls st := by
  subst hp hz; exact Run.pure (fun T locs X _ t z => XS.iinc X.here C.1 rfl (hb C.2.2.1 hd) hl (hl' _) z) (r _ rfl)
theorem s_iincP (C : Ctx p l e R s m args below meth c Z own cd maxL ret nm) {q : Nat} {cst : Int} {x : Int32} (hd : decode cd pc = .ok (.iinc q cst, 3)) (hp : pc + 3 = pc') (hl : Ls[q]? = some (.val (.int x))) (z : Int32) (hz : x + Int32.ofInt cst = z) (L : Array Slot) (hl' : storeLocals Ls q (.int z) = some L) (r : Run p l e R s m args below meth c n0 P h k n pc' L st) : Run p l e R s m args below meth c n0 P h k n pc Ls st := by
  subst hp hz; exact Run.pure (fun T locs X _ t z => XS.iinc X.here C.1 rfl (hb C.2.2.1 hd) hl hl' z) r
/-! plain steps -/
theorem s_iadd (C : Ctx p l e R s m args below meth c Z own cd maxL ret nm) {x y : Int32} (hd : decode cd pc = .ok (.iadd, 1)) (hp : pc + 1 = pc') (r : Run p l e R s m args below meth c n0 P h k n pc' Ls (.int (x + y) :: st)) : Run p l e R s m args below meth c n0 P h k n pc Ls (.int y :: .int x :: st) := by
  subst hp; exact Run.pure (fun T locs X _ t z => XS.iadd X.here C.1 rfl (hb C.2.2.1 hd) rfl z) r
theorem s_isub (C : Ctx p l e R s m args below meth c Z own cd maxL ret nm) {x y : Int32} (hd : decode cd pc = .ok (.isub, 1)) (hp : pc + 1 = pc') (r : Run p l e R s m args below meth c n0 P h k n pc' Ls (.int (x - y) :: st)) : Run p l e R s m args below meth c n0 P h k n pc Ls (.int y :: .int x :: st) := by
  subst hp; exact Run.pure (fun T locs X _ t z => XS.isub X.here C.1 rfl (hb C.2.2.1 hd) rfl z) r
theorem s_imul (C : Ctx p l e R s m args below meth c Z own cd maxL ret nm) {x y : Int32} (hd : decode cd pc = .ok (.imul, 1)) (hp : pc + 1 = pc') (r : Run p l e R s m args below meth c n0 P h k n pc' Ls (.int (x * y) :: st)) : Run p l e R s m args below meth c n0 P h k n pc Ls (.int y :: .int x :: st) := by
  subst hp; exact Run.pure (fun T locs X _ t z => XS.imul X.here C.1 rfl (hb C.2.2.1 hd) rfl z) r
theorem s_iand (C : Ctx p l e R s m args below meth c Z own cd maxL ret nm) {x y : Int32} (hd : decode cd pc = .ok (.iand, 1)) (hp : pc + 1 = pc') (r : Run p l e R s m args below meth c n0 P h k n pc' Ls (.int (x &&& y) :: st)) : Run p l e R s m args below meth c n0 P h k n pc Ls (.int y :: .int x :: st) := by
  subst hp; exact Run.pure (fun T locs X _ t z => XS.iand X.here C.1 rfl (hb C.2.2.1 hd) rfl z) r
theorem s_ior (C : Ctx p l e R s m args below meth c Z own cd maxL ret nm) {x y : Int32} (hd : decode cd pc = .ok (.ior, 1)) (hp : pc + 1 = pc') (r : Run p l e R s m args below meth c n0 P h k n pc' Ls (.int (x ||| y) :: st)) : Run p l e R s m args below meth c n0 P h k n pc Ls (.int y :: .int x :: st) := by
  subst hp; exact Run.pure (fun T locs X _ t z => XS.ior X.here C.1 rfl (hb C.2.2.1 hd) rfl z) r
theorem s_ixor (C : Ctx p l e R s m args below meth c Z own cd maxL ret nm) {x y : Int32} (hd : decode cd pc = .ok (.ixor, 1)) (hp : pc + 1 = pc') (r : Run p l e R s m args below meth c n0 P h k n pc' Ls (.int (x ^^^ y) :: st)) : Run p l e R s m args below meth c n0 P h k n pc Ls (.int y :: .int x :: st) := by
  subst hp; exact Run.pure (fun T locs X _ t z => XS.ixor X.here C.1 rfl (hb C.2.2.1 hd) rfl z) r
theorem s_ishl (C : Ctx p l e R s m args below meth c Z own cd maxL ret nm) {x y : Int32} (hd : decode cd pc = .ok (.ishl, 1)) (hp : pc + 1 = pc') (r : Run p l e R s m args below meth c n0 P h k n pc' Ls (.int (x <<< (y &&& 31)) :: st)) : Run p l e R s m args below meth c n0 P h k n pc Ls (.int y :: .int x :: st) := by
  subst hp; exact Run.pure (fun T locs X _ t z => XS.ishl X.here C.1 rfl (hb C.2.2.1 hd) rfl z) r
theorem s_ishr (C : Ctx p l e R s m args below meth c Z own cd maxL ret nm) {x y : Int32} (hd : decode cd pc = .ok (.ishr, 1)) (hp : pc + 1 = pc') (r : Run p l e R s m args below meth c n0 P h k n pc' Ls (.int (x >>> (y &&& 31)) :: st)) : Run p l e R s m args below meth c n0 P h k n pc Ls (.int y :: .int x :: st) := by
  subst hp; exact Run.pure (fun T locs X _ t z => XS.ishr X.here C.1 rfl (hb C.2.2.1 hd) rfl z) r
theorem s_iushr (C : Ctx p l e R s m args below meth c Z own cd maxL ret nm) {x y : Int32} (hd : decode cd pc = .ok (.iushr, 1)) (hp : pc + 1 = pc') (r : Run p l e R s m args below meth c n0 P h k n pc' Ls (.int ((x.toUInt32 >>> (y &&& 31).toUInt32).toInt32) :: st)) : Run p l e R s m args below meth c n0 P h k n pc Ls (.int y :: .int x :: st) := by
  subst hp; exact Run.pure (fun T locs X _ t z => XS.iushr X.here C.1 rfl (hb C.2.2.1 hd) rfl z) r
theorem s_ladd (C : Ctx p l e R s m args below meth c Z own cd maxL ret nm) {x y : Int64} (hd : decode cd pc = .ok (.ladd, 1)) (hp : pc + 1 = pc') (r : Run p l e R s m args below meth c n0 P h k n pc' Ls (.long (x + y) :: st)) : Run p l e R s m args below meth c n0 P h k n pc Ls (.long y :: .long x :: st) := by
  subst hp; exact Run.pure (fun T locs X _ t z => XS.ladd X.here C.1 rfl (hb C.2.2.1 hd) rfl z) r
theorem s_lsub (C : Ctx p l e R s m args below meth c Z own cd maxL ret nm) {x y : Int64} (hd : decode cd pc = .ok (.lsub, 1)) (hp : pc + 1 = pc') (r : Run p l e R s m args below meth c n0 P h k n pc' Ls (.long (x - y) :: st)) : Run p l e R s m args below meth c n0 P h k n pc Ls (.long y :: .long x :: st) := by
  subst hp; exact Run.pure (fun T locs X _ t z => XS.lsub X.here C.1 rfl (hb C.2.2.1 hd) rfl z) r
theorem s_lmul (C : Ctx p l e R s m args below meth c Z own cd maxL ret nm) {x y : Int64} (hd : decode cd pc = .ok (.lmul, 1)) (hp : pc + 1 = pc') (r : Run p l e R s m args below meth c n0 P h k n pc' Ls (.long (x * y) :: st)) : Run p l e R s m args below meth c n0 P h k n pc Ls (.long y :: .long x :: st) := by
  subst hp; exact Run.pure (fun T locs X _ t z => XS.lmul X.here C.1 rfl (hb C.2.2.1 hd) rfl z) r
theorem s_land (C : Ctx p l e R s m args below meth c Z own cd maxL ret nm) {x y : Int64} (hd : decode cd pc = .ok (.land, 1)) (hp : pc + 1 = pc') (r : Run p l e R s m args below meth c n0 P h k n pc' Ls (.long (x &&& y) :: st)) : Run p l e R s m args below meth c n0 P h k n pc Ls (.long y :: .long x :: st) := by
  subst hp; exact Run.pure (fun T locs X _ t z => XS.land X.here C.1 rfl (hb C.2.2.1 hd) rfl z) r
theorem s_lor (C : Ctx p l e R s m args below meth c Z own cd maxL ret nm) {x y : Int64} (hd : decode cd pc = .ok (.lor, 1)) (hp : pc + 1 = pc') (r : Run p l e R s m args below meth c n0 P h k n pc' Ls (.long (x ||| y) :: st)) : Run p l e R s m args below meth c n0 P h k n pc Ls (.long y :: .long x :: st) := by
  subst hp; exact Run.pure (fun T locs X _ t z => XS.lor X.here C.1 rfl (hb C.2.2.1 hd) rfl z) r
theorem s_lxor (C : Ctx p l e R s m args below meth c Z own cd maxL ret nm) {x y : Int64} (hd : decode cd pc = .ok (.lxor, 1)) (hp : pc + 1 = pc') (r : Run p l e R s m args below meth c n0 P h k n pc' Ls (.long (x ^^^ y) :: st)) : Run p l e R s m args below meth c n0 P h k n pc Ls (.long y :: .long x :: st) := by
  subst hp; exact Run.pure (fun T locs X _ t z => XS.lxor X.here C.1 rfl (hb C.2.2.1 hd) rfl z) r
theorem s_lshl (C : Ctx p l e R s m args below meth c Z own cd maxL ret nm) {x : Int64} {y : Int32} (hd : decode cd pc = .ok (.lshl, 1)) (hp : pc + 1 = pc') (r : Run p l e R s m args below meth c n0 P h k n pc' Ls (.long (x <<< (y &&& 0x3f).toInt64) :: st)) : Run p l e R s m args below meth c n0 P h k n pc Ls (.int y :: .long x :: st) := by
  subst hp; exact Run.pure (fun T locs X _ t z => XS.lshl X.here C.1 rfl (hb C.2.2.1 hd) rfl z) r
theorem s_lshr (C : Ctx p l e R s m args below meth c Z own cd maxL ret nm) {x : Int64} {y : Int32} (hd : decode cd pc = .ok (.lshr, 1)) (hp : pc + 1 = pc') (r : Run p l e R s m args below meth c n0 P h k n pc' Ls (.long (x >>> (y &&& 0x3f).toInt64) :: st)) : Run p l e R s m args below meth c n0 P h k n pc Ls (.int y :: .long x :: st) := by
  subst hp; exact Run.pure (fun T locs X _ t z => XS.lshr X.here C.1 rfl (hb C.2.2.1 hd) rfl z) r
theorem s_lushr (C : Ctx p l e R s m args below meth c Z own cd maxL ret nm) {x : Int64} {y : Int32} (hd : decode cd pc = .ok (.lushr, 1)) (hp : pc + 1 = pc') (r : Run p l e R s m args below meth c n0 P h k n pc' Ls (.long ((x.toUInt64 >>> (y &&& 0x3f).toInt64.toUInt64).toInt64) :: st)) : Run p l e R s m args below meth c n0 P h k n pc Ls (.int y :: .long x :: st) := by
  subst hp; exact Run.pure (fun T locs X _ t z => XS.lushr X.here C.1 rfl (hb C.2.2.1 hd) rfl z) r
theorem s_idiv (C : Ctx p l e R s m args below meth c Z own cd maxL ret nm) {x y : Int32} (hd : decode cd pc = .ok (.idiv, 1)) (hp : pc + 1 = pc') (hy : y ≠ 0) (r : Run p l e R s m args below meth c n0 P h k n pc' Ls (.int (x / y) :: st)) : Run p l e R s m args below meth c n0 P h k n pc Ls (.int y :: .int x :: st) := by
  subst hp; exact Run.pure (fun T locs X _ t z => XS.idiv X.here C.1 rfl (hb C.2.2.1 hd) rfl hy z) r
theorem s_irem (C : Ctx p l e R s m args below meth c Z own cd maxL ret nm) {x y : Int32} (hd : decode cd pc = .ok (.irem, 1)) (hp : pc + 1 = pc') (hy : y ≠ 0) (r : Run p l e R s m args below meth c n0 P h k n pc' Ls (.int (x % y) :: st)) : Run p l e R s m args below meth c n0 P h k n pc Ls (.int y :: .int x :: st) := by
  subst hp; exact Run.pure (fun T locs X _ t z => iremM X C.1 (g := mkF m pc Ls (.int y :: .int x :: st)) rfl (hb C.2.2.1 hd) rfl hy z) r
theorem s_ldiv (C : Ctx p l e R s m args below meth c Z own cd maxL ret nm) {x y : Int64} (hd : decode cd pc = .ok (.ldiv, 1)) (hp : pc + 1 = pc') (hy : y ≠ 0) (r : Run p l e R s m args below meth c n0 P h k n pc' Ls (.long (x / y) :: st)) : Run p l e R s m args below meth c n0 P h k n pc Ls (.long y :: .long x :: st) := by
  subst hp; exact Run.pure (fun T locs X _ t z => XS.ldiv X.here C.1 rfl (hb C.2.2.1 hd) rfl hy z) r
theorem s_lrem (C : Ctx p l e R s m args below meth c Z own cd maxL ret nm) {x y : Int64} (hd : decode cd pc = .ok (.lrem, 1)) (hp : pc + 1 = pc') (hy : y ≠ 0) (r : Run p l e R s m args below meth c n0 P h k n pc' Ls (.long (x % y) :: st)) : Run p l e R s m args below meth c n0 P h k n pc Ls (.long y :: .long x :: st) := by
  subst hp; rw [← lrem_mod] at r; exact Run.pure (fun T locs X _ t z => XS.lrem X.here C.1 rfl (hb C.2.2.1 hd) rfl hy z) r
theorem s_ineg (C : Ctx p l e R s m args below meth c Z own cd maxL ret nm) {x : Int32} (hd : decode cd pc = .ok (.ineg, 1)) (hp : pc + 1 = pc') (r : Run p l e R s m args below meth c n0 P h k n pc' Ls (.int (-x) :: st)) : Run p l e R s m args below meth c n0 P h k n pc Ls (.int x :: st) := by
  subst hp; exact Run.pure (fun T locs X _ t z => XS.ineg X.here C.1 rfl (hb C.2.2.1 hd) rfl z) r
theorem s_lneg (C : Ctx p l e R s m args below meth c Z own cd maxL ret nm) {x : Int64} (hd : decode cd pc = .ok (.lneg, 1)) (hp : pc + 1 = pc') (r : Run p l e R s m args below meth c n0 P h k n pc' Ls (.long (-x) :: st)) : Run p l e R s m args below meth c n0 P h k n pc Ls (.long x :: st) := by
  subst hp; exact Run.pure (fun T locs X _ t z => XS.lneg X.here C.1 rfl (hb C.2.2.1 hd) rfl z) r
theorem s_i2l (C : Ctx p l e R s m args below meth c Z own cd maxL ret nm) {x : Int32} (hd : decode cd pc = .ok (.i2l, 1)) (hp : pc + 1 = pc') (r : Run p l e R s m args below meth c n0 P h k n pc' Ls (.long (x.toInt64) :: st)) : Run p l e R s m args below meth c n0 P h k n pc Ls (.int x :: st) := by
  subst hp; exact Run.pure (fun T locs X _ t z => XS.i2l X.here C.1 rfl (hb C.2.2.1 hd) rfl z) r
theorem s_l2i (C : Ctx p l e R s m args below meth c Z own cd maxL ret nm) {x : Int64} (hd : decode cd pc = .ok (.l2i, 1)) (hp : pc + 1 = pc') (r : Run p l e R s m args below meth c n0 P h k n pc' Ls (.int (x.toInt32) :: st)) : Run p l e R s m args below meth c n0 P h k n pc Ls (.long x :: st) := by
  subst hp; exact Run.pure (fun T locs X _ t z => XS.l2i X.here C.1 rfl (hb C.2.2.1 hd) rfl z) r
theorem s_i2b (C : Ctx p l e R s m args below meth c Z own cd maxL ret nm) {x : Int32} (hd : decode cd pc = .ok (.i2b, 1)) (hp : pc + 1 = pc') (r : Run p l e R s m args below meth c n0 P h k n pc' Ls (.int (x.toInt8.toInt32) :: st)) : Run p l e R s m args below meth c n0 P h k n pc Ls (.int x :: st) := by
  subst hp; exact Run.pure (fun T locs X _ t z => XS.i2b X.here C.1 rfl (hb C.2.2.1 hd) rfl z) r
theorem s_i2s (C : Ctx p l e R s m args below meth c Z own cd maxL ret nm) {x : Int32} (hd : decode cd pc = .ok (.i2s, 1)) (hp : pc + 1 = pc') (r : Run p l e R s m args below meth c n0 P h k n pc' Ls (.int (x.toInt16.toInt32) :: st)) : Run p l e R s m args below meth c n0 P h k n pc Ls (.int x :: st) := by
  subst hp; exact Run.pure (fun T locs X _ t z => XS.i2s X.here C.1 rfl (hb C.2.2.1 hd) rfl z) r
theorem s_i2c (C : Ctx p l e R s m args below meth c Z own cd maxL ret nm) {x : Int32} (hd : decode cd pc = .ok (.i2c, 1)) (hp : pc + 1 = pc') (r : Run p l e R s m args below meth c n0 P h k n pc' Ls (.int (x.toUInt32.toUInt16.toUInt32.toInt32) :: st)) : Run p l e R s m args below meth c n0 P h k n pc Ls (.int x :: st) := by
  subst hp; exact Run.pure (fun T locs X _ t z => XS.i2c X.here C.1 rfl (hb C.2.2.1 hd) rfl z) r
theorem s_lcmp (C : Ctx p l e R s m args below meth c Z own cd maxL ret nm) {x y : Int64} (hd : decode cd pc = .ok (.lcmp, 1)) (hp : pc + 1 = pc') (r : Run p l e R s m args below meth c n0 P h k n pc' Ls (.int (lcmpW x y) :: st)) : Run p l e R s m args below meth c n0 P h k n pc Ls (.long y :: .long x :: st) := by
  subst hp; exact Run.pure (fun T locs X _ t z => XS.lcmp X.here C.1 rfl (hb C.2.2.1 hd) rfl z) r
theorem s_goto (C : Ctx p l e R s m args below meth c Z own cd maxL ret nm) {o : Int} (hd : decode cd pc = .ok (.goto o, 3)) (hp : (pc : Int) + o = (pc' : Int)) (r : Run p l e R s m args below meth c n0 P h k n pc' Ls st) : Run p l e R s m args below meth c n0 P h k n pc Ls st :=
  Run.pure (fun T locs X _ t z => XS.goto X.here C.1 rfl (pc0 := pc) rfl (hb C.2.2.1 hd) (by omega) (by omega) z) r
theorem s_dup (C : Ctx p l e R s m args below meth c Z own cd maxL ret nm) {v : Value} (hd : decode cd pc = .ok (.dup, 1)) (hp : pc + 1 = pc') (hc : v.category = 1) (r : Run p l e R s m args below meth c n0 P h k n pc' Ls (v :: v :: st)) : Run p l e R s m args below meth c n0 P h k n pc Ls (v :: st) := by
  subst hp; exact Run.pure (fun T locs X _ t z => XS.dup X.here C.1 rfl (hb C.2.2.1 hd) rfl hc z) r
theorem s_pop (C : Ctx p l e R s m args below meth c Z own cd maxL ret nm) {v : Value} (hd : decode cd pc = .ok (.pop, 1)) (hp : pc + 1 = pc') (hc : v.category = 1) (r : Run p l e R s m args below meth c n0 P h k n pc' Ls st) : Run p l e R s m args below meth c n0 P h k n pc Ls (v :: st) := by
  subst hp; exact Run.pure (fun T locs X _ t z => XS.pop X.here C.1 rfl (hb C.2.2.1 hd) rfl hc z) r
theorem s_dup2 (C : Ctx p l e R s m args below meth c Z own cd maxL ret nm) {v w : Value} (hd : decode cd pc = .ok (.dup2, 1)) (hp : pc + 1 = pc') (hc : v.category = 1) (hc' : w.category = 1) (r : Run p l e R s m args below meth c n0 P h k n pc' Ls (v :: w :: v :: w :: st)) : Run p l e R s m args below meth c n0 P h k n pc Ls (v :: w :: st) := by
  subst hp; exact Run.pure (fun T locs X _ t z => XT.dup2 X.here C.1 rfl (hb C.2.2.1 hd) rfl hc hc' z) r
theorem s_dupX1 (C : Ctx p l e R s m args below meth c Z own cd maxL ret nm) {v w : Value} (hd : decode cd pc = .ok (.dup_x1, 1)) (hp : pc + 1 = pc') (hc : v.category = 1) (hc' : w.category = 1) (r : Run p l e R s m args below meth c n0 P h k n pc' Ls (v :: w :: v :: st)) : Run p l e R s m args below meth c n0 P h k n pc Ls (v :: w :: st) := by
  subst hp; exact Run.pure (fun T locs X _ t z => XS.dupX1 X.here C.1 rfl (hb C.2.2.1 hd) rfl hc hc' z) r
/-! branches -/
theorem s_if (C : Ctx p l e R s m args below meth c Z own cd maxL ret nm) {cc : ClassFile.Cond} {o : Int} {x : Int32} {pcY : Nat} (hd : decode cd pc = .ok (.ifCond cc o, 3)) (hp : pc + 3 = pc') (ho : (pc : Int) + o = (pcY : Int)) (rY : if_icmp.holds cc x 0 = true → Run p l e R s m args below meth c n0 P h k n pcY Ls st) (rN : if_icmp.holds cc x 0 = false → Run p l e R s m args below meth c n0 P h k n pc' Ls st) : Run p l e R s m args below meth c n0 P h k n pc Ls (.int x :: st) := by
  subst hp
  cases hq : if_icmp.holds cc x 0
  · exact Run.pure (fun T locs X _ t z => XS.ifNo X.here C.1 rfl (hb C.2.2.1 hd) rfl ((if0 _ _).trans hq) z) (rN hq)
  · exact Run.pure (fun T locs X _ t z => XS.ifYes X.here C.1 rfl (pc0 := pc) rfl (hb C.2.2.1 hd) rfl ((if0 _ _).trans hq) (by omega) (by omega) z) (rY hq)
theorem s_icmp (C : Ctx p l e R s m args below meth c Z own cd maxL ret nm) {cc : ClassFile.Cond} {o : Int} {x y : Int32} {pcY : Nat} (hd : decode cd pc = .ok (.if_icmp cc o, 3)) (hp : pc + 3 = pc') (ho : (pc : Int) + o = (pcY : Int)) (rY : if_icmp.holds cc x y = true → Run p l e R s m args below meth c n0 P h k n pcY Ls st) (rN : if_icmp.holds cc x y = false → Run p l e R s m args below meth c n0 P h k n pc' Ls st) : Run p l e R s m args below meth c n0 P h k n pc Ls (.int y :: .int x :: st) := by
  subst hp
  cases hq : if_icmp.holds cc x y
  · exact Run.pure (fun T locs X _ t z => XS.icmpNo X.here C.1 rfl (hb C.2.2.1 hd) rfl hq z) (rN hq)
  · exact Run.pure (fun T locs X _ t z => XS.icmpYes X.here C.1 rfl (pc0 := pc) rfl (hb C.2.2.1 hd) rfl hq (by omega) (by omega) z) (rY hq)
theorem holds_lt {x y : Int32} : (if_icmp.holds .lt x y = true → x < y) ∧ (if_icmp.holds .lt x y = false → ¬ x < y) := ⟨fun h => by simpa [if_icmp.holds] using h, fun h q => by simp [if_icmp.holds, q] at h⟩
theorem holds_ge {x y : Int32} : (if_icmp.holds .ge x y = true → ¬ x < y) ∧ (if_icmp.holds .ge x y = false → x < y) := ⟨fun h q => (by rw [(tlt q).2.1] at h; cases h), fun h => Decidable.byContradiction fun q => (by rw [(flt q).2.1] at h; cases h)⟩
theorem holds_gt {x y : Int32} : (if_icmp.holds .gt x y = true → y < x) ∧ (if_icmp.holds .gt x y = false → ¬ y < x) := ⟨fun h => Decidable.byContradiction fun q => (by rw [(flt q).2.2.1] at h; cases h), fun h q => (by rw [(tlt q).2.2.1] at h; cases h)⟩
theorem holds_le {x y : Int32} : (if_icmp.holds .le x y = true → ¬ y < x) ∧ (if_icmp.holds .le x y = false → y < x) := ⟨fun h q => (by rw [(tlt q).2.2.2] at h; cases h), fun h => Decidable.byContradiction fun q => (by rw [(flt q).2.2.2] at h; cases h)⟩
theorem holds_eq {x y : Int32} : (if_icmp.holds .eq x y = true → x = y) ∧ (if_icmp.holds .eq x y = false → ¬ x = y) := ⟨fun h => Decidable.byContradiction fun q => (by rw [(feq q).1] at h; cases h), fun h q => (by rw [(teq q).1] at h; cases h)⟩
theorem holds_ne {x y : Int32} : (if_icmp.holds .ne x y = true → ¬ x = y) ∧ (if_icmp.holds .ne x y = false → x = y) := ⟨fun h q => (by rw [(teq q).2] at h; cases h), fun h => Decidable.byContradiction fun q => (by rw [(feq q).2] at h; cases h)⟩
theorem s_if_lt (C : Ctx p l e R s m args below meth c Z own cd maxL ret nm) {o : Int} {x : Int32} {pcY : Nat} (hd : decode cd pc = .ok (.ifCond .lt o, 3)) (hp : pc + 3 = pc') (ho : (pc : Int) + o = (pcY : Int)) (rY : x < (0 : Int32) → Run p l e R s m args below meth c n0 P h k n pcY Ls st) (rN : ¬ x < (0 : Int32) → Run p l e R s m args below meth c n0 P h k n pc' Ls st) : Run p l e R s m args below meth c n0 P h k n pc Ls (.int x :: st) :=
  s_if C hd hp ho (fun h => rY (holds_lt.1 h)) (fun h => rN (holds_lt.2 h))
theorem s_icmp_lt (C : Ctx p l e R s m args below meth c Z own cd maxL ret nm) {o : Int} {x y : Int32} {pcY : Nat} (hd : decode cd pc = .ok (.if_icmp .lt o, 3)) (hp : pc + 3 = pc') (ho : (pc : Int) + o = (pcY : Int)) (rY : x < y → Run p l e R s m args below meth c n0 P h k n pcY Ls st) (rN : ¬ x < y → Run p l e R s m args below meth c n0 P h k n pc' Ls st) : Run p l e R s m args below meth c n0 P h k n pc Ls (.int y :: .int x :: st) :=
  s_icmp C hd hp ho (fun h => rY (holds_lt.1 h)) (fun h => rN (holds_lt.2 h))
theorem s_lc_lt (C : Ctx p l e R s m args below meth c Z own cd maxL ret nm) {o : Int} {x y : Int64} {pc1 pcY : Nat} (hd : decode cd pc = .ok (.lcmp, 1)) (hp1 : pc + 1 = pc1) (hd2 : decode cd pc1 = .ok (.ifCond .lt o, 3)) (hp : pc1 + 3 = pc') (ho : (pc1 : Int) + o = (pcY : Int)) (rY : x < y → Run p l e R s m args below meth c n0 P h k n pcY Ls st) (rN : ¬ x < y → Run p l e R s m args below meth c n0 P h k n pc' Ls st) : Run p l e R s m args below meth c n0 P h k n pc Ls (.long y :: .long x :: st) :=
  s_lcmp C hd hp1 (s_if_lt C hd2 hp ho (fun h => rY ((lw_lt x y).mp h)) (fun h => rN (fun q => h ((lw_lt x y).mpr q))))
theorem s_if_ge (C : Ctx p l e R s m args below meth c Z own cd maxL ret nm) {o : Int} {x : Int32} {pcY : Nat} (hd : decode cd pc = .ok (.ifCond .ge o, 3)) (hp : pc + 3 = pc') (ho : (pc : Int) + o = (pcY : Int)) (rY : ¬ x < (0 : Int32) → Run p l e R s m args below meth c n0 P h k n pcY Ls st) (rN : x < (0 : Int32) → Run p l e R s m args below meth c n0 P h k n pc' Ls st) : Run p l e R s m args below meth c n0 P h k n pc Ls (.int x :: st) :=
  s_if C hd hp ho (fun h => rY (holds_ge.1 h)) (fun h => rN (holds_ge.2 h))
theorem s_icmp_ge (C : Ctx p l e R s m args below meth c Z own cd maxL ret nm) {o : Int} {x y : Int32} {pcY : Nat} (hd : decode cd pc = .ok (.if_icmp .ge o, 3)) (hp : pc + 3 = pc') (ho : (pc : Int) + o = (pcY : Int)) (rY : ¬ x < y → Run p l e R s m args below meth c n0 P h k n pcY Ls st) (rN : x < y → Run p l e R s m args below meth c n0 P h k n pc' Ls st) : Run p l e R s m args below meth c n0 P h k n pc Ls (.int y :: .int x :: st) :=
  s_icmp C hd hp ho (fun h => rY (holds_ge.1 h)) (fun h => rN (holds_ge.2 h))
theorem s_lc_ge (C : Ctx p l e R s m args below meth c Z own cd maxL ret nm) {o : Int} {x y : Int64} {pc1 pcY : Nat} (hd : decode cd pc = .ok (.lcmp, 1)) (hp1 : pc + 1 = pc1) (hd2 : decode cd pc1 = .ok (.ifCond .ge o, 3)) (hp : pc1 + 3 = pc') (ho : (pc1 : Int) + o = (pcY : Int)) (rY : ¬ x < y → Run p l e R s m args below meth c n0 P h k n pcY Ls st) (rN : x < y → Run p l e R s m args below meth c n0 P h k n pc' Ls st) : Run p l e R s m args below meth c n0 P h k n pc Ls (.long y :: .long x :: st) :=
  s_lcmp C hd hp1 (s_if_ge C hd2 hp ho (fun h => rY (fun q => h ((lw_lt x y).mpr q))) (fun h => rN ((lw_lt x y).mp h)))
theorem s_if_gt (C : Ctx p l e R s m args below meth c Z own cd maxL ret nm) {o : Int} {x : Int32} {pcY : Nat} (hd : decode cd pc = .ok (.ifCond .gt o, 3)) (hp : pc + 3 = pc') (ho : (pc : Int) + o = (pcY : Int)) (rY : (0 : Int32) < x → Run p l e R s m args below meth c n0 P h k n pcY Ls st) (rN : ¬ (0 : Int32) < x → Run p l e R s m args below meth c n0 P h k n pc' Ls st) : Run p l e R s m args below meth c n0 P h k n pc Ls (.int x :: st) :=
  s_if C hd hp ho (fun h => rY (holds_gt.1 h)) (fun h => rN (holds_gt.2 h))
theorem s_icmp_gt (C : Ctx p l e R s m args below meth c Z own cd maxL ret nm) {o : Int} {x y : Int32} {pcY : Nat} (hd : decode cd pc = .ok (.if_icmp .gt o, 3)) (hp : pc + 3 = pc') (ho : (pc : Int) + o = (pcY : Int)) (rY : y < x → Run p l e R s m args below meth c n0 P h k n pcY Ls st) (rN : ¬ y < x → Run p l e R s m args below meth c n0 P h k n pc' Ls st) : Run p l e R s m args below meth c n0 P h k n pc Ls (.int y :: .int x :: st) :=
  s_icmp C hd hp ho (fun h => rY (holds_gt.1 h)) (fun h => rN (holds_gt.2 h))
theorem s_lc_gt (C : Ctx p l e R s m args below meth c Z own cd maxL ret nm) {o : Int} {x y : Int64} {pc1 pcY : Nat} (hd : decode cd pc = .ok (.lcmp, 1)) (hp1 : pc + 1 = pc1) (hd2 : decode cd pc1 = .ok (.ifCond .gt o, 3)) (hp : pc1 + 3 = pc') (ho : (pc1 : Int) + o = (pcY : Int)) (rY : y < x → Run p l e R s m args below meth c n0 P h k n pcY Ls st) (rN : ¬ y < x → Run p l e R s m args below meth c n0 P h k n pc' Ls st) : Run p l e R s m args below meth c n0 P h k n pc Ls (.long y :: .long x :: st) :=
  s_lcmp C hd hp1 (s_if_gt C hd2 hp ho (fun h => rY ((lw_gt x y).mp h)) (fun h => rN (fun q => h ((lw_gt x y).mpr q))))
theorem s_if_le (C : Ctx p l e R s m args below meth c Z own cd maxL ret nm) {o : Int} {x : Int32} {pcY : Nat} (hd : decode cd pc = .ok (.ifCond .le o, 3)) (hp : pc + 3 = pc') (ho : (pc : Int) + o = (pcY : Int)) (rY : ¬ (0 : Int32) < x → Run p l e R s m args below meth c n0 P h k n pcY Ls st) (rN : (0 : Int32) < x → Run p l e R s m args below meth c n0 P h k n pc' Ls st) : Run p l e R s m args below meth c n0 P h k n pc Ls (.int x :: st) :=
  s_if C hd hp ho (fun h => rY (holds_le.1 h)) (fun h => rN (holds_le.2 h))
theorem s_icmp_le (C : Ctx p l e R s m args below meth c Z own cd maxL ret nm) {o : Int} {x y : Int32} {pcY : Nat} (hd : decode cd pc = .ok (.if_icmp .le o, 3)) (hp : pc + 3 = pc') (ho : (pc : Int) + o = (pcY : Int)) (rY : ¬ y < x → Run p l e R s m args below meth c n0 P h k n pcY Ls st) (rN : y < x → Run p l e R s m args below meth c n0 P h k n pc' Ls st) : Run p l e R s m args below meth c n0 P h k n pc Ls (.int y :: .int x :: st) :=
  s_icmp C hd hp ho (fun h => rY (holds_le.1 h)) (fun h => rN (holds_le.2 h))
theorem s_lc_le (C : Ctx p l e R s m args below meth c Z own cd maxL ret nm) {o : Int} {x y : Int64} {pc1 pcY : Nat} (hd : decode cd pc = .ok (.lcmp, 1)) (hp1 : pc + 1 = pc1) (hd2 : decode cd pc1 = .ok (.ifCond .le o, 3)) (hp : pc1 + 3 = pc') (ho : (pc1 : Int) + o = (pcY : Int)) (rY : ¬ y < x → Run p l e R s m args below meth c n0 P h k n pcY Ls st) (rN : y < x → Run p l e R s m args below meth c n0 P h k n pc' Ls st) : Run p l e R s m args below meth c n0 P h k n pc Ls (.long y :: .long x :: st) :=
  s_lcmp C hd hp1 (s_if_le C hd2 hp ho (fun h => rY (fun q => h ((lw_gt x y).mpr q))) (fun h => rN ((lw_gt x y).mp h)))
theorem s_if_eq (C : Ctx p l e R s m args below meth c Z own cd maxL ret nm) {o : Int} {x : Int32} {pcY : Nat} (hd : decode cd pc = .ok (.ifCond .eq o, 3)) (hp : pc + 3 = pc') (ho : (pc : Int) + o = (pcY : Int)) (rY : x = (0 : Int32) → Run p l e R s m args below meth c n0 P h k n pcY Ls st) (rN : ¬ x = (0 : Int32) → Run p l e R s m args below meth c n0 P h k n pc' Ls st) : Run p l e R s m args below meth c n0 P h k n pc Ls (.int x :: st) :=
  s_if C hd hp ho (fun h => rY (holds_eq.1 h)) (fun h => rN (holds_eq.2 h))
theorem s_icmp_eq (C : Ctx p l e R s m args below meth c Z own cd maxL ret nm) {o : Int} {x y : Int32} {pcY : Nat} (hd : decode cd pc = .ok (.if_icmp .eq o, 3)) (hp : pc + 3 = pc') (ho : (pc : Int) + o = (pcY : Int)) (rY : x = y → Run p l e R s m args below meth c n0 P h k n pcY Ls st) (rN : ¬ x = y → Run p l e R s m args below meth c n0 P h k n pc' Ls st) : Run p l e R s m args below meth c n0 P h k n pc Ls (.int y :: .int x :: st) :=
  s_icmp C hd hp ho (fun h => rY (holds_eq.1 h)) (fun h => rN (holds_eq.2 h))
theorem s_lc_eq (C : Ctx p l e R s m args below meth c Z own cd maxL ret nm) {o : Int} {x y : Int64} {pc1 pcY : Nat} (hd : decode cd pc = .ok (.lcmp, 1)) (hp1 : pc + 1 = pc1) (hd2 : decode cd pc1 = .ok (.ifCond .eq o, 3)) (hp : pc1 + 3 = pc') (ho : (pc1 : Int) + o = (pcY : Int)) (rY : x = y → Run p l e R s m args below meth c n0 P h k n pcY Ls st) (rN : ¬ x = y → Run p l e R s m args below meth c n0 P h k n pc' Ls st) : Run p l e R s m args below meth c n0 P h k n pc Ls (.long y :: .long x :: st) :=
  s_lcmp C hd hp1 (s_if_eq C hd2 hp ho (fun h => rY ((lw_eq x y).mp h)) (fun h => rN (fun q => h ((lw_eq x y).mpr q))))
theorem s_if_ne (C : Ctx p l e R s m args below meth c Z own cd maxL ret nm) {o : Int} {x : Int32} {pcY : Nat} (hd : decode cd pc = .ok (.ifCond .ne o, 3)) (hp : pc + 3 = pc') (ho : (pc : Int) + o = (pcY : Int)) (rY : ¬ x = (0 : Int32) → Run p l e R s m args below meth c n0 P h k n pcY Ls st) (rN : x = (0 : Int32) → Run p l e R s m args below meth c n0 P h k n pc' Ls st) : Run p l e R s m args below meth c n0 P h k n pc Ls (.int x :: st) :=
  s_if C hd hp ho (fun h => rY (holds_ne.1 h)) (fun h => rN (holds_ne.2 h))
theorem s_icmp_ne (C : Ctx p l e R s m args below meth c Z own cd maxL ret nm) {o : Int} {x y : Int32} {pcY : Nat} (hd : decode cd pc = .ok (.if_icmp .ne o, 3)) (hp : pc + 3 = pc') (ho : (pc : Int) + o = (pcY : Int)) (rY : ¬ x = y → Run p l e R s m args below meth c n0 P h k n pcY Ls st) (rN : x = y → Run p l e R s m args below meth c n0 P h k n pc' Ls st) : Run p l e R s m args below meth c n0 P h k n pc Ls (.int y :: .int x :: st) :=
  s_icmp C hd hp ho (fun h => rY (holds_ne.1 h)) (fun h => rN (holds_ne.2 h))
theorem s_lc_ne (C : Ctx p l e R s m args below meth c Z own cd maxL ret nm) {o : Int} {x y : Int64} {pc1 pcY : Nat} (hd : decode cd pc = .ok (.lcmp, 1)) (hp1 : pc + 1 = pc1) (hd2 : decode cd pc1 = .ok (.ifCond .ne o, 3)) (hp : pc1 + 3 = pc') (ho : (pc1 : Int) + o = (pcY : Int)) (rY : ¬ x = y → Run p l e R s m args below meth c n0 P h k n pcY Ls st) (rN : x = y → Run p l e R s m args below meth c n0 P h k n pc' Ls st) : Run p l e R s m args below meth c n0 P h k n pc Ls (.long y :: .long x :: st) :=
  s_lcmp C hd hp1 (s_if_ne C hd2 hp ho (fun h => rY (fun q => h ((lw_eq x y).mpr q))) (fun h => rN ((lw_eq x y).mp h)))
theorem s_ifnullR (C : Ctx p l e R s m args below meth c Z own cd maxL ret nm) {o : Int} {b : Addr} (hd : decode cd pc = .ok (.ifnull o, 3)) (hp : pc + 3 = pc') (r : Run p l e R s m args below meth c n0 P h k n pc' Ls st) : Run p l e R s m args below meth c n0 P h k n pc Ls (.ref b :: st) := by
  subst hp; exact Run.pure (fun T locs X _ t z => XS.ifnullNo X.here C.1 rfl (hb C.2.2.1 hd) rfl z) r
theorem s_ifnullN (C : Ctx p l e R s m args below meth c Z own cd maxL ret nm) {o : Int} (hd : decode cd pc = .ok (.ifnull o, 3)) (hp : (pc : Int) + o = (pc' : Int)) (r : Run p l e R s m args below meth c n0 P h k n pc' Ls st) : Run p l e R s m args below meth c n0 P h k n pc Ls (.null :: st) :=
  Run.pure (fun T locs X _ t z => XS.ifnullYes X.here C.1 rfl (pc0 := pc) rfl (hb C.2.2.1 hd) rfl (by omega) (by omega) z) r
theorem s_ifnonnullR (C : Ctx p l e R s m args below meth c Z own cd maxL ret nm) {o : Int} {b : Addr} (hd : decode cd pc = .ok (.ifnonnull o, 3)) (hp : (pc : Int) + o = (pc' : Int)) (r : Run p l e R s m args below meth c n0 P h k n pc' Ls st) : Run p l e R s m args below meth c n0 P h k n pc Ls (.ref b :: st) :=
  Run.pure (fun T locs X _ t z => XS.ifnonnullYes X.here C.1 rfl (pc0 := pc) rfl (hb C.2.2.1 hd) rfl (by omega) (by omega) z) r
theorem s_ifnonnullN (C : Ctx p l e R s m args below meth c Z own cd maxL ret nm) {o : Int} (hd : decode cd pc = .ok (.ifnonnull o, 3)) (hp : pc + 3 = pc') (r : Run p l e R s m args below meth c n0 P h k n pc' Ls st) : Run p l e R s m args below meth c n0 P h k n pc Ls (.null :: st) := by
  subst hp; exact Run.pure (fun T locs X _ t z => XS.ifnonnullNo X.here C.1 rfl (hb C.2.2.1 hd) rfl z) r
theorem s_acmp (C : Ctx p l e R s m args below meth c Z own cd maxL ret nm) {cc : ClassFile.ACond} {o : Int} {x y : Value} {same : Bool} (hd : decode cd pc = .ok (.if_acmp cc o, 3)) (h1 : x.isRef = true) (h2 : y.isRef = true) (hq : decide (x = y) = same) (ho : 0 ≤ (pc : Int) + o) (hp : pc' = if acV cc same = true then ((pc : Int) + o).toNat else pc + 3) (r : Run p l e R s m args below meth c n0 P h k n pc' Ls st) : Run p l e R s m args below meth c n0 P h k n pc Ls (y :: x :: st) :=
  Run.pure (fun T locs X _ t z => Jvm.RoadKit.acmp (g := mkF m pc Ls (y :: x :: st)) X C.1 rfl h1 h2 rfl (hb C.2.2.1 hd) rfl hq ho hp z) r
/-! returns -/
theorem Run.out {v : Option Value} (C : Ctx p l e R s m args below meth c Z own cd maxL ret nm) (hv : ret = none → v = none) (f : ∀ T locs, Stand p l e R s m args below meth c T locs k n → ∀ fs, (∀ (f : JFrame) (acts : List Action), f.method = m → f.locked = none → f.entered = [] → (doReturn e (T.setTop f) acts v).1 = T.setFrames fs) → Steps p.tables e below (T.setTop (mkF m pc Ls st)) (T.setFrames fs)) (hk : k ≤ R.cells) (hn : n ≤ R.slots) (hP : P v h) : Run p l e R s m args below meth c n0 P h k n pc Ls st := fun T locs X eT N => by
  obtain ⟨fs, hr, hrun, hended, hW, hsame⟩ := X.leave (v := v) (fun h => hv (C.2.2.2.2.2.1 ▸ h)) C.2.2.2.2.2.2.1
  exact ⟨_, _, f T locs X fs hr, hrun, hended, _, _, rfl, ⟨(by rw [show (T.setFrames fs).heap = h from eT]; exact hP), N⟩, ⟨_, rfl⟩, hW, hsame.mono hk hn⟩
theorem s_retI {Q : Int32 → Heap → Prop} (C : Ctx p l e R s m args below meth c Z own cd maxL (some .int) nm) {z : Int32} (hd : decode cd pc = .ok (.ireturn, 1)) (hk : k ≤ R.cells) (hn : n ≤ R.slots) (hQ : Q z h) : Run p l e R s m args below meth c n0 (RetI Q) h k n pc Ls (.int z :: st) :=
  Run.out C (fun h => by cases h) (fun T locs X fs hr => retOut X C.1 C.2.2.2.2.2.1 rfl (Or.inl ⟨rfl, Or.inl rfl, _, rfl⟩) (hb C.2.2.1 hd) hr) hk hn ⟨_, rfl, hQ⟩
theorem s_retN {Q : Int32 → Heap → Prop} {t : FieldType} (C : Ctx p l e R s m args below meth c Z own cd maxL (some t) nm) (ht : t = .boolean ∨ t = .byte ∨ t = .char ∨ t = .short) {z : Int32} (hd : decode cd pc = .ok (.ireturn, 1)) (hk : k ≤ R.cells) (hn : n ≤ R.slots) (hQ : Q (nar t z) h) : Run p l e R s m args below meth c n0 (RetI Q) h k n pc Ls (.int z :: st) :=
  Run.out C (fun h => by cases h) (fun T locs X fs hr => retN X C.1 C.2.2.2.2.2.1 ht (hb C.2.2.1 hd) hr) hk hn ⟨_, rfl, hQ⟩
theorem s_retL {Q : Int64 → Heap → Prop} (C : Ctx p l e R s m args below meth c Z own cd maxL (some .long) nm) {z : Int64} (hd : decode cd pc = .ok (.lreturn, 1)) (hk : k ≤ R.cells) (hn : n ≤ R.slots) (hQ : Q z h) : Run p l e R s m args below meth c n0 (RetL Q) h k n pc Ls (.long z :: st) :=
  Run.out C (fun h => by cases h) (fun T locs X fs hr => retOut X C.1 C.2.2.2.2.2.1 rfl (Or.inr (Or.inl ⟨rfl, rfl, _, rfl⟩)) (hb C.2.2.1 hd) hr) hk hn ⟨_, rfl, hQ⟩
theorem s_retA {Q : Value → Heap → Prop} {t : FieldType} (C : Ctx p l e R s m args below meth c Z own cd maxL (some t) nm) (ht : t.isReference = true) {v : Value} (hv : v.isRef = true) (hn' : narrow t v = v) (hd : decode cd pc = .ok (.areturn, 1)) (hk : k ≤ R.cells) (hn : n ≤ R.slots) (hQ : Q v h) : Run p l e R s m args below meth c n0 (RetV Q) h k n pc Ls (v :: st) :=
  Run.out C (fun h => by cases h) (fun T locs X fs hr => retOut X C.1 C.2.2.2.2.2.1 hn' (Or.inr (Or.inr (Or.inr (Or.inr ⟨rfl, ht, hv⟩)))) (hb C.2.2.1 hd) hr) hk hn ⟨_, rfl, hQ⟩
theorem s_ret0 {Q : Heap → Prop} (C : Ctx p l e R s m args below meth c Z own cd maxL none nm) (hd : decode cd pc = .ok (.return_, 1)) (hk : k ≤ R.cells) (hn : n ≤ R.slots) (hQ : Q h) : Run p l e R s m args below meth c n0 (Ret0 Q) h k n pc Ls [] :=
  Run.out C (fun _ => rfl) (fun T locs X fs hr => X.returnOut C.1 C.2.2.2.2.2.1 (hb C.2.2.1 hd) hr) hk hn ⟨rfl, hQ⟩
/-! fields, objects -/
theorem s_getF (C : Ctx p l e R s m args below meth c Z own cd maxL ret nm) {O f d : String} {i : Nat} {a : Addr} {v : Value} (hd : decode cd pc = .ok (.getfield i, 3)) (hp : pc + 3 = pc') (w : (Jvm.Cond.fieldLink own i O f d).before a0 Z = true) (F : Fld Z h a O f d v) (r : Run p l e R s m args below meth c n0 P h k n pc' Ls (v :: st)) : Run p l e R s m args below meth c n0 P h k n pc Ls (.ref a :: st) := by
  subst hp; exact Run.warm (fun T locs X eT => getF X C.1 C.2.1 C.2.2.2.2.1 (host := "") (Or.inl w) Via.refl eT F (g := mkF m pc Ls (.ref a :: st)) rfl rfl (hb C.2.2.1 hd)) r
theorem s_getS (C : Ctx p l e R s m args below meth c Z own cd maxL ret nm) {O f d : String} {i : Nat} {v : Value} (hd : decode cd pc = .ok (.getstatic i, 3)) (hp : pc + 3 = pc') (w : (Jvm.Cond.fieldLink own i O f d).before a0 Z = true) (F : Sta Z h O f d v) (r : Run p l e R s m args below meth c n0 P h k n pc' Ls (v :: st)) : Run p l e R s m args below meth c n0 P h k n pc Ls st := by
  subst hp; exact Run.warm (fun T locs X eT => getS (host := "") X C.1 C.2.1 C.2.2.2.2.1 w Via.refl eT F (g := mkF m pc Ls st) rfl (hb C.2.2.1 hd)) r
theorem s_putF (C : Ctx p l e R s m args below meth c Z own cd maxL ret nm) {O f d K : String} {i kk : Nat} {a : Addr} {v old : Value} {ty : FieldType} (hd : decode cd pc = .ok (.putfield i, 3)) (hp : pc + 3 = pc') (w : (Jvm.Cond.fieldLink own i O f d).before a0 Z = true) (F : Fld Z h a O f d old) (E : Exa Z h a K)
    (L : (Jvm.Cond.lays K O f d).before a0 Z = true ∨ ((Jvm.Cond.laysFinal K O f d).before a0 Z = true ∧ own = O ∧ nm = "<init>")) (wi : (Jvm.Cond.instantiable K kk).before a0 Z = true) (hty : parseFieldDescriptor d = some ty) (hn : narrow ty v = v) (hf : fits ty v = true) (ha : n0 ≤ a)
    (r : ∀ h', Wr h h' a (Jvm.RoadKit.slotOf Z O f d) v → Run p l e R s m args below meth c n0 P h' k n pc' Ls st) : Run p l e R s m args below meth c n0 P h k n pc Ls (v :: .ref a :: st) := by
  subst hp
  intro T locs X eT N
  obtain ⟨T', h', X', e', W, q⟩ := putF X C.1 C.2.1 C.2.2.2.2.1 (host := "") (Or.inl w) Via.refl eT F E (L.imp id fun z => ⟨z.1, z.2.1, C.2.2.2.2.2.2.2.trans z.2.2⟩) wi hty hn hf (g := mkF m pc Ls (v :: .ref a :: st)) rfl rfl (hb C.2.2.1 hd)
  obtain ⟨s₂, o, z, r⟩ := r h' W T' _ X' e' (Fr.snoc X' N ha)
  exact ⟨s₂, o, q _ z, r⟩
theorem s_new (C : Ctx p l e R s m args below meth c Z own cd maxL ret nm) {K : String} {i sl k' n' : Nat} (hd : decode cd pc = .ok (.new i, 3)) (hp : pc + 3 = pc') (w : (Jvm.Cond.classLink own i K).before a0 Z = true) (wi : (Jvm.Cond.instantiable K sl).before a0 Z = true) (wz : (Jvm.Cond.initialized K).before a0 Z = true) (hk : k + 1 = k') (hk' : k' ≤ R.cells) (hn : n + sl = n') (hn' : n' ≤ R.slots)
    (r : ∀ h' a, Ext h h' → a = h.size → Exa Z h' a K → (∀ {O nm d : String} {ty : FieldType}, Laid Z a0 K O nm d → parseFieldDescriptor d = some ty → Fld Z h' a O nm d (defaultValue ty)) → Run p l e R s m args below meth c n0 P h' k' n' pc' Ls (.ref a :: st)) : Run p l e R s m args below meth c n0 P h k n pc Ls st := by
  subst hp hk hn
  intro T locs X eT N
  obtain ⟨T', h', X', e', E, A, D, -, q⟩ := newO X C.1 C.2.1 C.2.2.2.2.1 w wi wz eT (g := mkF m pc Ls st) rfl (hb C.2.2.1 hd) hk' hn'
  obtain ⟨s₂, o, z, r⟩ := r h' _ E rfl A D T' _ X' e' N
  exact ⟨s₂, o, q _ z, r⟩
theorem s_initO (C : Ctx p l e R s m args below meth c Z own cd maxL ret nm) {i W : Nat} {a : Addr} (hd : decode cd pc = .ok (.invokespecial i, 3)) (hp : pc + 3 = pc') (w1 : (Jvm.Cond.methodLink own i Lib.objectInit).before a0 Z = true) (w2 : (Jvm.Cond.instanceMethod Lib.objectInit).before a0 Z = true) (w3 : (Jvm.Cond.code Lib.objectInit ⟨#[0xb1]⟩ 1 none).before a0 Z = true) (hs : Ls.size = maxL) (hf : 1 ≤ R.frames) (hW : (st.map fun v => v.category).sum = W) (hl : W + 12 ≤ R.locals)
    (r : Run p l e R s m args below meth c n0 P h k n pc' Ls st) : Run p l e R s m args below meth c n0 P h k n pc Ls (.ref a :: st) := by
  subst hp; exact Run.warm (fun T locs X eT => initO X C.1 C.2.1 C.2.2.2.2.1 w1 w2 w3 eT (g := mkF m pc Ls (.ref a :: st)) rfl (by rw [C.2.2.2.1]; exact hs) rfl (hb C.2.2.1 hd) hf (W := W) (by show 2 * 0 + _ ≤ _; omega) hl) r
theorem s_cast (C : Ctx p l e R s m args below meth c Z own cd maxL ret nm) {K : String} {i : Nat} {a : Addr} (hd : decode cd pc = .ok (.checkcast i, 3)) (hp : pc + 3 = pc') (w : (Jvm.Cond.classLink own i K).before a0 Z = true) (F : Ins Z h a K true) (r : Run p l e R s m args below meth c n0 P h k n pc' Ls (.ref a :: st)) : Run p l e R s m args below meth c n0 P h k n pc Ls (.ref a :: st) := by
  subst hp; exact Run.warm (fun T locs X eT => castY X C.1 C.2.1 C.2.2.2.2.1 w eT F (g := mkF m pc Ls (.ref a :: st)) rfl rfl (hb C.2.2.1 hd)) r
theorem s_instY (C : Ctx p l e R s m args below meth c Z own cd maxL ret nm) {K : String} {i : Nat} {a : Addr} (hd : decode cd pc = .ok (.instanceof i, 3)) (hp : pc + 3 = pc') (w : (Jvm.Cond.classLink own i K).before a0 Z = true) (F : Ins Z h a K true) (r : Run p l e R s m args below meth c n0 P h k n pc' Ls (.int 1 :: st)) : Run p l e R s m args below meth c n0 P h k n pc Ls (.ref a :: st) := by
  subst hp; exact Run.warm (fun T locs X eT => instY X C.1 C.2.1 C.2.2.2.2.1 w eT F (g := mkF m pc Ls (.ref a :: st)) rfl rfl (hb C.2.2.1 hd)) r
/-! calls -/
theorem Met.back {y : MethodName} {bytes : ByteArray} {mL len W : Nat} {rt : Option FieldType} {rm : Room} {as : Array Value} {Q : Option Value → Heap → Prop} (M : Met l Z y bytes mL rt [] rm as h n0 Q) (hZ : Z.Warmed39 s.vm) (wc : (Jvm.Cond.code y bytes mL rt).before a0 Z = true) (wz : (Jvm.Cond.initialized y.cls).before a0 Z = true) (hf : rm.frames + 1 ≤ R.frames) (hl : W + (mL + 11) + rm.locals ≤ R.locals) :
    Back l R p e below s args y len W (fun A a => a = as ∧ A.U.heap = h ∧ A.cells + rm.cells ≤ R.cells ∧ A.slots + rm.slots ≤ R.slots) (fun A _ v B => ∃ L, (Q v B.U.heap ∧ Fr n0 L) ∧ B.locs = A.locs ++ L ∧ B.cells = A.cells + rm.cells ∧ B.slots = A.slots + rm.slots) :=
  backOf (Q := fun v h L => Q v h ∧ Fr n0 L) M hZ wc wz hf hl
theorem s_callS (C : Ctx p l e R s m args below meth c Z own cd maxL ret nm) {y : MethodName} {bytes : ByteArray} {mL i W k' n' : Nat} {rt : Option FieldType} {rm : Room} {Q : Option Value → Heap → Prop} (hd : decode cd pc = .ok (.invokestatic i, 3)) (hp : pc + 3 = pc') (wl : (Jvm.Cond.methodLink own i y).before a0 Z = true) (ws : (Jvm.Cond.static y).before a0 Z = true) (wz : (Jvm.Cond.initialized y.cls).before a0 Z = true) (wc : (Jvm.Cond.code y bytes mL rt).before a0 Z = true) (hy : y.cls ≠ "java/lang/invoke/MethodHandle" ∧ y.cls ≠ "java/lang/invoke/VarHandle") (as rest : List Value) {ps : List FieldType} {rr : Option FieldType} (hdes : parseMethodDescriptor y.desc = some ⟨ps, rr⟩) (hlen : as.length = ps.length) (hst : st = as.reverse ++ rest)
    (M : Met l Z y bytes mL rt [] rm as.toArray h n0 Q) (hs : Ls.size = maxL) (hW : (rest.map fun v => v.category).sum = W) (hf : rm.frames + 1 ≤ R.frames) (hl : W + (mL + 11) + rm.locals ≤ R.locals) (hk : k + rm.cells = k') (hk' : k' ≤ R.cells) (hn : n + rm.slots = n') (hn' : n' ≤ R.slots)
    (r : ∀ v h', Q v h' → Run p l e R s m args below meth c n0 P h' k' n' pc' Ls (v.toList ++ rest)) : Run p l e R s m args below meth c n0 P h k n pc Ls st := by
  subst hp hk hn hst
  intro T locs X eT N
  obtain ⟨v, _, ⟨T', L', k', n'⟩, -, X', ⟨Lc, ⟨hQ, N'⟩, l', y', z'⟩, q⟩ := Jvm.LawKit.callS X C.1 (y := y) C.2.2.2.2.1 (mvT C.2.1 wl) (mvT C.2.1 ws) (mvT C.2.1 wz) (mvT C.2.1 wc) hy (M.back (W := W) C.2.1 wc wz hf hl) (g := mkF m pc Ls (as.reverse ++ rest)) rfl (by rw [C.2.2.2.1]; exact hs) (argsL := as) (rest := rest) (lenOf hdes hlen) rfl (by show 2 * 0 + _ ≤ _; omega) (hb C.2.2.1 hd) (fun _ _ => ⟨rfl, eT, hk', hn'⟩)
  dsimp only [Pt.U, Pt.locs, Pt.cells, Pt.slots] at X' l' y' z' q hQ
  subst l' y' z'
  obtain ⟨s₂, o, z, r⟩ := r v _ hQ T' _ X' rfl (Fr.app N N')
  exact ⟨s₂, o, q _ z, r⟩
theorem s_callV (C : Ctx p l e R s m args below meth c Z own cd maxL ret nm) {y z : MethodName} {K : String} {bytes : ByteArray} {mL i W k' n' : Nat} {rt : Option FieldType} {rm : Room} {b : Addr} {Q : Option Value → Heap → Prop} (hd : decode cd pc = .ok (.invokevirtual i, 3)) (hp : pc + 3 = pc') (wl : (Jvm.Cond.methodLink own i y).before a0 Z = true) (wd : (Jvm.Cond.declares y).before a0 Z = true) (hnf : NotFace s y) (wsel : (Jvm.Cond.selects K y z).before a0 Z = true) (wi : (Jvm.Cond.instanceMethod z).before a0 Z = true) (wz : (Jvm.Cond.initialized z.cls).before a0 Z = true) (wc : (Jvm.Cond.code z bytes mL rt).before a0 Z = true) (hy : y.cls ≠ "java/lang/invoke/MethodHandle" ∧ y.cls ≠ "java/lang/invoke/VarHandle") (E : Exa Z h b K) (as rest : List Value) {ps : List FieldType} {rr : Option FieldType} (hdes : parseMethodDescriptor y.desc = some ⟨ps, rr⟩) (hlen : as.length = ps.length) (hst : st = as.reverse ++ .ref b :: rest)
    (M : Met l Z z bytes mL rt [] rm (.ref b :: as).toArray h n0 Q) (hs : Ls.size = maxL) (hW : (rest.map fun v => v.category).sum = W) (hf : rm.frames + 1 ≤ R.frames) (hl : W + (mL + 11) + rm.locals ≤ R.locals) (hk : k + rm.cells = k') (hk' : k' ≤ R.cells) (hn : n + rm.slots = n') (hn' : n' ≤ R.slots)
    (r : ∀ v h', Q v h' → Run p l e R s m args below meth c n0 P h' k' n' pc' Ls (v.toList ++ rest)) : Run p l e R s m args below meth c n0 P h k n pc Ls st := by
  subst hp hk hn hst
  intro T locs X eT N
  obtain ⟨cq, kq, qa, qb, qc⟩ := isOf C.2.1 eT E
  obtain ⟨v, _, ⟨T', L', k', n'⟩, -, X', ⟨Lc, ⟨hQ, N'⟩, l', y', z'⟩, q⟩ := X.virtualBack C.1 (y := y) (z := z) C.2.2.2.2.1 (mvT C.2.1 wl) (mvT C.2.1 wd) hnf (mvT C.2.1 wsel) (mvT C.2.1 wi) hy (M.back (W := W) C.2.1 wc wz hf hl) qa qc (g := mkF m pc Ls (as.reverse ++ .ref b :: rest)) rfl (by rw [C.2.2.2.1]; exact hs) (Steps.refl _) (argsL := as) (rest := rest) (lenOf hdes hlen) rfl (by show 2 * 0 + _ ≤ _; omega) (hb C.2.2.1 hd) (fun _ _ => ⟨rfl, eT, hk', hn'⟩)
  dsimp only [Pt.U, Pt.locs, Pt.cells, Pt.slots] at X' l' y' z' q hQ
  subst l' y' z'
  obtain ⟨s₂, o, z, r⟩ := r v _ hQ T' _ X' rfl (Fr.app N N')
  exact ⟨s₂, o, q.trans z, r⟩
theorem s_callI (C : Ctx p l e R s m args below meth c Z own cd maxL ret nm) {y : MethodName} {bytes : ByteArray} {mL i W k' n' : Nat} {rm : Room} {b : Addr} {Q : Heap → Prop} (hd : decode cd pc = .ok (.invokespecial i, 3)) (hp : pc + 3 = pc') (wl : (Jvm.Cond.methodLink own i y).before a0 Z = true) (hy1 : y.name = "<init>") (wi : (Jvm.Cond.instanceMethod y).before a0 Z = true) (wz : (Jvm.Cond.initialized y.cls).before a0 Z = true) (wc : (Jvm.Cond.code y bytes mL none).before a0 Z = true) (hy : y.cls ≠ "java/lang/invoke/MethodHandle" ∧ y.cls ≠ "java/lang/invoke/VarHandle") (as rest : List Value) {ps : List FieldType} {rr : Option FieldType} (hdes : parseMethodDescriptor y.desc = some ⟨ps, rr⟩) (hlen : as.length = ps.length) (hst : st = as.reverse ++ .ref b :: rest)
    (M : Met l Z y bytes mL none [] rm (.ref b :: as).toArray h n0 (Ret0 Q)) (hs : Ls.size = maxL) (hW : (rest.map fun v => v.category).sum = W) (hf : rm.frames + 1 ≤ R.frames) (hl : W + (mL + 11) + rm.locals ≤ R.locals) (hk : k + rm.cells = k') (hk' : k' ≤ R.cells) (hn : n + rm.slots = n') (hn' : n' ≤ R.slots)
    (r : ∀ h', Q h' → Run p l e R s m args below meth c n0 P h' k' n' pc' Ls rest) : Run p l e R s m args below meth c n0 P h k n pc Ls st := by
  subst hp hk hn hst
  intro T locs X eT N
  obtain ⟨v, _, ⟨T', L', k', n'⟩, -, X', ⟨Lc, ⟨⟨rfl, hQ⟩, N'⟩, l', y', z'⟩, q⟩ := X.specialBack C.1 (y := y) hy1 C.2.2.2.2.1 (mvT C.2.1 wl) (mvT C.2.1 wi) (mvT C.2.1 wc) hy (M.back (W := W) C.2.1 wc wz hf hl) (g := mkF m pc Ls (as.reverse ++ .ref b :: rest)) rfl (by rw [C.2.2.2.1]; exact hs) (Steps.refl _) (a := b) (argsL := as) (rest := rest) (lenOf hdes hlen) rfl (by show 2 * 0 + _ ≤ _; omega) (hb C.2.2.1 hd) (fun _ _ => ⟨rfl, eT, hk', hn'⟩)
  dsimp only [Pt.U, Pt.locs, Pt.cells, Pt.slots] at X' l' y' z' q hQ
  subst l' y' z'
  obtain ⟨s₂, o, z, r⟩ := r _ hQ T' _ X' rfl (Fr.app N N')
  exact ⟨s₂, o, q.trans z, r⟩
theorem s_callSI (C : Ctx p l e R s m args below meth c Z own cd maxL ret nm) {y : MethodName} {bytes : ByteArray} {mL i W k' n' : Nat} {rt : Option FieldType} {rm : Room} {Q : Int32 → Heap → Prop} (hd : decode cd pc = .ok (.invokestatic i, 3)) (hp : pc + 3 = pc') (wl : (Jvm.Cond.methodLink own i y).before a0 Z = true) (ws : (Jvm.Cond.static y).before a0 Z = true) (wz : (Jvm.Cond.initialized y.cls).before a0 Z = true) (wc : (Jvm.Cond.code y bytes mL rt).before a0 Z = true) (hy : y.cls ≠ "java/lang/invoke/MethodHandle" ∧ y.cls ≠ "java/lang/invoke/VarHandle") (as rest : List Value) {ps : List FieldType} {rr : Option FieldType} (hdes : parseMethodDescriptor y.desc = some ⟨ps, rr⟩) (hlen : as.length = ps.length) (hst : st = as.reverse ++ rest)
    (M : Met l Z y bytes mL rt [] rm as.toArray h n0 (RetI Q)) (hs : Ls.size = maxL) (hW : (rest.map fun v => v.category).sum = W) (hf : rm.frames + 1 ≤ R.frames) (hl : W + (mL + 11) + rm.locals ≤ R.locals) (hk : k + rm.cells = k') (hk' : k' ≤ R.cells) (hn : n + rm.slots = n') (hn' : n' ≤ R.slots)
    (r : ∀ (z : Int32) h', Q z h' → Run p l e R s m args below meth c n0 P h' k' n' pc' Ls ((.int z) :: rest)) : Run p l e R s m args below meth c n0 P h k n pc Ls st :=
  s_callS C hd hp wl ws wz wc hy as rest hdes hlen hst M hs hW hf hl hk hk' hn hn' (fun v h' q => by obtain ⟨z, rfl, q⟩ := q; exact r z h' q)
theorem s_callSL (C : Ctx p l e R s m args below meth c Z own cd maxL ret nm) {y : MethodName} {bytes : ByteArray} {mL i W k' n' : Nat} {rt : Option FieldType} {rm : Room} {Q : Int64 → Heap → Prop} (hd : decode cd pc = .ok (.invokestatic i, 3)) (hp : pc + 3 = pc') (wl : (Jvm.Cond.methodLink own i y).before a0 Z = true) (ws : (Jvm.Cond.static y).before a0 Z = true) (wz : (Jvm.Cond.initialized y.cls).before a0 Z = true) (wc : (Jvm.Cond.code y bytes mL rt).before a0 Z = true) (hy : y.cls ≠ "java/lang/invoke/MethodHandle" ∧ y.cls ≠ "java/lang/invoke/VarHandle") (as rest : List Value) {ps : List FieldType} {rr : Option FieldType} (hdes : parseMethodDescriptor y.desc = some ⟨ps, rr⟩) (hlen : as.length = ps.length) (hst : st = as.reverse ++ rest)
    (M : Met l Z y bytes mL rt [] rm as.toArray h n0 (RetL Q)) (hs : Ls.size = maxL) (hW : (rest.map fun v => v.category).sum = W) (hf : rm.frames + 1 ≤ R.frames) (hl : W + (mL + 11) + rm.locals ≤ R.locals) (hk : k + rm.cells = k') (hk' : k' ≤ R.cells) (hn : n + rm.slots = n') (hn' : n' ≤ R.slots)
    (r : ∀ (z : Int64) h', Q z h' → Run p l e R s m args below meth c n0 P h' k' n' pc' Ls ((.long z) :: rest)) : Run p l e R s m args below meth c n0 P h k n pc Ls st :=
  s_callS C hd hp wl ws wz wc hy as rest hdes hlen hst M hs hW hf hl hk hk' hn hn' (fun v h' q => by obtain ⟨z, rfl, q⟩ := q; exact r z h' q)
theorem s_callSA (C : Ctx p l e R s m args below meth c Z own cd maxL ret nm) {y : MethodName} {bytes : ByteArray} {mL i W k' n' : Nat} {rt : Option FieldType} {rm : Room} {Q : Value → Heap → Prop} (hd : decode cd pc = .ok (.invokestatic i, 3)) (hp : pc + 3 = pc') (wl : (Jvm.Cond.methodLink own i y).before a0 Z = true) (ws : (Jvm.Cond.static y).before a0 Z = true) (wz : (Jvm.Cond.initialized y.cls).before a0 Z = true) (wc : (Jvm.Cond.code y bytes mL rt).before a0 Z = true) (hy : y.cls ≠ "java/lang/invoke/MethodHandle" ∧ y.cls ≠ "java/lang/invoke/VarHandle") (as rest : List Value) {ps : List FieldType} {rr : Option FieldType} (hdes : parseMethodDescriptor y.desc = some ⟨ps, rr⟩) (hlen : as.length = ps.length) (hst : st = as.reverse ++ rest)
    (M : Met l Z y bytes mL rt [] rm as.toArray h n0 (RetV Q)) (hs : Ls.size = maxL) (hW : (rest.map fun v => v.category).sum = W) (hf : rm.frames + 1 ≤ R.frames) (hl : W + (mL + 11) + rm.locals ≤ R.locals) (hk : k + rm.cells = k') (hk' : k' ≤ R.cells) (hn : n + rm.slots = n') (hn' : n' ≤ R.slots)
    (r : ∀ (z : Value) h', Q z h' → Run p l e R s m args below meth c n0 P h' k' n' pc' Ls (z :: rest)) : Run p l e R s m args below meth c n0 P h k n pc Ls st :=
  s_callS C hd hp wl ws wz wc hy as rest hdes hlen hst M hs hW hf hl hk hk' hn hn' (fun v h' q => by obtain ⟨z, rfl, q⟩ := q; exact r z h' q)
theorem s_callS0 (C : Ctx p l e R s m args below meth c Z own cd maxL ret nm) {y : MethodName} {bytes : ByteArray} {mL i W k' n' : Nat} {rt : Option FieldType} {rm : Room} {Q : Heap → Prop} (hd : decode cd pc = .ok (.invokestatic i, 3)) (hp : pc + 3 = pc') (wl : (Jvm.Cond.methodLink own i y).before a0 Z = true) (ws : (Jvm.Cond.static y).before a0 Z = true) (wz : (Jvm.Cond.initialized y.cls).before a0 Z = true) (wc : (Jvm.Cond.code y bytes mL rt).before a0 Z = true) (hy : y.cls ≠ "java/lang/invoke/MethodHandle" ∧ y.cls ≠ "java/lang/invoke/VarHandle") (as rest : List Value) {ps : List FieldType} {rr : Option FieldType} (hdes : parseMethodDescriptor y.desc = some ⟨ps, rr⟩) (hlen : as.length = ps.length) (hst : st = as.reverse ++ rest)
    (M : Met l Z y bytes mL rt [] rm as.toArray h n0 (Ret0 Q)) (hs : Ls.size = maxL) (hW : (rest.map fun v => v.category).sum = W) (hf : rm.frames + 1 ≤ R.frames) (hl : W + (mL + 11) + rm.locals ≤ R.locals) (hk : k + rm.cells = k') (hk' : k' ≤ R.cells) (hn : n + rm.slots = n') (hn' : n' ≤ R.slots)
    (r : ∀ h', Q h' → Run p l e R s m args below meth c n0 P h' k' n' pc' Ls rest) : Run p l e R s m args below meth c n0 P h k n pc Ls st :=
  s_callS C hd hp wl ws wz wc hy as rest hdes hlen hst M hs hW hf hl hk hk' hn hn' (fun v h' q => by obtain ⟨rfl, q⟩ := q; exact r h' q)
theorem s_callVI (C : Ctx p l e R s m args below meth c Z own cd maxL ret nm) {y z : MethodName} {K : String} {bytes : ByteArray} {mL i W k' n' : Nat} {rt : Option FieldType} {rm : Room} {b : Addr} {Q : Int32 → Heap → Prop} (hd : decode cd pc = .ok (.invokevirtual i, 3)) (hp : pc + 3 = pc') (wl : (Jvm.Cond.methodLink own i y).before a0 Z = true) (wd : (Jvm.Cond.declares y).before a0 Z = true) (hnf : NotFace s y) (wsel : (Jvm.Cond.selects K y z).before a0 Z = true) (wi : (Jvm.Cond.instanceMethod z).before a0 Z = true) (wz : (Jvm.Cond.initialized z.cls).before a0 Z = true) (wc : (Jvm.Cond.code z bytes mL rt).before a0 Z = true) (hy : y.cls ≠ "java/lang/invoke/MethodHandle" ∧ y.cls ≠ "java/lang/invoke/VarHandle") (E : Exa Z h b K) (as rest : List Value) {ps : List FieldType} {rr : Option FieldType} (hdes : parseMethodDescriptor y.desc = some ⟨ps, rr⟩) (hlen : as.length = ps.length) (hst : st = as.reverse ++ .ref b :: rest)
    (M : Met l Z z bytes mL rt [] rm (.ref b :: as).toArray h n0 (RetI Q)) (hs : Ls.size = maxL) (hW : (rest.map fun v => v.category).sum = W) (hf : rm.frames + 1 ≤ R.frames) (hl : W + (mL + 11) + rm.locals ≤ R.locals) (hk : k + rm.cells = k') (hk' : k' ≤ R.cells) (hn : n + rm.slots = n') (hn' : n' ≤ R.slots)
    (r : ∀ (z : Int32) h', Q z h' → Run p l e R s m args below meth c n0 P h' k' n' pc' Ls ((.int z) :: rest)) : Run p l e R s m args below meth c n0 P h k n pc Ls st :=
  s_callV C hd hp wl wd hnf wsel wi wz wc hy E as rest hdes hlen hst M hs hW hf hl hk hk' hn hn' (fun v h' q => by obtain ⟨z, rfl, q⟩ := q; exact r z h' q)
theorem s_callVL (C : Ctx p l e R s m args below meth c Z own cd maxL ret nm) {y z : MethodName} {K : String} {bytes : ByteArray} {mL i W k' n' : Nat} {rt : Option FieldType} {rm : Room} {b : Addr} {Q : Int64 → Heap → Prop} (hd : decode cd pc = .ok (.invokevirtual i, 3)) (hp : pc + 3 = pc') (wl : (Jvm.Cond.methodLink own i y).before a0 Z = true) (wd : (Jvm.Cond.declares y).before a0 Z = true) (hnf : NotFace s y) (wsel : (Jvm.Cond.selects K y z).before a0 Z = true) (wi : (Jvm.Cond.instanceMethod z).before a0 Z = true) (wz : (Jvm.Cond.initialized z.cls).before a0 Z = true) (wc : (Jvm.Cond.code z bytes mL rt).before a0 Z = true) (hy : y.cls ≠ "java/lang/invoke/MethodHandle" ∧ y.cls ≠ "java/lang/invoke/VarHandle") (E : Exa Z h b K) (as rest : List Value) {ps : List FieldType} {rr : Option FieldType} (hdes : parseMethodDescriptor y.desc = some ⟨ps, rr⟩) (hlen : as.length = ps.length) (hst : st = as.reverse ++ .ref b :: rest)
    (M : Met l Z z bytes mL rt [] rm (.ref b :: as).toArray h n0 (RetL Q)) (hs : Ls.size = maxL) (hW : (rest.map fun v => v.category).sum = W) (hf : rm.frames + 1 ≤ R.frames) (hl : W + (mL + 11) + rm.locals ≤ R.locals) (hk : k + rm.cells = k') (hk' : k' ≤ R.cells) (hn : n + rm.slots = n') (hn' : n' ≤ R.slots)
    (r : ∀ (z : Int64) h', Q z h' → Run p l e R s m args below meth c n0 P h' k' n' pc' Ls ((.long z) :: rest)) : Run p l e R s m args below meth c n0 P h k n pc Ls st :=
  s_callV C hd hp wl wd hnf wsel wi wz wc hy E as rest hdes hlen hst M hs hW hf hl hk hk' hn hn' (fun v h' q => by obtain ⟨z, rfl, q⟩ := q; exact r z h' q)
theorem s_callVA (C : Ctx p l e R s m args below meth c Z own cd maxL ret nm) {y z : MethodName} {K : String} {bytes : ByteArray} {mL i W k' n' : Nat} {rt : Option FieldType} {rm : Room} {b : Addr} {Q : Value → Heap → Prop} (hd : decode cd pc = .ok (.invokevirtual i, 3)) (hp : pc + 3 = pc') (wl : (Jvm.Cond.methodLink own i y).before a0 Z = true) (wd : (Jvm.Cond.declares y).before a0 Z = true) (hnf : NotFace s y) (wsel : (Jvm.Cond.selects K y z).before a0 Z = true) (wi : (Jvm.Cond.instanceMethod z).before a0 Z = true) (wz : (Jvm.Cond.initialized z.cls).before a0 Z = true) (wc : (Jvm.Cond.code z bytes mL rt).before a0 Z = true) (hy : y.cls ≠ "java/lang/invoke/MethodHandle" ∧ y.cls ≠ "java/lang/invoke/VarHandle") (E : Exa Z h b K) (as rest : List Value) {ps : List FieldType} {rr : Option FieldType} (hdes : parseMethodDescriptor y.desc = some ⟨ps, rr⟩) (hlen : as.length = ps.length) (hst : st = as.reverse ++ .ref b :: rest)
    (M : Met l Z z bytes mL rt [] rm (.ref b :: as).toArray h n0 (RetV Q)) (hs : Ls.size = maxL) (hW : (rest.map fun v => v.category).sum = W) (hf : rm.frames + 1 ≤ R.frames) (hl : W + (mL + 11) + rm.locals ≤ R.locals) (hk : k + rm.cells = k') (hk' : k' ≤ R.cells) (hn : n + rm.slots = n') (hn' : n' ≤ R.slots)
    (r : ∀ (z : Value) h', Q z h' → Run p l e R s m args below meth c n0 P h' k' n' pc' Ls (z :: rest)) : Run p l e R s m args below meth c n0 P h k n pc Ls st :=
  s_callV C hd hp wl wd hnf wsel wi wz wc hy E as rest hdes hlen hst M hs hW hf hl hk hk' hn hn' (fun v h' q => by obtain ⟨z, rfl, q⟩ := q; exact r z h' q)
theorem s_callV0 (C : Ctx p l e R s m args below meth c Z own cd maxL ret nm) {y z : MethodName} {K : String} {bytes : ByteArray} {mL i W k' n' : Nat} {rt : Option FieldType} {rm : Room} {b : Addr} {Q : Heap → Prop} (hd : decode cd pc = .ok (.invokevirtual i, 3)) (hp : pc + 3 = pc') (wl : (Jvm.Cond.methodLink own i y).before a0 Z = true) (wd : (Jvm.Cond.declares y).before a0 Z = true) (hnf : NotFace s y) (wsel : (Jvm.Cond.selects K y z).before a0 Z = true) (wi : (Jvm.Cond.instanceMethod z).before a0 Z = true) (wz : (Jvm.Cond.initialized z.cls).before a0 Z = true) (wc : (Jvm.Cond.code z bytes mL rt).before a0 Z = true) (hy : y.cls ≠ "java/lang/invoke/MethodHandle" ∧ y.cls ≠ "java/lang/invoke/VarHandle") (E : Exa Z h b K) (as rest : List Value) {ps : List FieldType} {rr : Option FieldType} (hdes : parseMethodDescriptor y.desc = some ⟨ps, rr⟩) (hlen : as.length = ps.length) (hst : st = as.reverse ++ .ref b :: rest)
    (M : Met l Z z bytes mL rt [] rm (.ref b :: as).toArray h n0 (Ret0 Q)) (hs : Ls.size = maxL) (hW : (rest.map fun v => v.category).sum = W) (hf : rm.frames + 1 ≤ R.frames) (hl : W + (mL + 11) + rm.locals ≤ R.locals) (hk : k + rm.cells = k') (hk' : k' ≤ R.cells) (hn : n + rm.slots = n') (hn' : n' ≤ R.slots)
    (r : ∀ h', Q h' → Run p l e R s m args below meth c n0 P h' k' n' pc' Ls rest) : Run p l e R s m args below meth c n0 P h k n pc Ls st :=
  s_callV C hd hp wl wd hnf wsel wi wz wc hy E as rest hdes hlen hst M hs hW hf hl hk hk' hn hn' (fun v h' q => by obtain ⟨rfl, q⟩ := q; exact r h' q)
/-! arrays: exactly these values -/
def Av (Z : State) (h : Heap) (a : Addr) (ty : FieldType) (vs : List Value) : Prop := ∃ cl : Cell, Arr Z h a cl ty ∧ cl.slots = vs.toArray ∧ vs.length < 2 ^ 31 ∧ ∀ v ∈ vs, fits ty v = true
theorem Av.lt {h : Heap} {a : Addr} {ty : FieldType} {vs : List Value} (V : Av Z h a ty vs) : a < h.size := by obtain ⟨cl, A, -⟩ := V; exact A.lt
theorem Av.ext {h h' : Heap} {a : Addr} {ty : FieldType} {vs : List Value} (V : Av Z h a ty vs) (E : Ext h h') : Av Z h' a ty vs := by obtain ⟨cl, A, r⟩ := V; exact ⟨cl, A.ext E, r⟩
theorem Av.other {h h' : Heap} {a b : Addr} {ty : FieldType} {vs : List Value} {sl : Nat} {v : Value} (V : Av Z h b ty vs) (W : Wr h h' a sl v) (q : b ≠ a) : Av Z h' b ty vs := by obtain ⟨cl, A, r⟩ := V; exact ⟨cl, A.other W q, r⟩
theorem Av.keep {h h' : Heap} {a : Addr} {ty : FieldType} {vs : List Value} {ws : List Addr} (V : Av Z h a ty vs) (K : Keep h h' ws) (q : a ∉ ws) : Av Z h' a ty vs := by obtain ⟨cl, A, r⟩ := V; exact ⟨cl, ⟨K.2.1 a cl A.1 q, A.2⟩, r⟩
theorem Av.set {h h' : Heap} {a : Addr} {ty : FieldType} {vs : List Value} {i : Nat} {v : Value} (V : Av Z h a ty vs) (W : Wr h h' a i v) (hf : fits ty v = true) : Av Z h' a ty (vs.set i v) := by
  obtain ⟨cl, A, hs, hl, hq⟩ := V
  exact ⟨_, A.same W, by simp [Cell.setSlot, hs], by simpa using hl, fun u hu => (List.mem_or_eq_of_mem_set hu).elim (hq u) (fun e => e ▸ hf)⟩
theorem fits_default (ty : FieldType) : fits ty (defaultValue ty) = true := by cases ty <;> first | rfl | decide
theorem Av.new {h : Heap} {a : Addr} {cA : ClassId} {ty : FieldType} {z : Int32} (A : Arr Z h a (newA cA ty z) ty) : Av Z h a ty (List.replicate z.toNatClampNeg (defaultValue ty)) := ⟨_, A, by simp [newA], by rw [List.length_replicate]; have := z.toInt_lt; simp only [Int32.toNatClampNeg]; omega, fun v hv => (List.eq_of_mem_replicate hv) ▸ fits_default ty⟩
theorem getD_toArray (vs : List Value) (i : Nat) (dv : Value) (hi : i < vs.length) : vs.toArray[i]? = some (vs.getD i dv) := by
  simp [List.getD_eq_getElem?_getD, List.getElem?_eq_getElem hi]
theorem len32 {n : Nat} (h : n < 2 ^ 31) : n.toInt32.toNatClampNeg = n ∧ ¬ n.toInt32 < 0 := by
  have e : n.toInt32.toInt = n := len_toInt (by omega)
  constructor
  · simp [Int32.toNatClampNeg, e]
  · rw [Int32.lt_iff_toInt_lt, e]; simp only [Int32.reduceToInt]; omega
theorem Av.arv {h : Heap} {a : Addr} {ty : FieldType} {vs : List Value} (dv : Value) (V : Av Z h a ty vs) : ∃ k, Arv Z h a k ty vs.length.toInt32 vs dv := by
  obtain ⟨cl, A, hs, hl, hq⟩ := V
  have e := len32 hl
  refine ⟨cl.cls, cl, A, rfl, by rw [e.1, hs]; simp, e.2, fun i hi => ?_, fun i hi => ?_⟩
  · rw [hs] at hi ⊢; exact getD_toArray vs i dv (by simpa using hi)
  · rw [hs] at hi
    have hi' : i < vs.length := by simpa using hi
    rw [List.getD_eq_getElem?_getD, List.getElem?_eq_getElem hi']
    exact hq _ (List.getElem_mem hi')
theorem Av.of_arv {h : Heap} {a : Addr} {k : ClassId} {ty : FieldType} {z : Int32} {vs : List Value} {dv : Value} (V : Arv Z h a k ty z vs dv) (hl : vs.length = z.toNatClampNeg) : Av Z h a ty vs := by
  obtain ⟨cl, A, -, hs, hz, hh, hf⟩ := V
  have e : cl.slots.size = vs.length := by rw [hs, hl]
  refine ⟨cl, A, ?_, by have := z.toInt_lt; rw [hl]; simp only [Int32.toNatClampNeg]; omega, fun v hv => ?_⟩
  · apply Array.ext_getElem?
    intro i
    by_cases hi : i < vs.length
    · rw [hh i (by omega)]; exact (getD_toArray vs i dv hi).symm
    · rw [Array.getElem?_eq_none (by omega), Array.getElem?_eq_none (by simpa using hi)]
  · obtain ⟨i, hi, rfl⟩ := List.getElem_of_mem hv
    have q := hf i (by omega)
    rwa [List.getD_eq_getElem?_getD, List.getElem?_eq_getElem hi] at q
theorem idx_n {j : Int32} {i : Nat} (hi : j.toInt = (i : Int)) : j.toNatClampNeg = i ∧ ¬ j < 0 := by
  constructor
  · simp [Int32.toNatClampNeg, hi]
  · rw [Int32.lt_iff_toInt_lt, hi]; simp only [Int32.reduceToInt]; omega
theorem s_newarr (C : Ctx p l e R s m args below meth c Z own cd maxL ret nm) {aty : ArrayType} {z : Int32} {k' n' cap : Nat} (hd : decode cd pc = .ok (.newarray aty, 2)) (hp : pc + 2 = pc') (w : (Jvm.Cond.arrayClass (newarray.typeOf aty)).before a0 Z = true) (hz : ¬ z < 0) (hcap : z.toNatClampNeg ≤ cap) (hcb : cap * 8 ≤ 536870912) (hk : k + 1 = k') (hk' : k' ≤ R.cells) (hn : n + cap = n') (hn' : n' ≤ R.slots) (vs : List Value) (hvs : List.replicate z.toNatClampNeg (defaultValue (newarray.typeOf aty)) = vs)
    (r : ∀ h' a, Ext h h' → a = h.size → Av Z h' a (newarray.typeOf aty) vs → Run p l e R s m args below meth c n0 P h' k' n' pc' Ls (.ref a :: st)) : Run p l e R s m args below meth c n0 P h k n pc Ls (.int z :: st) := by
  subst hp hk hn hvs
  intro T locs X eT N
  obtain ⟨T', h', cA, X', e', E, A, q⟩ := newP X C.1 C.2.1 w eT (g := mkF m pc Ls (.int z :: st)) rfl (hb C.2.2.1 hd) rfl hz hcap hcb hk' hn'
  obtain ⟨s₂, o, z, r⟩ := r h' _ E rfl (Av.new A) T' _ X' e' N
  exact ⟨s₂, o, q _ z, r⟩
theorem s_newarrE (C : Ctx p l e R s m args below meth c Z own cd maxL ret nm) {aty : ArrayType} {z : Int32} {k' n' cap : Nat} (hd : decode cd pc = .ok (.newarray aty, 2)) (hp : pc + 2 = pc') (w : (Jvm.Cond.arrayClass (newarray.typeOf aty)).before a0 Z = true) (hz : ¬ z < 0) (hcap : z.toNatClampNeg ≤ cap) (hcb : cap * 8 ≤ 536870912) (hk : k + 1 = k') (hk' : k' ≤ R.cells) (hn : n + cap = n') (hn' : n' ≤ R.slots) (vs : List Value) (hvs : List.replicate z.toNatClampNeg (defaultValue (newarray.typeOf aty)) = vs) (ad : String) (had : "[" ++ (newarray.typeOf aty).toString = ad)
    (r : ∀ h' a, Ext h h' → a = h.size → Av Z h' a (newarray.typeOf aty) vs → Exa Z h' a ad → Run p l e R s m args below meth c n0 P h' k' n' pc' Ls (.ref a :: st)) : Run p l e R s m args below meth c n0 P h k n pc Ls (.int z :: st) := by
  subst hp hk hn hvs
  intro T locs X eT N
  obtain ⟨T', h', cA, X', e', E, A, Ex, q⟩ := newPE X C.1 C.2.1 w eT (g := mkF m pc Ls (.int z :: st)) rfl (hb C.2.2.1 hd) rfl hz hcap hcb hk' hn' had
  obtain ⟨s₂, o, z, r⟩ := r h' _ E rfl (Av.new A) Ex T' _ X' e' N
  exact ⟨s₂, o, q _ z, r⟩
theorem s_newref (C : Ctx p l e R s m args below meth c Z own cd maxL ret nm) {K : String} {i : Nat} {z : Int32} {k' n' cap : Nat} (hd : decode cd pc = .ok (.anewarray i, 3)) (hp : pc + 3 = pc') (w1 : (Jvm.Cond.classLink own i K).before a0 Z = true) (w2 : (Jvm.Cond.arrayOver (.object K)).before a0 Z = true) (hz : ¬ z < 0) (hcap : z.toNatClampNeg ≤ cap) (hcb : cap * 8 ≤ 536870912) (hk : k + 1 = k') (hk' : k' ≤ R.cells) (hn : n + cap = n') (hn' : n' ≤ R.slots) (vs : List Value) (hvs : List.replicate z.toNatClampNeg Value.null = vs)
    (r : ∀ h' a cA, Ext h h' → a = h.size → Av Z h' a (.object K) vs → Arr Z h' a (newA cA (.object K) z) (.object K) → Ovr Z cA K → Run p l e R s m args below meth c n0 P h' k' n' pc' Ls (.ref a :: st)) : Run p l e R s m args below meth c n0 P h k n pc Ls (.int z :: st) := by
  subst hp hk hn hvs
  intro T locs X eT N
  obtain ⟨T', h', cA, X', e', E, A, O, q⟩ := newR X C.1 C.2.1 C.2.2.2.2.1 w1 w2 eT (g := mkF m pc Ls (.int z :: st)) rfl (hb C.2.2.1 hd) rfl hz hcap hcb hk' hn'
  obtain ⟨s₂, o, z, r⟩ := r h' _ cA E rfl (Av.new A) A O T' _ X' e' N
  exact ⟨s₂, o, q _ z, r⟩
theorem s_foldI (C : Ctx p l e R s m args below meth c Z own cd maxL ret nm) {x y : Int32} (hx : x = y) (r : Run p l e R s m args below meth c n0 P h k n pc Ls (.int y :: st)) : Run p l e R s m args below meth c n0 P h k n pc Ls (.int x :: st) := hx ▸ r
theorem s_foldL (C : Ctx p l e R s m args below meth c Z own cd maxL ret nm) {x y : Int64} (hx : x = y) (r : Run p l e R s m args below meth c n0 P h k n pc Ls (.long y :: st)) : Run p l e R s m args below meth c n0 P h k n pc Ls (.long x :: st) := hx ▸ r
theorem s_arraycopy (C : Ctx p l e R s m args below meth c Z own cd maxL ret nm) {i W : Nat} {ty : FieldType} {a b : Addr} {vs vd : List Value} {sp dp nn : Int32} (hd : decode cd pc = .ok (.invokestatic i, 3)) (hp : pc + 3 = pc') (w1 : (Jvm.Cond.methodLink own i Jvm.Stand.acN).before a0 Z = true) (w2 : (Jvm.Cond.native Jvm.Stand.acN).before a0 Z = true) (w3 : (Jvm.Cond.static Jvm.Stand.acN).before a0 Z = true) (w4 : (Jvm.Cond.initialized "java/lang/System").before a0 Z = true) (A : Av Z h a ty vs) (B : Av Z h b ty vd) (hty : refKind ty = false) (si di ni : Nat) (h1 : sp.toInt = (si : Int)) (h2 : dp.toInt = (di : Int)) (h3 : nn.toInt = (ni : Int)) (h4 : si + ni ≤ vs.length) (h5 : di + ni ≤ vd.length) (ge : n0 ≤ b) (hs : Ls.size = maxL) (hf : 1 ≤ R.frames) (hW : (st.map fun v => v.category).sum = W) (hlo : W + (nativeFrameWords "java/lang/System" "arraycopy" 5 + 11) ≤ R.locals) (vd' : List Value) (hvd : vd.take di ++ (vs.drop si).take ni ++ vd.drop (di + ni) = vd')
    (r : ∀ h', Keep h h' [b] → Av Z h' b ty vd' → Run p l e R s m args below meth c n0 P h' k n pc' Ls st) : Run p l e R s m args below meth c n0 P h k n pc Ls (.int nn :: .int dp :: .ref b :: .int sp :: .ref a :: st) := by
  subst hp hvd
  obtain ⟨e1, g1⟩ := idx_n h1
  obtain ⟨e2, g2⟩ := idx_n h2
  obtain ⟨e3, g3⟩ := idx_n h3
  have la := A
  have lb := B
  obtain ⟨_, -, -, la, -⟩ := la
  obtain ⟨_, -, -, lb, -⟩ := lb
  obtain ⟨ka, A'⟩ := A.arv Value.null
  obtain ⟨kb, B'⟩ := B.arv Value.null
  intro T locs X eT N
  have hus : (vs.drop si).take ni = (List.range nn.toNatClampNeg).map fun i => vs.getD (sp.toNatClampNeg + i) Value.null := by
    rw [e1, e3]
    apply List.ext_getElem
    · simp; omega
    · intro j q1 q2
      have q3 : j < ni := by simpa using q2
      simp [List.getD_eq_getElem?_getD, List.getElem?_eq_getElem (show si + j < vs.length by omega)]
  obtain ⟨T', h', L, X', e', N', K, V', q⟩ := cpA X C.1 C.2.1 C.2.2.2.2.1 w1 w2 w3 w4 eT A' B' (Or.inl ⟨rfl, hty⟩) g1 g2 g3 (by rw [e1, e3, (len32 la).1]; exact h4) (by rw [e2, e3, (len32 lb).1]; exact h5) hus (by rw [e2, e3]; exact h5) N ge (g := mkF m pc Ls (.int nn :: .int dp :: .ref b :: .int sp :: .ref a :: st)) rfl (by rw [C.2.2.2.1]; exact hs) rfl (hb C.2.2.1 hd) hf (W := W) (by show 2 * 0 + _ ≤ _; omega) hlo
  rw [e2, e3] at V'
  obtain ⟨s₂, o, z, r⟩ := r h' K (Av.of_arv V' (by rw [(len32 lb).1]; simp; omega)) T' _ X' e' N'
  exact ⟨s₂, o, q _ z, r⟩
theorem s_clone (C : Ctx p l e R s m args below meth c Z own cd maxL ret nm) {i W k' n' cap : Nat} {ty : FieldType} {ad : String} {a : Addr} {vs : List Value} (hd : decode cd pc = .ok (.invokevirtual i, 3)) (hp : pc + 3 = pc') (w1 : (Jvm.Cond.methodLink own i ⟨ad, "clone", "()Ljava/lang/Object;"⟩).before a0 Z = true) (w2 : (Jvm.Cond.sameMethod ad "java/lang/Object" "clone" "()Ljava/lang/Object;").before a0 Z = true) (w3 : (Jvm.Cond.native ⟨"java/lang/Object", "clone", "()Ljava/lang/Object;"⟩).before a0 Z = true) (w4 : (Jvm.Cond.instanceMethod ⟨"java/lang/Object", "clone", "()Ljava/lang/Object;"⟩).before a0 Z = true) (w5 : (Jvm.Cond.selects ad ⟨ad, "clone", "()Ljava/lang/Object;"⟩ ⟨"java/lang/Object", "clone", "()Ljava/lang/Object;"⟩).before a0 Z = true) (w6 : (Jvm.Cond.castable ad "java/lang/Cloneable").before a0 Z = true) (V : Av Z h a ty vs) (E : Exa Z h a ad) (hs : Ls.size = maxL) (hf : 1 ≤ R.frames) (hW : (st.map fun v => v.category).sum = W) (hl : W + 14 ≤ R.locals) (hcap : vs.length ≤ cap) (hk : k + 1 = k') (hk' : k' ≤ R.cells) (hn : n + cap = n') (hn' : n' ≤ R.slots)
    (r : ∀ h' b, Ext h h' → b = h.size → Av Z h' b ty vs → Exa Z h' b ad → Run p l e R s m args below meth c n0 P h' k' n' pc' Ls (.ref b :: st)) : Run p l e R s m args below meth c n0 P h k n pc Ls (.ref a :: st) := by
  subst hp hk hn
  have la := V
  obtain ⟨_, -, -, la, -⟩ := la
  obtain ⟨ka, A'⟩ := V.arv Value.null
  intro T locs X eT N
  obtain ⟨T', h', X', e', Ex, V', E', q⟩ := cloneH X C.1 C.2.1 C.2.2.2.2.1 w1 w2 w3 w4 w5 w6 eT A'.arh E (g := mkF m pc Ls (.ref a :: st)) rfl (by rw [C.2.2.2.1]; exact hs) rfl (hb C.2.2.1 hd) hf (W := W) (cap := cap) (by show 2 * 0 + _ ≤ _; omega) hl (by rw [(len32 la).1]; exact hcap) hk' hn'
  obtain ⟨s₂, o, z, r⟩ := r h' _ Ex rfl (Av.of_arv (dv := Value.null) V' (len32 la).1.symm) E' T' _ X' e' N
  exact ⟨s₂, o, q _ z, r⟩
theorem s_length (C : Ctx p l e R s m args below meth c Z own cd maxL ret nm) {ty : FieldType} {a : Addr} {vs : List Value} (hd : decode cd pc = .ok (.arraylength, 1)) (hp : pc + 1 = pc') (V : Av Z h a ty vs) (z : Int32) (hz : vs.length.toInt32 = z) (r : Run p l e R s m args below meth c n0 P h k n pc' Ls (.int z :: st)) : Run p l e R s m args below meth c n0 P h k n pc Ls (.ref a :: st) := by
  subst hp hz
  obtain ⟨cl, A, hs, hl, -⟩ := V
  have e1 : cl.slots.size = vs.length := by simp [hs]
  refine Run.pure (fun T locs X eT t z => X.arraylength C.1 (by rw [eT]; exact A.1) (State.isArrayOf_alike C.2.1.alike A.2.1) (g := mkF m pc Ls (.ref a :: st)) rfl rfl (hb C.2.2.1 hd) _ (by rw [e1]; exact z)) r
theorem s_iaload (C : Ctx p l e R s m args below meth c Z own cd maxL ret nm) {a : Addr} {vs : List Value} {j : Int32} {x : Int32} (hd : decode cd pc = .ok (.iaload, 1)) (hp : pc + 1 = pc') (V : Av Z h a .int vs) (i : Nat) (hi : j.toInt = (i : Int)) (hv : vs[i]? = some (.int x)) (r : Run p l e R s m args below meth c n0 P h k n pc' Ls ((.int x) :: st)) : Run p l e R s m args below meth c n0 P h k n pc Ls (.int j :: .ref a :: st) := by
  subst hp
  obtain ⟨cl, A, hs, hl, -⟩ := V
  obtain ⟨e1, e2⟩ := idx_n hi
  have e3 : i < vs.length := (List.getElem?_eq_some_iff.mp hv).1
  refine Run.pure (fun T locs X eT t z => X.iaload C.1 (by rw [eT]; exact A.1) (State.isArrayOf_alike C.2.1.alike A.2.1) A.2.2 (by rw [e1, hs]; rintro (q | q); exact e2 q; simp at q; omega) (by rw [e1, hs]; simpa using hv) (g := mkF m pc Ls (.int j :: .ref a :: st)) rfl rfl (hb C.2.2.1 hd) _ z) r
theorem s_laload (C : Ctx p l e R s m args below meth c Z own cd maxL ret nm) {a : Addr} {vs : List Value} {j : Int32} {x : Int64} (hd : decode cd pc = .ok (.laload, 1)) (hp : pc + 1 = pc') (V : Av Z h a .long vs) (i : Nat) (hi : j.toInt = (i : Int)) (hv : vs[i]? = some (.long x)) (r : Run p l e R s m args below meth c n0 P h k n pc' Ls ((.long x) :: st)) : Run p l e R s m args below meth c n0 P h k n pc Ls (.int j :: .ref a :: st) := by
  subst hp
  obtain ⟨cl, A, hs, hl, -⟩ := V
  obtain ⟨e1, e2⟩ := idx_n hi
  have e3 : i < vs.length := (List.getElem?_eq_some_iff.mp hv).1
  refine Run.pure (fun T locs X eT t z => X.laload C.1 (by rw [eT]; exact A.1) (State.isArrayOf_alike C.2.1.alike A.2.1) A.2.2 (by rw [e1, hs]; rintro (q | q); exact e2 q; simp at q; omega) (by rw [e1, hs]; simpa using hv) (g := mkF m pc Ls (.int j :: .ref a :: st)) rfl rfl (hb C.2.2.1 hd) _ z) r
theorem s_baload (C : Ctx p l e R s m args below meth c Z own cd maxL ret nm) {a : Addr} {vs : List Value} {j : Int32} {x : Int32} (hd : decode cd pc = .ok (.baload, 1)) (hp : pc + 1 = pc') (V : Av Z h a .byte vs) (i : Nat) (hi : j.toInt = (i : Int)) (hv : vs[i]? = some (.int x)) (r : Run p l e R s m args below meth c n0 P h k n pc' Ls ((.int x) :: st)) : Run p l e R s m args below meth c n0 P h k n pc Ls (.int j :: .ref a :: st) := by
  subst hp
  obtain ⟨cl, A, hs, hl, -⟩ := V
  obtain ⟨e1, e2⟩ := idx_n hi
  have e3 : i < vs.length := (List.getElem?_eq_some_iff.mp hv).1
  refine Run.pure (fun T locs X eT t z => X.baloadBytes C.1 (by rw [eT]; exact A.1) (State.isArrayOf_alike C.2.1.alike A.2.1) A.2.2 (by rw [e1, hs]; rintro (q | q); exact e2 q; simp at q; omega) (by rw [e1, hs]; simpa using hv) (g := mkF m pc Ls (.int j :: .ref a :: st)) rfl rfl (hb C.2.2.1 hd) _ z) r
theorem s_caload (C : Ctx p l e R s m args below meth c Z own cd maxL ret nm) {a : Addr} {vs : List Value} {j : Int32} {x : Int32} (hd : decode cd pc = .ok (.caload, 1)) (hp : pc + 1 = pc') (V : Av Z h a .char vs) (i : Nat) (hi : j.toInt = (i : Int)) (hv : vs[i]? = some (.int x)) (r : Run p l e R s m args below meth c n0 P h k n pc' Ls ((.int x) :: st)) : Run p l e R s m args below meth c n0 P h k n pc Ls (.int j :: .ref a :: st) := by
  subst hp
  obtain ⟨cl, A, hs, hl, -⟩ := V
  obtain ⟨e1, e2⟩ := idx_n hi
  have e3 : i < vs.length := (List.getElem?_eq_some_iff.mp hv).1
  refine Run.pure (fun T locs X eT t z => X.caload C.1 (by rw [eT]; exact A.1) (State.isArrayOf_alike C.2.1.alike A.2.1) A.2.2 (by rw [e1, hs]; rintro (q | q); exact e2 q; simp at q; omega) (by rw [e1, hs]; simpa using hv) (g := mkF m pc Ls (.int j :: .ref a :: st)) rfl rfl (hb C.2.2.1 hd) _ z) r
theorem s_aaload (C : Ctx p l e R s m args below meth c Z own cd maxL ret nm) {a : Addr} {vs : List Value} {j : Int32} {x : Value} {ty : FieldType} (hty : ty.isReference = true) (hd : decode cd pc = .ok (.aaload, 1)) (hp : pc + 1 = pc') (V : Av Z h a ty vs) (i : Nat) (hi : j.toInt = (i : Int)) (hv : vs[i]? = some x) (r : Run p l e R s m args below meth c n0 P h k n pc' Ls (x :: st)) : Run p l e R s m args below meth c n0 P h k n pc Ls (.int j :: .ref a :: st) := by
  subst hp
  obtain ⟨cl, A, hs, hl, -⟩ := V
  obtain ⟨e1, e2⟩ := idx_n hi
  have e3 : i < vs.length := (List.getElem?_eq_some_iff.mp hv).1
  refine Run.pure (fun T locs X eT t z => X.aaload C.1 (by rw [eT]; exact A.1) (State.isArrayOf_alike C.2.1.alike A.2.1) hty A.2.2 (by rw [e1, hs]; rintro (q | q); exact e2 q; simp at q; omega) (by rw [e1, hs]; simpa using hv) (g := mkF m pc Ls (.int j :: .ref a :: st)) rfl rfl (hb C.2.2.1 hd) _ z) r
theorem s_baloadC (C : Ctx p l e R s m args below meth c Z own cd maxL ret nm) {a : Addr} {cl : Cell} {j x : Int32} (hd : decode cd pc = .ok (.baload, 1)) (hp : pc + 1 = pc') (A : Arr Z h a cl .byte) (hin : ¬ (j < 0 ∨ cl.slots.size ≤ j.toNatClampNeg)) (hv : cl.slots[j.toNatClampNeg]? = some (.int x)) (r : Run p l e R s m args below meth c n0 P h k n pc' Ls (.int x :: st)) : Run p l e R s m args below meth c n0 P h k n pc Ls (.int j :: .ref a :: st) := by
  subst hp
  exact Run.pure (fun T locs X eT t z => X.baloadBytes C.1 (by rw [eT]; exact A.1) (State.isArrayOf_alike C.2.1.alike A.2.1) A.2.2 hin hv (g := mkF m pc Ls (.int j :: .ref a :: st)) rfl rfl (hb C.2.2.1 hd) _ z) r
theorem s_aaloadC (C : Ctx p l e R s m args below meth c Z own cd maxL ret nm) {a : Addr} {cl : Cell} {ty : FieldType} {j : Int32} {x : Value} (hty : ty.isReference = true) (hd : decode cd pc = .ok (.aaload, 1)) (hp : pc + 1 = pc') (A : Arr Z h a cl ty) (hin : ¬ (j < 0 ∨ cl.slots.size ≤ j.toNatClampNeg)) (hv : cl.slots[j.toNatClampNeg]? = some x) (r : Run p l e R s m args below meth c n0 P h k n pc' Ls (x :: st)) : Run p l e R s m args below meth c n0 P h k n pc Ls (.int j :: .ref a :: st) := by
  subst hp
  exact Run.pure (fun T locs X eT t z => X.aaload C.1 (by rw [eT]; exact A.1) (State.isArrayOf_alike C.2.1.alike A.2.1) hty A.2.2 hin hv (g := mkF m pc Ls (.int j :: .ref a :: st)) rfl rfl (hb C.2.2.1 hd) _ z) r
theorem s_iastore (C : Ctx p l e R s m args below meth c Z own cd maxL ret nm) {a : Addr} {vs : List Value} {j : Int32} {x : Int32} (hd : decode cd pc = .ok (.iastore, 1)) (hp : pc + 1 = pc') (V : Av Z h a .int vs) (i : Nat) (hi : j.toInt = (i : Int)) (hlt : i < vs.length) (ha : n0 ≤ a) (vs' : List Value) (hvs : vs.set i (.int x) = vs') (r : ∀ h', Wr h h' a i (.int x) → Av Z h' a .int vs' → Run p l e R s m args below meth c n0 P h' k n pc' Ls st) : Run p l e R s m args below meth c n0 P h k n pc Ls ((.int x) :: .int j :: .ref a :: st) := by
  subst hp hvs
  have V0 := V
  obtain ⟨cl, A, hs, hl, -⟩ := V
  obtain ⟨e1, e2⟩ := idx_n hi
  subst e1
  intro T locs X eT N
  obtain ⟨T', h', X', e', W, q⟩ := stI X C.1 C.2.1 eT A (j := j) (by rw [hs]; rintro (q | q); exact e2 q; simp at q; omega) (g := mkF m pc Ls ((.int x) :: .int j :: .ref a :: st)) rfl rfl (hb C.2.2.1 hd)
  obtain ⟨s₂, o, z, r⟩ := r h' W (V0.set W rfl) T' _ X' e' (Fr.snoc X' N ha)
  exact ⟨s₂, o, q _ z, r⟩
theorem s_lastore (C : Ctx p l e R s m args below meth c Z own cd maxL ret nm) {a : Addr} {vs : List Value} {j : Int32} {x : Int64} (hd : decode cd pc = .ok (.lastore, 1)) (hp : pc + 1 = pc') (V : Av Z h a .long vs) (i : Nat) (hi : j.toInt = (i : Int)) (hlt : i < vs.length) (ha : n0 ≤ a) (vs' : List Value) (hvs : vs.set i (.long x) = vs') (r : ∀ h', Wr h h' a i (.long x) → Av Z h' a .long vs' → Run p l e R s m args below meth c n0 P h' k n pc' Ls st) : Run p l e R s m args below meth c n0 P h k n pc Ls ((.long x) :: .int j :: .ref a :: st) := by
  subst hp hvs
  have V0 := V
  obtain ⟨cl, A, hs, hl, -⟩ := V
  obtain ⟨e1, e2⟩ := idx_n hi
  subst e1
  intro T locs X eT N
  obtain ⟨T', h', X', e', W, q⟩ := stJ X C.1 C.2.1 eT A (j := j) (by rw [hs]; rintro (q | q); exact e2 q; simp at q; omega) (g := mkF m pc Ls ((.long x) :: .int j :: .ref a :: st)) rfl rfl (hb C.2.2.1 hd)
  obtain ⟨s₂, o, z, r⟩ := r h' W (V0.set W rfl) T' _ X' e' (Fr.snoc X' N ha)
  exact ⟨s₂, o, q _ z, r⟩
theorem s_bastore (C : Ctx p l e R s m args below meth c Z own cd maxL ret nm) {a : Addr} {vs : List Value} {j : Int32} {x : Int32} (hd : decode cd pc = .ok (.bastore, 1)) (hp : pc + 1 = pc') (V : Av Z h a .byte vs) (i : Nat) (hi : j.toInt = (i : Int)) (hlt : i < vs.length) (ha : n0 ≤ a) (vs' : List Value) (hvs : vs.set i (.int x.toInt8.toInt32) = vs') (r : ∀ h', Wr h h' a i (.int x.toInt8.toInt32) → Av Z h' a .byte vs' → Run p l e R s m args below meth c n0 P h' k n pc' Ls st) : Run p l e R s m args below meth c n0 P h k n pc Ls ((.int x) :: .int j :: .ref a :: st) := by
  subst hp hvs
  have V0 := V
  obtain ⟨cl, A, hs, hl, -⟩ := V
  obtain ⟨e1, e2⟩ := idx_n hi
  subst e1
  intro T locs X eT N
  obtain ⟨T', h', X', e', W, q⟩ := stB X C.1 C.2.1 eT A (j := j) (by rw [hs]; rintro (q | q); exact e2 q; simp at q; omega) (g := mkF m pc Ls ((.int x) :: .int j :: .ref a :: st)) rfl rfl (hb C.2.2.1 hd)
  obtain ⟨s₂, o, z, r⟩ := r h' W (V0.set W (fits_nar_byte _)) T' _ X' e' (Fr.snoc X' N ha)
  exact ⟨s₂, o, q _ z, r⟩
theorem s_castore (C : Ctx p l e R s m args below meth c Z own cd maxL ret nm) {a : Addr} {vs : List Value} {j : Int32} {x : Int32} (hd : decode cd pc = .ok (.castore, 1)) (hp : pc + 1 = pc') (V : Av Z h a .char vs) (i : Nat) (hi : j.toInt = (i : Int)) (hlt : i < vs.length) (ha : n0 ≤ a) (vs' : List Value) (hvs : vs.set i (.int x.toUInt32.toUInt16.toUInt32.toInt32) = vs') (r : ∀ h', Wr h h' a i (.int x.toUInt32.toUInt16.toUInt32.toInt32) → Av Z h' a .char vs' → Run p l e R s m args below meth c n0 P h' k n pc' Ls st) : Run p l e R s m args below meth c n0 P h k n pc Ls ((.int x) :: .int j :: .ref a :: st) := by
  subst hp hvs
  have V0 := V
  obtain ⟨cl, A, hs, hl, -⟩ := V
  obtain ⟨e1, e2⟩ := idx_n hi
  subst e1
  intro T locs X eT N
  obtain ⟨T', h', X', e', W, q⟩ := stC X C.1 C.2.1 eT A (j := j) (by rw [hs]; rintro (q | q); exact e2 q; simp at q; omega) (g := mkF m pc Ls ((.int x) :: .int j :: .ref a :: st)) rfl rfl (hb C.2.2.1 hd)
  obtain ⟨s₂, o, z, r⟩ := r h' W (V0.set W (fits_nar_char _)) T' _ X' e' (Fr.snoc X' N ha)
  exact ⟨s₂, o, q _ z, r⟩
end Steps
end Own
end Jvm.Pilot.@@N@@

namespace Jvm.Pilot.@@N@@
open Jvm Jvm.ClassFile Sem Op Lib Jvm.Free Jvm.Stand Jvm.LawKit Jvm.RoadKit Bundle Jvm.Pilot.@@N@@.Jvm.D
namespace Own
abbrev Hw (a0 : Array Value) (Z : State) : Prop := ∀ d ∈ tables_1, d.before a0 Z = true
theorem w0 {a0 : Array Value} {Z : State} (hw : Hw a0 Z) : (Jvm.Cond.methodLink "com/example/cairnstone/cairnstone/ScopeOfPinLaw" (7 : Nat) ({ cls := "com/example/cairnstone/cairnstone/ScopeOfPinLaw", name := "matches", desc := "(J)Z" } : Jvm.MethodName)).before a0 Z = true := hw _ (List.mem_of_getElem? (i := 0) rfl)
theorem w1 {a0 : Array Value} {Z : State} (hw : Hw a0 Z) : (Jvm.Cond.static ({ cls := "com/example/cairnstone/cairnstone/ScopeOfPinLaw", name := "matches", desc := "(J)Z" } : Jvm.MethodName)).before a0 Z = true := hw _ (List.mem_of_getElem? (i := 1) rfl)
theorem w2 {a0 : Array Value} {Z : State} (hw : Hw a0 Z) : (Jvm.Cond.initialized "com/example/cairnstone/cairnstone/ScopeOfPinLaw").before a0 Z = true := hw _ (List.mem_of_getElem? (i := 2) rfl)
theorem w3 {a0 : Array Value} {Z : State} (hw : Hw a0 Z) : (Jvm.Cond.code ({ cls := "com/example/cairnstone/cairnstone/ScopeOfPinLaw", name := "matches", desc := "(J)Z" } : Jvm.MethodName) method_3_code (3 : Nat) (Option.some Jvm.ClassFile.FieldType.boolean)).before a0 Z = true := hw _ (List.mem_of_getElem? (i := 3) rfl)
theorem w4 {a0 : Array Value} {Z : State} (hw : Hw a0 Z) : (Jvm.Cond.methodLink "com/example/cairnstone/cairnstone/ScopeOfPinLaw" (13 : Nat) ({ cls := "com/example/cairnstone/cairnstone/LogEntry$Delete$Scope", name := "of", desc := "(J)Lcom/example/cairnstone/cairnstone/LogEntry$Delete$Scope;" } : Jvm.MethodName)).before a0 Z = true := hw _ (List.mem_of_getElem? (i := 4) rfl)
theorem w5 {a0 : Array Value} {Z : State} (hw : Hw a0 Z) : (Jvm.Cond.static ({ cls := "com/example/cairnstone/cairnstone/LogEntry$Delete$Scope", name := "of", desc := "(J)Lcom/example/cairnstone/cairnstone/LogEntry$Delete$Scope;" } : Jvm.MethodName)).before a0 Z = true := hw _ (List.mem_of_getElem? (i := 5) rfl)
theorem w6 {a0 : Array Value} {Z : State} (hw : Hw a0 Z) : (Jvm.Cond.initialized "com/example/cairnstone/cairnstone/LogEntry$Delete$Scope").before a0 Z = true := hw _ (List.mem_of_getElem? (i := 6) rfl)
theorem w7 {a0 : Array Value} {Z : State} (hw : Hw a0 Z) : (Jvm.Cond.code ({ cls := "com/example/cairnstone/cairnstone/LogEntry$Delete$Scope", name := "of", desc := "(J)Lcom/example/cairnstone/cairnstone/LogEntry$Delete$Scope;" } : Jvm.MethodName) prog_18_method_4_code (3 : Nat) (Option.some (Jvm.ClassFile.FieldType.object "com/example/cairnstone/cairnstone/LogEntry$Delete$Scope"))).before a0 Z = true := hw _ (List.mem_of_getElem? (i := 7) rfl)
theorem w8 {a0 : Array Value} {Z : State} (hw : Hw a0 Z) : (Jvm.Cond.methodLink "com/example/cairnstone/cairnstone/LogEntry$Delete$Scope" (39 : Nat) ({ cls := "com/example/cairnstone/cairnstone/LogEntry$Delete$Scope", name := "values", desc := "()[Lcom/example/cairnstone/cairnstone/LogEntry$Delete$Scope;" } : Jvm.MethodName)).before a0 Z = true := hw _ (List.mem_of_getElem? (i := 8) rfl)
theorem w9 {a0 : Array Value} {Z : State} (hw : Hw a0 Z) : (Jvm.Cond.static ({ cls := "com/example/cairnstone/cairnstone/LogEntry$Delete$Scope", name := "values", desc := "()[Lcom/example/cairnstone/cairnstone/LogEntry$Delete$Scope;" } : Jvm.MethodName)).before a0 Z = true := hw _ (List.mem_of_getElem? (i := 9) rfl)
theorem w10 {a0 : Array Value} {Z : State} (hw : Hw a0 Z) : (Jvm.Cond.code ({ cls := "com/example/cairnstone/cairnstone/LogEntry$Delete$Scope", name := "values", desc := "()[Lcom/example/cairnstone/cairnstone/LogEntry$Delete$Scope;" } : Jvm.MethodName) prog_18_method_1_code (0 : Nat) (Option.some (Jvm.ClassFile.FieldType.array (Jvm.ClassFile.FieldType.object "com/example/cairnstone/cairnstone/LogEntry$Delete$Scope")))).before a0 Z = true := hw _ (List.mem_of_getElem? (i := 10) rfl)
theorem w11 {a0 : Array Value} {Z : State} (hw : Hw a0 Z) : (Jvm.Cond.fieldLink "com/example/cairnstone/cairnstone/LogEntry$Delete$Scope" (16 : Nat) "com/example/cairnstone/cairnstone/LogEntry$Delete$Scope" "$VALUES" "[Lcom/example/cairnstone/cairnstone/LogEntry$Delete$Scope;").before a0 Z = true := hw _ (List.mem_of_getElem? (i := 11) rfl)
theorem w12 {a0 : Array Value} {Z : State} (hw : Hw a0 Z) : (Jvm.Cond.laysStatic "com/example/cairnstone/cairnstone/LogEntry$Delete$Scope" "$VALUES" "[Lcom/example/cairnstone/cairnstone/LogEntry$Delete$Scope;").before a0 Z = true := hw _ (List.mem_of_getElem? (i := 12) rfl)
theorem w13 {a0 : Array Value} {Z : State} (hw : Hw a0 Z) : (Jvm.Cond.methodLink "com/example/cairnstone/cairnstone/LogEntry$Delete$Scope" (20 : Nat) ({ cls := "[Lcom/example/cairnstone/cairnstone/LogEntry$Delete$Scope;", name := "clone", desc := "()Ljava/lang/Object;" } : Jvm.MethodName)).before a0 Z = true := hw _ (List.mem_of_getElem? (i := 13) rfl)
theorem w14 {a0 : Array Value} {Z : State} (hw : Hw a0 Z) : (Jvm.Cond.sameMethod "[Lcom/example/cairnstone/cairnstone/LogEntry$Delete$Scope;" "java/lang/Object" "clone" "()Ljava/lang/Object;").before a0 Z = true := hw _ (List.mem_of_getElem? (i := 14) rfl)
theorem w16 {a0 : Array Value} {Z : State} (hw : Hw a0 Z) : (Jvm.Cond.instanceMethod ({ cls := "java/lang/Object", name := "clone", desc := "()Ljava/lang/Object;" } : Jvm.MethodName)).before a0 Z = true := hw _ (List.mem_of_getElem? (i := 16) rfl)
theorem w17 {a0 : Array Value} {Z : State} (hw : Hw a0 Z) : (Jvm.Cond.selects "[Lcom/example/cairnstone/cairnstone/LogEntry$Delete$Scope;" ({ cls := "[Lcom/example/cairnstone/cairnstone/LogEntry$Delete$Scope;", name := "clone", desc := "()Ljava/lang/Object;" } : Jvm.MethodName) ({ cls := "java/lang/Object", name := "clone", desc := "()Ljava/lang/Object;" } : Jvm.MethodName)).before a0 Z = true := hw _ (List.mem_of_getElem? (i := 17) rfl)
theorem w18 {a0 : Array Value} {Z : State} (hw : Hw a0 Z) : (Jvm.Cond.native ({ cls := "java/lang/Object", name := "clone", desc := "()Ljava/lang/Object;" } : Jvm.MethodName)).before a0 Z = true := hw _ (List.mem_of_getElem? (i := 18) rfl)
theorem w19 {a0 : Array Value} {Z : State} (hw : Hw a0 Z) : (Jvm.Cond.castable "[Lcom/example/cairnstone/cairnstone/LogEntry$Delete$Scope;" "java/lang/Cloneable").before a0 Z = true := hw _ (List.mem_of_getElem? (i := 19) rfl)
theorem w20 {a0 : Array Value} {Z : State} (hw : Hw a0 Z) : (Jvm.Cond.laysStatic "com/example/cairnstone/cairnstone/LogEntry$Delete$Scope" "VERSION" "Lcom/example/cairnstone/cairnstone/LogEntry$Delete$Scope;").before a0 Z = true := hw _ (List.mem_of_getElem? (i := 20) rfl)
theorem w21 {a0 : Array Value} {Z : State} (hw : Hw a0 Z) : (Jvm.Cond.laysStatic "com/example/cairnstone/cairnstone/LogEntry$Delete$Scope" "COLUMN" "Lcom/example/cairnstone/cairnstone/LogEntry$Delete$Scope;").before a0 Z = true := hw _ (List.mem_of_getElem? (i := 21) rfl)
theorem w22 {a0 : Array Value} {Z : State} (hw : Hw a0 Z) : (Jvm.Cond.laysStatic "com/example/cairnstone/cairnstone/LogEntry$Delete$Scope" "FAMILY" "Lcom/example/cairnstone/cairnstone/LogEntry$Delete$Scope;").before a0 Z = true := hw _ (List.mem_of_getElem? (i := 22) rfl)
theorem w23 {a0 : Array Value} {Z : State} (hw : Hw a0 Z) : (Jvm.Cond.laysStatic "com/example/cairnstone/cairnstone/LogEntry$Delete$Scope" "ROW" "Lcom/example/cairnstone/cairnstone/LogEntry$Delete$Scope;").before a0 Z = true := hw _ (List.mem_of_getElem? (i := 23) rfl)
theorem w25 {a0 : Array Value} {Z : State} (hw : Hw a0 Z) : (Jvm.Cond.classLink "com/example/cairnstone/cairnstone/LogEntry$Delete$Scope" (21 : Nat) "[Lcom/example/cairnstone/cairnstone/LogEntry$Delete$Scope;").before a0 Z = true := hw _ (List.mem_of_getElem? (i := 25) rfl)
theorem w27 {a0 : Array Value} {Z : State} (hw : Hw a0 Z) : (Jvm.Cond.constantLong "com/example/cairnstone/cairnstone/ScopeOfPinLaw" (26 : Nat) (2 : Int64)).before a0 Z = true := hw _ (List.mem_of_getElem? (i := 27) rfl)
theorem w28 {a0 : Array Value} {Z : State} (hw : Hw a0 Z) : (Jvm.Cond.constantLong "com/example/cairnstone/cairnstone/ScopeOfPinLaw" (31 : Nat) (3 : Int64)).before a0 Z = true := hw _ (List.mem_of_getElem? (i := 28) rfl)
theorem w29 {a0 : Array Value} {Z : State} (hw : Hw a0 Z) : (Jvm.Cond.fieldLink "com/example/cairnstone/cairnstone/ScopeOfPinLaw" (33 : Nat) "com/example/cairnstone/cairnstone/LogEntry$Delete$Scope" "ROW" "Lcom/example/cairnstone/cairnstone/LogEntry$Delete$Scope;").before a0 Z = true := hw _ (List.mem_of_getElem? (i := 29) rfl)
theorem w30 {a0 : Array Value} {Z : State} (hw : Hw a0 Z) : (Jvm.Cond.fieldLink "com/example/cairnstone/cairnstone/ScopeOfPinLaw" (19 : Nat) "com/example/cairnstone/cairnstone/LogEntry$Delete$Scope" "VERSION" "Lcom/example/cairnstone/cairnstone/LogEntry$Delete$Scope;").before a0 Z = true := hw _ (List.mem_of_getElem? (i := 30) rfl)
theorem w31 {a0 : Array Value} {Z : State} (hw : Hw a0 Z) : (Jvm.Cond.fieldLink "com/example/cairnstone/cairnstone/ScopeOfPinLaw" (28 : Nat) "com/example/cairnstone/cairnstone/LogEntry$Delete$Scope" "FAMILY" "Lcom/example/cairnstone/cairnstone/LogEntry$Delete$Scope;").before a0 Z = true := hw _ (List.mem_of_getElem? (i := 31) rfl)
theorem w32 {a0 : Array Value} {Z : State} (hw : Hw a0 Z) : (Jvm.Cond.fieldLink "com/example/cairnstone/cairnstone/ScopeOfPinLaw" (23 : Nat) "com/example/cairnstone/cairnstone/LogEntry$Delete$Scope" "COLUMN" "Lcom/example/cairnstone/cairnstone/LogEntry$Delete$Scope;").before a0 Z = true := hw _ (List.mem_of_getElem? (i := 32) rfl)
theorem ef3 (m : MethodId)  : entryFrame m #[] 0 = mkF m 0 #[] [] := by first | (simp [entryFrame, mkF, argsToLocals, Value.category]; done) | rfl
theorem pn3 : plainFor (⟨"com/example/cairnstone/cairnstone/LogEntry$Delete$Scope", "values", "()[Lcom/example/cairnstone/cairnstone/LogEntry$Delete$Scope;"⟩ : MethodName) = true := plainFor_of_name (by first | (simp [plainName, overriddenIn]; done) | decide +kernel)
theorem d3_0 : decode prog_18_method_1_code 0 = .ok (.getstatic 16, 3) := by decide +kernel
theorem d3_3 : decode prog_18_method_1_code 3 = .ok (.invokevirtual 20, 3) := by decide +kernel
theorem d3_6 : decode prog_18_method_1_code 6 = .ok (.checkcast 21, 3) := by decide +kernel
theorem d3_9 : decode prog_18_method_1_code 9 = .ok (.areturn, 1) := by decide +kernel
theorem ef2 (m : MethodId) (x0 : Int64) : entryFrame m #[(.long x0)] 3 = mkF m 0 #[.val (.long x0), .second, .unset] [] := by first | (simp [entryFrame, mkF, argsToLocals, Value.category]; done) | rfl
theorem pn2 : plainFor (⟨"com/example/cairnstone/cairnstone/LogEntry$Delete$Scope", "of", "(J)Lcom/example/cairnstone/cairnstone/LogEntry$Delete$Scope;"⟩ : MethodName) = true := plainFor_of_name (by first | (simp [plainName, overriddenIn]; done) | decide +kernel)
theorem d2_0 : decode prog_18_method_4_code 0 = .ok (.invokestatic 39, 3) := by decide +kernel
theorem pd1 : parseMethodDescriptor "()[Lcom/example/cairnstone/cairnstone/LogEntry$Delete$Scope;" = some ⟨[], some (.array (.object "com/example/cairnstone/cairnstone/LogEntry$Delete$Scope"))⟩ := by decide +kernel
theorem d2_3 : decode prog_18_method_4_code 3 = .ok (.astore_n 2, 1) := by decide +kernel
theorem d2_4 : decode prog_18_method_4_code 4 = .ok (.lload_n 0, 1) := by decide +kernel
theorem d2_5 : decode prog_18_method_4_code 5 = .ok (.lconst 0, 1) := by decide +kernel
theorem d2_6 : decode prog_18_method_4_code 6 = .ok (.lcmp, 1) := by decide +kernel
theorem d2_7 : decode prog_18_method_4_code 7 = .ok (.ifCond .lt 18, 3) := by decide +kernel
theorem d2_25 : decode prog_18_method_4_code 25 = .ok (.aconst_null, 1) := by decide +kernel
theorem d2_26 : decode prog_18_method_4_code 26 = .ok (.areturn, 1) := by decide +kernel
theorem d2_10 : decode prog_18_method_4_code 10 = .ok (.lload_n 0, 1) := by decide +kernel
theorem d2_11 : decode prog_18_method_4_code 11 = .ok (.aload_n 2, 1) := by decide +kernel
theorem d2_12 : decode prog_18_method_4_code 12 = .ok (.arraylength, 1) := by decide +kernel
theorem d2_13 : decode prog_18_method_4_code 13 = .ok (.i2l, 1) := by decide +kernel
theorem d2_14 : decode prog_18_method_4_code 14 = .ok (.lcmp, 1) := by decide +kernel
theorem d2_15 : decode prog_18_method_4_code 15 = .ok (.ifCond .ge 10, 3) := by decide +kernel
theorem d2_18 : decode prog_18_method_4_code 18 = .ok (.aload_n 2, 1) := by decide +kernel
theorem d2_19 : decode prog_18_method_4_code 19 = .ok (.lload_n 0, 1) := by decide +kernel
theorem d2_20 : decode prog_18_method_4_code 20 = .ok (.l2i, 1) := by decide +kernel
theorem d2_21 : decode prog_18_method_4_code 21 = .ok (.aaload, 1) := by decide +kernel
theorem d2_22 : decode prog_18_method_4_code 22 = .ok (.goto 4, 3) := by decide +kernel
theorem ef1 (m : MethodId) (x0 : Int64) : entryFrame m #[(.long x0)] 3 = mkF m 0 #[.val (.long x0), .second, .unset] [] := by first | (simp [entryFrame, mkF, argsToLocals, Value.category]; done) | rfl
theorem pn1 : plainFor (⟨"com/example/cairnstone/cairnstone/ScopeOfPinLaw", "matches", "(J)Z"⟩ : MethodName) = true := plainFor_of_name (by first | (simp [plainName, overriddenIn]; done) | decide +kernel)
theorem d1_0 : decode method_3_code 0 = .ok (.lload_n 0, 1) := by decide +kernel
theorem d1_1 : decode method_3_code 1 = .ok (.invokestatic 13, 3) := by decide +kernel
theorem pd2 : parseMethodDescriptor "(J)Lcom/example/cairnstone/cairnstone/LogEntry$Delete$Scope;" = some ⟨[.long], some (.object "com/example/cairnstone/cairnstone/LogEntry$Delete$Scope")⟩ := by decide +kernel
theorem d1_4 : decode method_3_code 4 = .ok (.astore_n 2, 1) := by decide +kernel
theorem d1_5 : decode method_3_code 5 = .ok (.lload_n 0, 1) := by decide +kernel
theorem d1_6 : decode method_3_code 6 = .ok (.lconst 0, 1) := by decide +kernel
theorem d1_7 : decode method_3_code 7 = .ok (.lcmp, 1) := by decide +kernel
theorem d1_8 : decode method_3_code 8 = .ok (.ifCond .ne 16, 3) := by decide +kernel
theorem d1_11 : decode method_3_code 11 = .ok (.aload_n 2, 1) := by decide +kernel
theorem d1_12 : decode method_3_code 12 = .ok (.getstatic 19, 3) := by decide +kernel
theorem d1_15 : decode method_3_code 15 = .ok (.if_acmp .ne 7, 3) := by decide +kernel
theorem d1_18 : decode method_3_code 18 = .ok (.iconst 1, 1) := by decide +kernel
theorem d1_19 : decode method_3_code 19 = .ok (.goto 4, 3) := by decide +kernel
theorem d1_23 : decode method_3_code 23 = .ok (.ireturn, 1) := by decide +kernel
theorem d1_24 : decode method_3_code 24 = .ok (.lload_n 0, 1) := by decide +kernel
theorem d1_25 : decode method_3_code 25 = .ok (.lconst 1, 1) := by decide +kernel
theorem d1_26 : decode method_3_code 26 = .ok (.lcmp, 1) := by decide +kernel
theorem d1_27 : decode method_3_code 27 = .ok (.ifCond .ne 16, 3) := by decide +kernel
theorem d1_30 : decode method_3_code 30 = .ok (.aload_n 2, 1) := by decide +kernel
theorem d1_31 : decode method_3_code 31 = .ok (.getstatic 23, 3) := by decide +kernel
theorem d1_34 : decode method_3_code 34 = .ok (.if_acmp .ne 7, 3) := by decide +kernel
theorem d1_37 : decode method_3_code 37 = .ok (.iconst 1, 1) := by decide +kernel
theorem d1_38 : decode method_3_code 38 = .ok (.goto 4, 3) := by decide +kernel
theorem d1_42 : decode method_3_code 42 = .ok (.ireturn, 1) := by decide +kernel
theorem d1_43 : decode method_3_code 43 = .ok (.lload_n 0, 1) := by decide +kernel
theorem d1_44 : decode method_3_code 44 = .ok (.ldc2_w 26, 3) := by decide +kernel
theorem d1_47 : decode method_3_code 47 = .ok (.lcmp, 1) := by decide +kernel
theorem d1_48 : decode method_3_code 48 = .ok (.ifCond .ne 16, 3) := by decide +kernel
theorem d1_51 : decode method_3_code 51 = .ok (.aload_n 2, 1) := by decide +kernel
theorem d1_52 : decode method_3_code 52 = .ok (.getstatic 28, 3) := by decide +kernel
theorem d1_55 : decode method_3_code 55 = .ok (.if_acmp .ne 7, 3) := by decide +kernel
theorem d1_58 : decode method_3_code 58 = .ok (.iconst 1, 1) := by decide +kernel
theorem d1_59 : decode method_3_code 59 = .ok (.goto 4, 3) := by decide +kernel
theorem d1_63 : decode method_3_code 63 = .ok (.ireturn, 1) := by decide +kernel
theorem d1_64 : decode method_3_code 64 = .ok (.lload_n 0, 1) := by decide +kernel
theorem d1_65 : decode method_3_code 65 = .ok (.ldc2_w 31, 3) := by decide +kernel
theorem d1_68 : decode method_3_code 68 = .ok (.lcmp, 1) := by decide +kernel
theorem d1_69 : decode method_3_code 69 = .ok (.ifCond .ne 16, 3) := by decide +kernel
theorem d1_72 : decode method_3_code 72 = .ok (.aload_n 2, 1) := by decide +kernel
theorem d1_73 : decode method_3_code 73 = .ok (.getstatic 33, 3) := by decide +kernel
theorem d1_76 : decode method_3_code 76 = .ok (.if_acmp .ne 7, 3) := by decide +kernel
theorem d1_79 : decode method_3_code 79 = .ok (.iconst 1, 1) := by decide +kernel
theorem d1_80 : decode method_3_code 80 = .ok (.goto 4, 3) := by decide +kernel
theorem d1_84 : decode method_3_code 84 = .ok (.ireturn, 1) := by decide +kernel
theorem d1_85 : decode method_3_code 85 = .ok (.aload_n 2, 1) := by decide +kernel
theorem d1_86 : decode method_3_code 86 = .ok (.ifnonnull 7, 3) := by decide +kernel
theorem d1_89 : decode method_3_code 89 = .ok (.iconst 1, 1) := by decide +kernel
theorem d1_90 : decode method_3_code 90 = .ok (.goto 4, 3) := by decide +kernel
theorem d1_94 : decode method_3_code 94 = .ok (.ireturn, 1) := by decide +kernel
theorem ef0 (m : MethodId) (x0 : Int64) (x1 : Int32) : entryFrame m #[(.long x0), (.int x1)] maxLocals = mkF m 0 #[.val (.long x0), .second, .val (.int x1), .unset, .unset, .unset, .unset] [] := by first | (simp [entryFrame, mkF, argsToLocals, Value.category, maxLocals]; done) | rfl
theorem pn0 : plainFor (⟨"com/example/cairnstone/cairnstone/ScopeOfPinLaw", "law", "(JI)Z"⟩ : MethodName) = true := plainFor_of_name (by first | (simp [plainName, overriddenIn]; done) | decide +kernel)
theorem pd3 : parseMethodDescriptor "(J)Z" = some ⟨[.long], some .boolean⟩ := by decide +kernel

def own_of (e0 e1 e2 e3 : Addr) (v : Int64) : Value := if v = 0 then .ref e0 else if v = 1 then .ref e1 else if v = 2 then .ref e2 else if v = 3 then .ref e3 else .null
theorem own_neg {e0 e1 e2 e3 : Addr} {v : Int64} (h : v < 0) : own_of e0 e1 e2 e3 v = .null := by
  unfold own_of
  rw [if_neg, if_neg, if_neg, if_neg] <;> (intro q; subst q; revert h; decide)
theorem own_big {e0 e1 e2 e3 : Addr} {v : Int64} (h : ¬ v < 4) : own_of e0 e1 e2 e3 v = .null := by
  unfold own_of
  rw [if_neg, if_neg, if_neg, if_neg] <;> (intro q; subst q; revert h; decide)
theorem own_4 {v : Int64} (h0 : ¬ v < 0) (h : v < 4) : v = 0 ∨ v = 1 ∨ v = 2 ∨ v = 3 := by
  simp only [Int64.lt_iff_toInt_lt, ← Int64.toInt_inj] at *
  have k0 : (0 : Int64).toInt = 0 := by decide
  have k1 : (1 : Int64).toInt = 1 := by decide
  have k2 : (2 : Int64).toInt = 2 := by decide
  have k3 : (3 : Int64).toInt = 3 := by decide
  have k4 : (4 : Int64).toInt = 4 := by decide
  rw [k0] at h0
  rw [k4] at h
  rw [k0, k1, k2, k3]; omega
theorem own_none {e0 e1 e2 e3 : Addr} {v : Int64} (h0 : ¬ v = 0) (h1 : ¬ v = 1) (h2 : ¬ v = 2) (h3 : ¬ v = 3) : own_of e0 e1 e2 e3 v = .null := by
  unfold own_of
  rw [if_neg h0, if_neg h1, if_neg h2, if_neg h3]

set_option maxRecDepth 65536 in
set_option maxHeartbeats 40000000 in
theorem c_vals (l : Launch) (Z : State) (a0 : Array Value) (hw : Hw a0 Z) (b e0 e1 e2 e3 : Addr) (h0 : Heap) (n0 : Nat) (Z0 : n0 ≤ h0.size) (O0 : Old Z n0 h0) (S_b : Sta Z Z.heap "com/example/cairnstone/cairnstone/LogEntry$Delete$Scope" "$VALUES" "[Lcom/example/cairnstone/cairnstone/LogEntry$Delete$Scope;" (.ref b)) (V_b : Av Z h0 b (.object "com/example/cairnstone/cairnstone/LogEntry$Delete$Scope") [(.ref e0), (.ref e1), (.ref e2), (.ref e3)]) (X_b : Exa Z h0 b "[Lcom/example/cairnstone/cairnstone/LogEntry$Delete$Scope;") :
    Met l Z (⟨"com/example/cairnstone/cairnstone/LogEntry$Delete$Scope", "values", "()[Lcom/example/cairnstone/cairnstone/LogEntry$Delete$Scope;"⟩ : MethodName) prog_18_method_1_code 0 (some (.array (.object "com/example/cairnstone/cairnstone/LogEntry$Delete$Scope"))) [] ({ frames := 1, cells := 1, slots := 4, locals := 30 } : Room) #[] h0 n0 (RetV (fun z h => ∃ r : Addr, z = .ref r ∧ Keep h0 h [] ∧ h0.size ≤ r ∧ Av Z h r (.object "com/example/cairnstone/cairnstone/LogEntry$Delete$Scope") [(.ref e0), (.ref e1), (.ref e2), (.ref e3)])) := by
  refine Met.intro pn3 (own := "com/example/cairnstone/cairnstone/LogEntry$Delete$Scope") rfl (nm := "values") rfl (fun m => ef3 m ) ?_
  intro p e s m below meth c C
  refine s_getS C d3_0 (pc' := 3) rfl (w11 hw) (S_b.ext O0.2) ?_
  refine s_clone C d3_3 (pc' := 6) rfl (w13 hw) (w14 hw) (w18 hw) (w16 hw) (w17 hw) (w19 hw) V_b X_b rfl (by decide) (W := 0) rfl (by decide) (cap := 4) (Nat.le_of_ble_eq_true rfl) (k' := 1) rfl (by decide) (n' := 4) rfl (by decide) (fun h1 a1 E1 g1 A1 X1 => ?_)
  have ne2 : b ≠ a1 := Nat.ne_of_lt (by rw [g1]; exact V_b.lt)
  have gn3 : n0 ≤ a1 := by rw [g1]; exact Z0
  have bs4 : h0.size ≤ a1 := by rw [g1]; exact (Keep.refl h0 []).1
  have sz5 : n0 ≤ h1.size := (Nat.le_trans Z0 E1.1)
  have Kp6 : Keep h0 h1 [] := (Keep.refl h0 []).ext E1
  have Od7 : Old Z n0 h1 := O0.ext E1
  refine s_cast C d3_6 (pc' := 9) rfl (w25 hw) (Ins.self X1) ?_
  exact s_retA C rfl rfl rfl d3_9 (by decide) (by decide) ⟨a1, rfl, Kp6, bs4, A1⟩
set_option maxRecDepth 65536 in
set_option maxHeartbeats 40000000 in
theorem c_of (l : Launch) (Z : State) (a0 : Array Value) (hw : Hw a0 Z) (x1 : Int64) (b e0 e1 e2 e3 : Addr) (wv : Value) (h0 : Heap) (n0 : Nat) (Z0 : n0 ≤ h0.size) (O0 : Old Z n0 h0) (S_b : Sta Z Z.heap "com/example/cairnstone/cairnstone/LogEntry$Delete$Scope" "$VALUES" "[Lcom/example/cairnstone/cairnstone/LogEntry$Delete$Scope;" (.ref b)) (V_b : Av Z h0 b (.object "com/example/cairnstone/cairnstone/LogEntry$Delete$Scope") [(.ref e0), (.ref e1), (.ref e2), (.ref e3)]) (X_b : Exa Z h0 b "[Lcom/example/cairnstone/cairnstone/LogEntry$Delete$Scope;") (hv : own_of e0 e1 e2 e3 x1 = wv) :
    Met l Z (⟨"com/example/cairnstone/cairnstone/LogEntry$Delete$Scope", "of", "(J)Lcom/example/cairnstone/cairnstone/LogEntry$Delete$Scope;"⟩ : MethodName) prog_18_method_4_code 3 (some (.object "com/example/cairnstone/cairnstone/LogEntry$Delete$Scope")) [] ({ frames := 2, cells := 1, slots := 4, locals := 60 } : Room) #[(.long x1)] h0 n0 (RetV (fun z h => Keep h0 h [] ∧ wv = z)) := by
  refine Met.intro pn2 (own := "com/example/cairnstone/cairnstone/LogEntry$Delete$Scope") rfl (nm := "of") rfl (fun m => ef2 m x1) ?_
  intro p e s m below meth c C
  refine s_callSA C d2_0 (pc' := 3) rfl (w8 hw) (w9 hw) (w6 hw) (w10 hw) (by decide) [] [] pd1 rfl rfl (c_vals l Z a0 hw b e0 e1 e2 e3 h0 n0 Z0 O0 S_b V_b X_b) rfl (W := 0) rfl (by decide) (by decide) (k' := 1) rfl (by decide) (n' := 4) rfl (by decide) (fun _ h1 q1 => ?_)
  obtain ⟨r1, rfl, K1, s1, A1⟩ := q1
  have ne2 : b ≠ r1 := Nat.ne_of_lt (Nat.lt_of_lt_of_le V_b.lt s1)
  have gn3 : n0 ≤ r1 := Nat.le_trans Z0 s1
  have bs4 : h0.size ≤ r1 := Nat.le_trans (Keep.refl h0 []).1 s1
  have sz5 : n0 ≤ h1.size := (Nat.le_trans Z0 K1.1)
  have Kp6 : Keep h0 h1 [] := (Keep.refl h0 []).trans K1 all0
  have Od7 : Old Z n0 h1 := O0.keep K1 all0
  refine s_astoreN C d2_3 (pc' := 4) rfl rfl #[.val (.long x1), .second, .val (.ref r1)] rfl ?_
  refine s_lloadN C d2_4 (pc' := 5) rfl rfl ?_
  refine s_lconst C d2_5 (pc' := 6) rfl (0 : Int64) rfl ?_
  refine s_lc_lt C d2_6 (pc1 := 7) rfl d2_7 (pc' := 10) rfl (pcY := 25) rfl (fun c8 => ?_) (fun c8 => ?_)
  · skip
    refine s_null C d2_25 (pc' := 26) rfl ?_
    exact s_retA C rfl rfl rfl d2_26 (by decide) (by decide) ⟨Kp6, hv.symm.trans (own_neg c8)⟩
  · skip
    refine s_lloadN C d2_10 (pc' := 11) rfl rfl ?_
    refine s_aloadN C d2_11 (pc' := 12) rfl rfl rfl ?_
    refine s_length C d2_12 (pc' := 13) rfl A1 (4 : Int32) rfl ?_
    refine s_i2l C d2_13 (pc' := 14) rfl ?_
    refine s_foldL C (y := (4 : Int64)) (by decide) ?_
    refine s_lc_ge C d2_14 (pc1 := 15) rfl d2_15 (pc' := 18) rfl (pcY := 25) rfl (fun c9 => ?_) (fun c9 => ?_)
    · skip
      refine s_null C d2_25 (pc' := 26) rfl ?_
      exact s_retA C rfl rfl rfl d2_26 (by decide) (by decide) ⟨Kp6, hv.symm.trans (own_big c9)⟩
    · skip
      rcases own_4 c8 c9 with q | q | q | q
      · subst q
        refine s_aloadN C d2_18 (pc' := 19) rfl rfl rfl ?_
        refine s_lloadN C d2_19 (pc' := 20) rfl rfl ?_
        refine s_l2i C d2_20 (pc' := 21) rfl ?_
        refine s_foldI C (y := (0 : Int32)) (by decide) ?_
        refine s_aaload C rfl d2_21 (pc' := 22) rfl A1 0 (by decide) rfl ?_
        refine s_goto C d2_22 (pc' := 26) rfl ?_
        exact s_retA C rfl rfl rfl d2_26 (by decide) (by decide) ⟨Kp6, hv.symm.trans rfl⟩
      · subst q
        refine s_aloadN C d2_18 (pc' := 19) rfl rfl rfl ?_
        refine s_lloadN C d2_19 (pc' := 20) rfl rfl ?_
        refine s_l2i C d2_20 (pc' := 21) rfl ?_
        refine s_foldI C (y := (1 : Int32)) (by decide) ?_
        refine s_aaload C rfl d2_21 (pc' := 22) rfl A1 1 (by decide) rfl ?_
        refine s_goto C d2_22 (pc' := 26) rfl ?_
        exact s_retA C rfl rfl rfl d2_26 (by decide) (by decide) ⟨Kp6, hv.symm.trans rfl⟩
      · subst q
        refine s_aloadN C d2_18 (pc' := 19) rfl rfl rfl ?_
        refine s_lloadN C d2_19 (pc' := 20) rfl rfl ?_
        refine s_l2i C d2_20 (pc' := 21) rfl ?_
        refine s_foldI C (y := (2 : Int32)) (by decide) ?_
        refine s_aaload C rfl d2_21 (pc' := 22) rfl A1 2 (by decide) rfl ?_
        refine s_goto C d2_22 (pc' := 26) rfl ?_
        exact s_retA C rfl rfl rfl d2_26 (by decide) (by decide) ⟨Kp6, hv.symm.trans rfl⟩
      · subst q
        refine s_aloadN C d2_18 (pc' := 19) rfl rfl rfl ?_
        refine s_lloadN C d2_19 (pc' := 20) rfl rfl ?_
        refine s_l2i C d2_20 (pc' := 21) rfl ?_
        refine s_foldI C (y := (3 : Int32)) (by decide) ?_
        refine s_aaload C rfl d2_21 (pc' := 22) rfl A1 3 (by decide) rfl ?_
        refine s_goto C d2_22 (pc' := 26) rfl ?_
        exact s_retA C rfl rfl rfl d2_26 (by decide) (by decide) ⟨Kp6, hv.symm.trans rfl⟩
set_option maxRecDepth 65536 in
set_option maxHeartbeats 40000000 in
theorem c_mat (l : Launch) (Z : State) (a0 : Array Value) (hw : Hw a0 Z) (x1 : Int64) (b e0 e1 e2 e3 : Addr) (h0 : Heap) (n0 : Nat) (Z0 : n0 ≤ h0.size) (O0 : Old Z n0 h0) (S_b : Sta Z Z.heap "com/example/cairnstone/cairnstone/LogEntry$Delete$Scope" "$VALUES" "[Lcom/example/cairnstone/cairnstone/LogEntry$Delete$Scope;" (.ref b)) (V_b : Av Z h0 b (.object "com/example/cairnstone/cairnstone/LogEntry$Delete$Scope") [(.ref e0), (.ref e1), (.ref e2), (.ref e3)]) (X_b : Exa Z h0 b "[Lcom/example/cairnstone/cairnstone/LogEntry$Delete$Scope;") (S0 : Sta Z Z.heap "com/example/cairnstone/cairnstone/LogEntry$Delete$Scope" "VERSION" "Lcom/example/cairnstone/cairnstone/LogEntry$Delete$Scope;" (.ref e0)) (S1 : Sta Z Z.heap "com/example/cairnstone/cairnstone/LogEntry$Delete$Scope" "COLUMN" "Lcom/example/cairnstone/cairnstone/LogEntry$Delete$Scope;" (.ref e1)) (S2 : Sta Z Z.heap "com/example/cairnstone/cairnstone/LogEntry$Delete$Scope" "FAMILY" "Lcom/example/cairnstone/cairnstone/LogEntry$Delete$Scope;" (.ref e2)) (S3 : Sta Z Z.heap "com/example/cairnstone/cairnstone/LogEntry$Delete$Scope" "ROW" "Lcom/example/cairnstone/cairnstone/LogEntry$Delete$Scope;" (.ref e3)) :
    Met l Z (⟨"com/example/cairnstone/cairnstone/ScopeOfPinLaw", "matches", "(J)Z"⟩ : MethodName) method_3_code 3 (some .boolean) [] ({ frames := 3, cells := 1, slots := 4, locals := 90 } : Room) #[(.long x1)] h0 n0 (RetI (fun z h => z = 1 ∧ Keep h0 h [])) := by
  refine Met.intro pn1 (own := "com/example/cairnstone/cairnstone/ScopeOfPinLaw") rfl (nm := "matches") rfl (fun m => ef1 m x1) ?_
  intro p e s m below meth c C
  by_cases q0 : x1 = 0
  · subst q0
    refine s_lloadN C d1_0 (pc' := 1) rfl rfl ?_
    refine s_callSA C d1_1 (pc' := 4) rfl (w4 hw) (w5 hw) (w6 hw) (w7 hw) (by decide) [(.long (0 : Int64))] [] pd2 rfl rfl (c_of l Z a0 hw (0 : Int64) b e0 e1 e2 e3 (.ref e0) h0 n0 Z0 O0 S_b V_b X_b rfl) rfl (W := 0) rfl (by decide) (by decide) (k' := 1) rfl (by decide) (n' := 4) rfl (by decide) (fun _ h1 q1 => ?_)
    obtain ⟨K1, rfl⟩ := q1
    have sz2 : n0 ≤ h1.size := (Nat.le_trans Z0 K1.1)
    have Kp3 : Keep h0 h1 [] := (Keep.refl h0 []).trans K1 all0
    have Od4 : Old Z n0 h1 := O0.keep K1 all0
    refine s_astoreN C d1_4 (pc' := 5) rfl rfl #[.val (.long (0 : Int64)), .second, .val (.ref e0)] rfl ?_
    refine s_lloadN C d1_5 (pc' := 6) rfl rfl ?_
    refine s_lconst C d1_6 (pc' := 7) rfl (0 : Int64) rfl ?_
    refine s_lc_ne C d1_7 (pc1 := 8) rfl d1_8 (pc' := 11) rfl (pcY := 24) rfl (fun hc => by exfalso; revert hc; decide) (fun c5 => ?_)
    refine s_aloadN C d1_11 (pc' := 12) rfl rfl rfl ?_
    refine s_getS C d1_12 (pc' := 15) rfl (w30 hw) (S0.ext Od4.2) ?_
    refine s_acmp C (same := true) (pc' := 18) d1_15 rfl rfl (decide_eq_true rfl) (by decide) (by decide) ?_
    refine s_iconst C d1_18 (pc' := 19) rfl (1 : Int32) rfl ?_
    refine s_goto C d1_19 (pc' := 23) rfl ?_
    exact s_retN C (by simp) d1_23 (by decide) (by decide) ⟨rfl, Kp3⟩
  · by_cases q1 : x1 = 1
    · subst q1
      refine s_lloadN C d1_0 (pc' := 1) rfl rfl ?_
      refine s_callSA C d1_1 (pc' := 4) rfl (w4 hw) (w5 hw) (w6 hw) (w7 hw) (by decide) [(.long (1 : Int64))] [] pd2 rfl rfl (c_of l Z a0 hw (1 : Int64) b e0 e1 e2 e3 (.ref e1) h0 n0 Z0 O0 S_b V_b X_b rfl) rfl (W := 0) rfl (by decide) (by decide) (k' := 1) rfl (by decide) (n' := 4) rfl (by decide) (fun _ h6 q6 => ?_)
      obtain ⟨K6, rfl⟩ := q6
      have sz7 : n0 ≤ h6.size := (Nat.le_trans Z0 K6.1)
      have Kp8 : Keep h0 h6 [] := (Keep.refl h0 []).trans K6 all0
      have Od9 : Old Z n0 h6 := O0.keep K6 all0
      refine s_astoreN C d1_4 (pc' := 5) rfl rfl #[.val (.long (1 : Int64)), .second, .val (.ref e1)] rfl ?_
      refine s_lloadN C d1_5 (pc' := 6) rfl rfl ?_
      refine s_lconst C d1_6 (pc' := 7) rfl (0 : Int64) rfl ?_
      refine s_lc_ne C d1_7 (pc1 := 8) rfl d1_8 (pc' := 11) rfl (pcY := 24) rfl (fun c10 => ?_) (fun hc => by exfalso; revert hc; decide)
      refine s_lloadN C d1_24 (pc' := 25) rfl rfl ?_
      refine s_lconst C d1_25 (pc' := 26) rfl (1 : Int64) rfl ?_
      refine s_lc_ne C d1_26 (pc1 := 27) rfl d1_27 (pc' := 30) rfl (pcY := 43) rfl (fun hc => by exfalso; revert hc; decide) (fun c11 => ?_)
      refine s_aloadN C d1_30 (pc' := 31) rfl rfl rfl ?_
      refine s_getS C d1_31 (pc' := 34) rfl (w32 hw) (S1.ext Od9.2) ?_
      refine s_acmp C (same := true) (pc' := 37) d1_34 rfl rfl (decide_eq_true rfl) (by decide) (by decide) ?_
      refine s_iconst C d1_37 (pc' := 38) rfl (1 : Int32) rfl ?_
      refine s_goto C d1_38 (pc' := 42) rfl ?_
      exact s_retN C (by simp) d1_42 (by decide) (by decide) ⟨rfl, Kp8⟩
    · by_cases q2 : x1 = 2
      · subst q2
        refine s_lloadN C d1_0 (pc' := 1) rfl rfl ?_
        refine s_callSA C d1_1 (pc' := 4) rfl (w4 hw) (w5 hw) (w6 hw) (w7 hw) (by decide) [(.long (2 : Int64))] [] pd2 rfl rfl (c_of l Z a0 hw (2 : Int64) b e0 e1 e2 e3 (.ref e2) h0 n0 Z0 O0 S_b V_b X_b rfl) rfl (W := 0) rfl (by decide) (by decide) (k' := 1) rfl (by decide) (n' := 4) rfl (by decide) (fun _ h12 q12 => ?_)
        obtain ⟨K12, rfl⟩ := q12
        have sz13 : n0 ≤ h12.size := (Nat.le_trans Z0 K12.1)
        have Kp14 : Keep h0 h12 [] := (Keep.refl h0 []).trans K12 all0
        have Od15 : Old Z n0 h12 := O0.keep K12 all0
        refine s_astoreN C d1_4 (pc' := 5) rfl rfl #[.val (.long (2 : Int64)), .second, .val (.ref e2)] rfl ?_
        refine s_lloadN C d1_5 (pc' := 6) rfl rfl ?_
        refine s_lconst C d1_6 (pc' := 7) rfl (0 : Int64) rfl ?_
        refine s_lc_ne C d1_7 (pc1 := 8) rfl d1_8 (pc' := 11) rfl (pcY := 24) rfl (fun c16 => ?_) (fun hc => by exfalso; revert hc; decide)
        refine s_lloadN C d1_24 (pc' := 25) rfl rfl ?_
        refine s_lconst C d1_25 (pc' := 26) rfl (1 : Int64) rfl ?_
        refine s_lc_ne C d1_26 (pc1 := 27) rfl d1_27 (pc' := 30) rfl (pcY := 43) rfl (fun c17 => ?_) (fun hc => by exfalso; revert hc; decide)
        refine s_lloadN C d1_43 (pc' := 44) rfl rfl ?_
        refine s_ldc2 C d1_44 (pc' := 47) rfl (w27 hw) ?_
        refine s_lc_ne C d1_47 (pc1 := 48) rfl d1_48 (pc' := 51) rfl (pcY := 64) rfl (fun hc => by exfalso; revert hc; decide) (fun c18 => ?_)
        refine s_aloadN C d1_51 (pc' := 52) rfl rfl rfl ?_
        refine s_getS C d1_52 (pc' := 55) rfl (w31 hw) (S2.ext Od15.2) ?_
        refine s_acmp C (same := true) (pc' := 58) d1_55 rfl rfl (decide_eq_true rfl) (by decide) (by decide) ?_
        refine s_iconst C d1_58 (pc' := 59) rfl (1 : Int32) rfl ?_
        refine s_goto C d1_59 (pc' := 63) rfl ?_
        exact s_retN C (by simp) d1_63 (by decide) (by decide) ⟨rfl, Kp14⟩
      · by_cases q3 : x1 = 3
        · subst q3
          refine s_lloadN C d1_0 (pc' := 1) rfl rfl ?_
          refine s_callSA C d1_1 (pc' := 4) rfl (w4 hw) (w5 hw) (w6 hw) (w7 hw) (by decide) [(.long (3 : Int64))] [] pd2 rfl rfl (c_of l Z a0 hw (3 : Int64) b e0 e1 e2 e3 (.ref e3) h0 n0 Z0 O0 S_b V_b X_b rfl) rfl (W := 0) rfl (by decide) (by decide) (k' := 1) rfl (by decide) (n' := 4) rfl (by decide) (fun _ h19 q19 => ?_)
          obtain ⟨K19, rfl⟩ := q19
          have sz20 : n0 ≤ h19.size := (Nat.le_trans Z0 K19.1)
          have Kp21 : Keep h0 h19 [] := (Keep.refl h0 []).trans K19 all0
          have Od22 : Old Z n0 h19 := O0.keep K19 all0
          refine s_astoreN C d1_4 (pc' := 5) rfl rfl #[.val (.long (3 : Int64)), .second, .val (.ref e3)] rfl ?_
          refine s_lloadN C d1_5 (pc' := 6) rfl rfl ?_
          refine s_lconst C d1_6 (pc' := 7) rfl (0 : Int64) rfl ?_
          refine s_lc_ne C d1_7 (pc1 := 8) rfl d1_8 (pc' := 11) rfl (pcY := 24) rfl (fun c23 => ?_) (fun hc => by exfalso; revert hc; decide)
          refine s_lloadN C d1_24 (pc' := 25) rfl rfl ?_
          refine s_lconst C d1_25 (pc' := 26) rfl (1 : Int64) rfl ?_
          refine s_lc_ne C d1_26 (pc1 := 27) rfl d1_27 (pc' := 30) rfl (pcY := 43) rfl (fun c24 => ?_) (fun hc => by exfalso; revert hc; decide)
          refine s_lloadN C d1_43 (pc' := 44) rfl rfl ?_
          refine s_ldc2 C d1_44 (pc' := 47) rfl (w27 hw) ?_
          refine s_lc_ne C d1_47 (pc1 := 48) rfl d1_48 (pc' := 51) rfl (pcY := 64) rfl (fun c25 => ?_) (fun hc => by exfalso; revert hc; decide)
          refine s_lloadN C d1_64 (pc' := 65) rfl rfl ?_
          refine s_ldc2 C d1_65 (pc' := 68) rfl (w28 hw) ?_
          refine s_lc_ne C d1_68 (pc1 := 69) rfl d1_69 (pc' := 72) rfl (pcY := 85) rfl (fun hc => by exfalso; revert hc; decide) (fun c26 => ?_)
          refine s_aloadN C d1_72 (pc' := 73) rfl rfl rfl ?_
          refine s_getS C d1_73 (pc' := 76) rfl (w29 hw) (S3.ext Od22.2) ?_
          refine s_acmp C (same := true) (pc' := 79) d1_76 rfl rfl (decide_eq_true rfl) (by decide) (by decide) ?_
          refine s_iconst C d1_79 (pc' := 80) rfl (1 : Int32) rfl ?_
          refine s_goto C d1_80 (pc' := 84) rfl ?_
          exact s_retN C (by simp) d1_84 (by decide) (by decide) ⟨rfl, Kp21⟩
        · skip
          refine s_lloadN C d1_0 (pc' := 1) rfl rfl ?_
          refine s_callSA C d1_1 (pc' := 4) rfl (w4 hw) (w5 hw) (w6 hw) (w7 hw) (by decide) [(.long x1)] [] pd2 rfl rfl (c_of l Z a0 hw x1 b e0 e1 e2 e3 .null h0 n0 Z0 O0 S_b V_b X_b (own_none q0 q1 q2 q3)) rfl (W := 0) rfl (by decide) (by decide) (k' := 1) rfl (by decide) (n' := 4) rfl (by decide) (fun _ h27 q27 => ?_)
          obtain ⟨K27, rfl⟩ := q27
          have sz28 : n0 ≤ h27.size := (Nat.le_trans Z0 K27.1)
          have Kp29 : Keep h0 h27 [] := (Keep.refl h0 []).trans K27 all0
          have Od30 : Old Z n0 h27 := O0.keep K27 all0
          refine s_astoreN C d1_4 (pc' := 5) rfl rfl #[.val (.long x1), .second, .val .null] rfl ?_
          refine s_lloadN C d1_5 (pc' := 6) rfl rfl ?_
          refine s_lconst C d1_6 (pc' := 7) rfl (0 : Int64) rfl ?_
          refine s_lc_ne C d1_7 (pc1 := 8) rfl d1_8 (pc' := 11) rfl (pcY := 24) rfl (fun c31 => ?_) (fun hc => by exfalso; exact q0 hc)
          refine s_lloadN C d1_24 (pc' := 25) rfl rfl ?_
          refine s_lconst C d1_25 (pc' := 26) rfl (1 : Int64) rfl ?_
          refine s_lc_ne C d1_26 (pc1 := 27) rfl d1_27 (pc' := 30) rfl (pcY := 43) rfl (fun c32 => ?_) (fun hc => by exfalso; exact q1 hc)
          refine s_lloadN C d1_43 (pc' := 44) rfl rfl ?_
          refine s_ldc2 C d1_44 (pc' := 47) rfl (w27 hw) ?_
          refine s_lc_ne C d1_47 (pc1 := 48) rfl d1_48 (pc' := 51) rfl (pcY := 64) rfl (fun c33 => ?_) (fun hc => by exfalso; exact q2 hc)
          refine s_lloadN C d1_64 (pc' := 65) rfl rfl ?_
          refine s_ldc2 C d1_65 (pc' := 68) rfl (w28 hw) ?_
          refine s_lc_ne C d1_68 (pc1 := 69) rfl d1_69 (pc' := 72) rfl (pcY := 85) rfl (fun c34 => ?_) (fun hc => by exfalso; exact q3 hc)
          refine s_aloadN C d1_85 (pc' := 86) rfl rfl rfl ?_
          refine s_ifnonnullN C d1_86 (pc' := 89) rfl ?_
          refine s_iconst C d1_89 (pc' := 90) rfl (1 : Int32) rfl ?_
          refine s_goto C d1_90 (pc' := 94) rfl ?_
          exact s_retN C (by simp) d1_94 (by decide) (by decide) ⟨rfl, Kp29⟩

theorem st_ref {args : Array Value} {s : State} {C f d : String} {ty : FieldType} (g : (Jvm.Cond.arrayOf (Jvm.Term.static C f d) ty).value args s none s [] = some true) (hi : (Jvm.Cond.initializedFor C f d).before args s = true ∨ ((Jvm.Cond.initialized C).before args s = true ∧ (Jvm.Cond.laysStatic C f d).before args s = true)) : ∃ b cl, Sta s s.heap C f d (.ref b) ∧ Arr s s.heap b cl ty ∧ ∀ idx, (Jvm.Term.static C f d).eval args s none idx s = some (.ref b) := by
  obtain ⟨b, eb⟩ := arr_v g
  obtain ⟨cl, A⟩ := Arr.start eb g
  exact ⟨b, cl, Sta.start eb hi, A, fun idx => by simpa [Jvm.Term.eval] using eb⟩
theorem st_len {args : Array Value} {s : State} {t : Term} {ty : FieldType} {b : Addr} {cl : Cell} {n : Int32} (A : Arr s s.heap b cl ty) (eb : ∀ idx, t.eval args s none idx s = some (.ref b)) (g : (Jvm.Cond.eq (Jvm.Term.length t) (Jvm.Term.int n)).value args s none s [] = some true) : cl.slots.size < 2 ^ 31 ∧ cl.slots.size.toInt32 = n := by
  have e := eqv_i (Term.int_eval n) g
  obtain ⟨b', c', h1, h2, h3, h4⟩ := Jvm.Lib.length_spec e
  obtain rfl : b = b' := Value.ref.inj (Option.some.inj ((eb []).symm.trans h1))
  obtain rfl : cl = c' := Option.some.inj ((A.fin (Vm.Alike.refl _)).symm.trans h2)
  exact ⟨h3, (Value.int.inj h4).symm⟩
theorem st_size {cl : Cell} {n : Int32} (h : cl.slots.size < 2 ^ 31 ∧ cl.slots.size.toInt32 = n) : cl.slots.size = n.toNatClampNeg := by rw [← h.2]; exact (len32 h.1).1.symm
theorem st_el {args : Array Value} {s : State} {t : Term} {ty : FieldType} {b : Addr} {cl : Cell} {j v : Int32} (A : Arr s s.heap b cl ty) (eb : ∀ idx, t.eval args s none idx s = some (.ref b)) (hj : ¬ j < 0) (g : (Jvm.Cond.eq (Jvm.Term.elem t (Jvm.Term.int j)) (Jvm.Term.int v)).value args s none s [] = some true) : cl.slots[j.toNatClampNeg]? = some (.int v) := by
  have e := eqv_i (Term.int_eval v) g
  rw [elem_f (eb []) (Term.int_eval j) (A.fin (Vm.Alike.refl _)) hj] at e
  exact e
theorem st_elL {args : Array Value} {s : State} {t : Term} {ty : FieldType} {b : Addr} {cl : Cell} {j : Int32} {v : Int64} (A : Arr s s.heap b cl ty) (eb : ∀ idx, t.eval args s none idx s = some (.ref b)) (hj : ¬ j < 0) (g : (Jvm.Cond.eq (Jvm.Term.elem t (Jvm.Term.int j)) (Jvm.Term.long v)).value args s none s [] = some true) : cl.slots[j.toNatClampNeg]? = some (.long v) := by
  have e := eqv_l (y := v) (by simp [Jvm.Term.eval]) g
  rw [elem_f (eb []) (Term.int_eval j) (A.fin (Vm.Alike.refl _)) hj] at e
  exact e
theorem st_elR {args : Array Value} {s : State} {t t2 : Term} {ty : FieldType} {b y : Addr} {cl : Cell} {j : Int32} (A : Arr s s.heap b cl ty) (eb : ∀ idx, t.eval args s none idx s = some (.ref b)) (hj : ¬ j < 0) (e2 : t2.eval args s none [] s = some (.ref y)) (g : (Jvm.Cond.eq (Jvm.Term.elem t (Jvm.Term.int j)) t2).value args s none s [] = some true) : cl.slots[j.toNatClampNeg]? = some (.ref y) := by
  obtain ⟨x, y', h1, h2, -, k2⟩ := cmp_v (Or.inl g)
  obtain rfl : Value.ref y = y' := Option.some.inj (e2.symm.trans h2)
  have q := gotT (eq_R h1 h2 k2.2 rfl) g
  subst q
  rw [elem_f (eb []) (Term.int_eval j) (A.fin (Vm.Alike.refl _)) hj] at h1
  exact h1
theorem av_of {Z : State} {h : Heap} {b : Addr} {cl : Cell} {ty : FieldType} {vs : List Value} (A : Arr Z h b cl ty) (hs : cl.slots.size = vs.length) (hl : vs.length < 2 ^ 31) (he : ∀ i, i < vs.length → cl.slots[i]? = vs[i]?) (hf : ∀ v ∈ vs, fits ty v = true) : Av Z h b ty vs := by
  refine ⟨cl, A, ?_, hl, hf⟩
  apply Array.ext_getElem?
  intro i
  by_cases hi : i < vs.length
  · rw [he i hi]; simp
  · rw [Array.getElem?_eq_none (by omega), Array.getElem?_eq_none (by simpa using hi)]

theorem own_nar {args : Array Value} {s : State} (hw : Hw args s) (hn : narrow_1.value args s none s [] = some true) : ∃ b e0 e1 e2 e3, Sta s s.heap "com/example/cairnstone/cairnstone/LogEntry$Delete$Scope" "$VALUES" "[Lcom/example/cairnstone/cairnstone/LogEntry$Delete$Scope;" (.ref b) ∧ Av s s.heap b (.object "com/example/cairnstone/cairnstone/LogEntry$Delete$Scope") [(.ref e0), (.ref e1), (.ref e2), (.ref e3)] ∧ Exa s s.heap b "[Lcom/example/cairnstone/cairnstone/LogEntry$Delete$Scope;" ∧ Sta s s.heap "com/example/cairnstone/cairnstone/LogEntry$Delete$Scope" "VERSION" "Lcom/example/cairnstone/cairnstone/LogEntry$Delete$Scope;" (.ref e0) ∧ Sta s s.heap "com/example/cairnstone/cairnstone/LogEntry$Delete$Scope" "COLUMN" "Lcom/example/cairnstone/cairnstone/LogEntry$Delete$Scope;" (.ref e1) ∧ Sta s s.heap "com/example/cairnstone/cairnstone/LogEntry$Delete$Scope" "FAMILY" "Lcom/example/cairnstone/cairnstone/LogEntry$Delete$Scope;" (.ref e2) ∧ Sta s s.heap "com/example/cairnstone/cairnstone/LogEntry$Delete$Scope" "ROW" "Lcom/example/cairnstone/cairnstone/LogEntry$Delete$Scope;" (.ref e3) := by
  obtain ⟨n1, hn⟩ := and_e hn
  obtain ⟨n3, hn⟩ := and_e hn
  obtain ⟨n2, hn⟩ := and_e hn
  obtain ⟨a0, hn⟩ := and_e hn
  obtain ⟨b0, hn⟩ := and_e hn
  obtain ⟨a1, hn⟩ := and_e hn
  obtain ⟨b1, hn⟩ := and_e hn
  obtain ⟨a2, hn⟩ := and_e hn
  obtain ⟨b2, hn⟩ := and_e hn
  obtain ⟨a3, b3⟩ := and_e hn
  obtain ⟨b, cl, S, A, eb⟩ := st_ref n1 (Or.inr ⟨(w6 hw), (w12 hw)⟩)
  obtain ⟨e0, h0⟩ := exa_v a0
  obtain ⟨e1, h1⟩ := exa_v a1
  obtain ⟨e2, h2⟩ := exa_v a2
  obtain ⟨e3, h3⟩ := exa_v a3
  have hs := st_size (st_len A eb n2)
  refine ⟨b, e0, e1, e2, e3, S, av_of A hs (by simp) (fun i hi => ?_) (by simp [fits]), exa_at (eb []) n3, Sta.start h0 (Or.inr ⟨(w6 hw), (w20 hw)⟩), Sta.start h1 (Or.inr ⟨(w6 hw), (w21 hw)⟩), Sta.start h2 (Or.inr ⟨(w6 hw), (w22 hw)⟩), Sta.start h3 (Or.inr ⟨(w6 hw), (w23 hw)⟩)⟩
  match i, hi with
  | 0, _ => exact st_elR A eb (by decide) h0 b0
  | 1, _ => exact st_elR A eb (by decide) h1 b1
  | 2, _ => exact st_elR A eb (by decide) h2 b2
  | 3, _ => exact st_elR A eb (by decide) h3 b3
  | n + 4, h => exact absurd h (by simp)

set_option maxRecDepth 65536 in
set_option maxHeartbeats 40000000 in
theorem law (l : Launch) (Z : State) (a0 : Array Value) (hw : Hw a0 Z) (x1 : Int64) (x2 : Int32) (b e0 e1 e2 e3 : Addr) (h0 : Heap) (n0 : Nat) (Z0 : n0 ≤ h0.size) (O0 : Old Z n0 h0) (S_b : Sta Z Z.heap "com/example/cairnstone/cairnstone/LogEntry$Delete$Scope" "$VALUES" "[Lcom/example/cairnstone/cairnstone/LogEntry$Delete$Scope;" (.ref b)) (V_b : Av Z h0 b (.object "com/example/cairnstone/cairnstone/LogEntry$Delete$Scope") [(.ref e0), (.ref e1), (.ref e2), (.ref e3)]) (X_b : Exa Z h0 b "[Lcom/example/cairnstone/cairnstone/LogEntry$Delete$Scope;") (S0 : Sta Z Z.heap "com/example/cairnstone/cairnstone/LogEntry$Delete$Scope" "VERSION" "Lcom/example/cairnstone/cairnstone/LogEntry$Delete$Scope;" (.ref e0)) (S1 : Sta Z Z.heap "com/example/cairnstone/cairnstone/LogEntry$Delete$Scope" "COLUMN" "Lcom/example/cairnstone/cairnstone/LogEntry$Delete$Scope;" (.ref e1)) (S2 : Sta Z Z.heap "com/example/cairnstone/cairnstone/LogEntry$Delete$Scope" "FAMILY" "Lcom/example/cairnstone/cairnstone/LogEntry$Delete$Scope;" (.ref e2)) (S3 : Sta Z Z.heap "com/example/cairnstone/cairnstone/LogEntry$Delete$Scope" "ROW" "Lcom/example/cairnstone/cairnstone/LogEntry$Delete$Scope;" (.ref e3)) :
    Met l Z x code maxLocals ret tables_1 room_1 #[(.long x1), (.int x2)] h0 n0 (RetI (fun z h => z = 1)) := by
  refine Met.intro pn0 (own := "com/example/cairnstone/cairnstone/ScopeOfPinLaw") rfl (nm := "law") rfl (fun m => ef0 m x1 x2) ?_
  intro p e s m below meth c C
  refine s_iloadN C at_0 (pc' := 1) rfl rfl ?_
  refine s_bipush C at_1 (pc' := 3) rfl (7 : Int32) rfl ?_
  refine s_iand C at_3 (pc' := 4) rfl ?_
  refine s_iconst C at_4 (pc' := 5) rfl (2 : Int32) rfl ?_
  refine s_isub C at_5 (pc' := 6) rfl ?_
  refine s_i2l C at_6 (pc' := 7) rfl ?_
  refine s_lstoreNP C at_7 (pc' := 8) rfl #[.val (.long x1), .second, .val (.int x2), .val (.long ((x2 &&& (7 : Int32)) - (2 : Int32)).toInt64), .second, .unset, .unset] rfl ?_
  refine s_iloadN C at_8 (pc' := 9) rfl rfl ?_
  refine s_i2l C at_9 (pc' := 10) rfl ?_
  refine s_bipush C at_10 (pc' := 12) rfl (32 : Int32) rfl ?_
  refine s_lshl C at_12 (pc' := 13) rfl ?_
  refine s_iloadN C at_13 (pc' := 14) rfl rfl ?_
  refine s_iconst C at_14 (pc' := 15) rfl (3 : Int32) rfl ?_
  refine s_iand C at_15 (pc' := 16) rfl ?_
  refine s_i2l C at_16 (pc' := 17) rfl ?_
  refine s_ladd C at_17 (pc' := 18) rfl ?_
  refine s_lstoreP C at_18 (pc' := 20) rfl #[.val (.long x1), .second, .val (.int x2), .val (.long ((x2 &&& (7 : Int32)) - (2 : Int32)).toInt64), .second, .val (.long ((x2.toInt64 <<< ((32 : Int32) &&& 0x3f).toInt64) + (x2 &&& (3 : Int32)).toInt64)), .second] rfl ?_
  refine s_lloadN C at_20 (pc' := 21) rfl rfl ?_
  refine s_callSI C at_21 (pc' := 24) rfl (w0 hw) (w1 hw) (w2 hw) (w3 hw) (by decide) [(.long x1)] [] pd3 rfl rfl (c_mat l Z a0 hw x1 b e0 e1 e2 e3 h0 n0 Z0 O0 S_b V_b X_b S0 S1 S2 S3) rfl (W := 0) rfl (by decide) (by decide) (k' := 1) rfl (by decide) (n' := 4) rfl (by decide) (fun _ h1 q1 => ?_)
  obtain ⟨rfl, K1⟩ := q1
  have sz2 : n0 ≤ h1.size := (Nat.le_trans Z0 K1.1)
  have Od3 : Old Z n0 h1 := O0.keep K1 all0
  refine s_if_eq C at_24 (pc' := 27) rfl (pcY := 46) rfl (fun hc => by exfalso; revert hc; decide) (fun c4 => ?_)
  refine s_lloadN C at_27 (pc' := 28) rfl rfl ?_
  have Vx6 := (V_b.keep K1 nin0)
  have Ex7 := (X_b.keep K1)
  refine s_callSI C at_28 (pc' := 31) rfl (w0 hw) (w1 hw) (w2 hw) (w3 hw) (by decide) [(.long ((x2 &&& (7 : Int32)) - (2 : Int32)).toInt64)] [] pd3 rfl rfl (c_mat l Z a0 hw ((x2 &&& (7 : Int32)) - (2 : Int32)).toInt64 b e0 e1 e2 e3 h1 n0 sz2 Od3 S_b Vx6 Ex7 S0 S1 S2 S3) rfl (W := 0) rfl (by decide) (by decide) (k' := 2) rfl (by decide) (n' := 8) rfl (by decide) (fun _ h5 q5 => ?_)
  obtain ⟨rfl, K5⟩ := q5
  have sz8 : n0 ≤ h5.size := (Nat.le_trans sz2 K5.1)
  have Od9 : Old Z n0 h5 := Od3.keep K5 all0
  refine s_if_eq C at_31 (pc' := 34) rfl (pcY := 46) rfl (fun hc => by exfalso; revert hc; decide) (fun c10 => ?_)
  refine s_lload C at_34 (pc' := 36) rfl rfl ?_
  have Vx12 := (Vx6.keep K5 nin0)
  have Ex13 := (Ex7.keep K5)
  refine s_callSI C at_36 (pc' := 39) rfl (w0 hw) (w1 hw) (w2 hw) (w3 hw) (by decide) [(.long ((x2.toInt64 <<< ((32 : Int32) &&& 0x3f).toInt64) + (x2 &&& (3 : Int32)).toInt64))] [] pd3 rfl rfl (c_mat l Z a0 hw ((x2.toInt64 <<< ((32 : Int32) &&& 0x3f).toInt64) + (x2 &&& (3 : Int32)).toInt64) b e0 e1 e2 e3 h5 n0 sz8 Od9 S_b Vx12 Ex13 S0 S1 S2 S3) rfl (W := 0) rfl (by decide) (by decide) (k' := 3) rfl (by decide) (n' := 12) rfl (by decide) (fun _ h11 q11 => ?_)
  obtain ⟨rfl, K11⟩ := q11
  have sz14 : n0 ≤ h11.size := (Nat.le_trans sz8 K11.1)
  have Od15 : Old Z n0 h11 := Od9.keep K11 all0
  refine s_if_eq C at_39 (pc' := 42) rfl (pcY := 46) rfl (fun hc => by exfalso; revert hc; decide) (fun c16 => ?_)
  refine s_iconst C at_42 (pc' := 43) rfl (1 : Int32) rfl ?_
  refine s_goto C at_43 (pc' := 47) rfl ?_
  exact s_retN C (by simp) at_47 (by decide) (by decide) rfl
end Own
end Jvm.Pilot.@@N@@
namespace Jvm.Pilot.@@N@@
open Jvm Jvm.ClassFile Sem Op Lib Jvm.Free Jvm.Stand Jvm.LawKit Jvm.RoadKit Bundle Own Jvm.Pilot.@@N@@.Jvm.D
set_option maxRecDepth 65536 in
set_option maxHeartbeats 40000000 in
theorem comes_1 {Post : Tables → Env → Array Value → State → Outcome → State → Prop} (hpost : ∀ tb e args s v u, (limb_1_1.after args s (.returned v) u = true ∧ limb_1_2.after args s (.returned v) u = true ∧ True) → FrameEnd s (.returned v) u (Jvm.fieldLocs frame_1_writes args s ++ Jvm.arrayLocs frame_1_arrays args s ++ Jvm.staticLocs frame_1_statics s) 16 128 → Post tb e args s (.returned v) u) :
    ArmFor flags0 classFile x code maxLocals ret World_1 tables_1 room_1 Calls_1 rest_1 Pre_1 Post := by
  intro l hfl _ _ p e ha hc hk s m args below hf hA hF happ hP
  obtain ⟨hcalls, hrest, hpre⟩ := hP
  obtain ⟨-, -, -, hnamed, -, -, -, hat⟩ := (Spec.applies_iff hf).mp happ
  obtain ⟨hg, hn⟩ := and_e (Cond.before_iff.mp (show (Jvm.Cond.and given_1 narrow_1).before args s = true from hpre))
  obtain ⟨g1, g2⟩ := and_e hg
  obtain ⟨g3, g4⟩ := and_e g2
  obtain ⟨w0, w1, rfl⟩ : ∃ w0 w1 : Value, args = #[w0, w1] := by
    have hs : args.size = 2 := by simpa [Cond.value, given_1] using g1
    obtain ⟨L⟩ := args
    match L, hs with
    | [w0, w1], _ => exact ⟨w0, w1, rfl⟩
  have hw := fun d (hd : d ∈ tables_1) => atoms_spec (ws := Jvm.Cond.code x code maxLocals ret :: tables_1) hat d (List.mem_cons_of_mem _ hd)
  have hfit : Fit s := fun {y c} hc i hi => by
    obtain ⟨ha, rfl⟩ := Array.getElem?_eq_some_iff.mp hc
    have q := List.all_eq_true.mp ((Array.all_eq_true_iff_forall_mem.mp hF) _ (Array.getElem_mem ha)) i (List.mem_range.mpr hi)
    simpa [Array.getElem?_eq_getElem hi] using q
  obtain ⟨i0, ei0⟩ := isL_v g3
  obtain rfl : w0 = (.long i0) := Option.some.inj ei0
  obtain ⟨i1, ei1⟩ := is_v g4
  obtain rfl : w1 = (.int i1) := Option.some.inj ei1
  obtain ⟨b, e0, e1, e2, e3, T1, T2, T3, T4, T5, T6, T7⟩ := own_nar hw hn
  obtain ⟨n, o, h1, h2, h3, _, L, rfl, ⟨⟨_, rfl, rfl⟩, N⟩, hq⟩ := law l s _ hw i0 i1 b e0 e1 e2 e3 s.heap s.heap.size (Nat.le_refl _) (Old.start s) T1 T2 T3 T4 T5 T6 T7 p e ha hc hk s m _ below hf ((Spec.applies_iff_loose hf).mp happ).1 ⟨rfl, State.Warmed39.refl s, rfl⟩ trivial
  refine ⟨n, _, h1, h2, h3, hpost _ _ _ _ _ _ ⟨Cond.after_iff.mpr rfl, Cond.after_iff.mpr (eq_i res_at (Term.int_eval (1)) rfl), trivial⟩ ⟨hq.1, hq.2.1, (hq.2.2.sift fun y hy => Or.inr (N y hy)).mono (by decide) (by decide)⟩⟩
theorem main_1_1 : Claimed_1_1 := comes_1 fun _ _ _ _ _ _ h hF => ⟨h.1, hF⟩
theorem main_1_2 : Claimed_1_2 := comes_1 fun _ _ _ _ _ _ h hF => ⟨h.2.1, hF⟩
end Jvm.Pilot.@@N@@
namespace Jvm.Pilot.@@N@@
open Jvm Jvm.ClassFile Sem Op Lib Jvm.Free Jvm.Stand Jvm.Pilot.@@N@@.Jvm.D
/-! MADE BY PROGRAM (witnessworld.py) out of the Statement's table words and the real class files: 13 classes; the members and pool entries that the words name. The judged class is class 1, her method 1. -/
namespace start1
open Jvm.ClassFile
def u (s : String) : CpInfo := .utf8 (stringToUtf16 s)
/-- a pool by its gaps: so many unusable entries, then the entry; so many at the end -/
def gap : Nat → List CpInfo → List CpInfo
  | 0, r => r
  | n + 1, r => .unusable :: gap n r
def poolList (es : List (Nat × CpInfo)) (last : Nat) : List CpInfo := es.foldr (fun e r => gap e.1 (e.2 :: r)) (gap last [])
def pool (es : List (Nat × CpInfo)) (last : Nat) : Array CpInfo := ⟨poolList es last⟩
def fileOf (pool : Array CpInfo) (this : Nat) (attrs : Array Attribute := #[]) (ms : Array MethodInfo := #[]) (fl : Nat := 33) (sup : Nat := 0) (ifs : Array Nat := #[]) (fds : Array FieldInfo := #[]) : ClassFile where
  minorVersion := 0
  majorVersion := 65
  constantPool := pool
  accessFlags := fl
  thisClass := this
  superClass := sup
  interfaces := ifs
  fields := fds
  methods := ms
  attributes := attrs
def plain (name : String) (sup : Option ClassId) : Class where
  name := name
  kind := .ordinary
  loader := none
  accessFlags := 33
  super := sup
  interfaces := #[]
  cf := none
  fields := #[]
  methods := #[]
  instanceTypes := #[]
  staticTypes := #[]
  resolved := #[]
  callSites := []
  init := .initialized
  statics := none
  mirror := none

def pool0 : Array CpInfo := pool [(5, u "<init>"), (0, u "()V"), (1, .class_ 10), (1, u "java/lang/Object"), (85, u "clone"), (0, u "()Ljava/lang/Object;")] 26

def k0m0 : Method := { name := "<init>", desc := "()V", sig := { parameters := [], returnType := none }, accessFlags := 1, code := none }
def k0m1 : Method := { name := "clone", desc := "()Ljava/lang/Object;", sig := { parameters := [], returnType := some (.object "java/lang/Object") }, accessFlags := 260, code := none }
/-- java/lang/Object -/
def k0 : Class := { plain "java/lang/Object" none with
  accessFlags := 33
  interfaces := #[]
  cf := some (fileOf pool0 8 #[] #[{ accessFlags := 1, nameIndex := 5, descriptorIndex := 6, attributes := #[] }, { accessFlags := 260, nameIndex := 96, descriptorIndex := 97, attributes := #[] }] 33 0 #[] #[])
  fields := #[]
  methods := #[k0m0, k0m1]
  instanceTypes := #[]
  staticTypes := #[]
  resolved := Array.replicate 124 none
  statics := none }

def pool1 : Array CpInfo := pool [(2, .class_ 4), (1, u "java/lang/Object"), (0, u "<init>"), (0, u "()V"), (0, .methodref 8 9), (0, .class_ 10), (0, .nameAndType 11 12), (0, u "com/example/cairnstone/cairnstone/ScopeOfPinLaw"), (0, u "matches"), (0, u "(J)Z"), (0, .methodref 14 15), (0, .class_ 16), (0, .nameAndType 17 18), (0, u "com/example/cairnstone/cairnstone/LogEntry$Delete$Scope"), (0, u "of"), (0, u "(J)Lcom/example/cairnstone/cairnstone/LogEntry$Delete$Scope;"), (0, .fieldref 14 20), (0, .nameAndType 21 22), (0, u "VERSION"), (0, u "Lcom/example/cairnstone/cairnstone/LogEntry$Delete$Scope;"), (0, .fieldref 14 24), (0, .nameAndType 25 22), (0, u "COLUMN"), (0, .long 2), (1, .fieldref 14 29), (0, .nameAndType 30 22), (0, u "FAMILY"), (0, .long 3), (1, .fieldref 14 34), (0, .nameAndType 35 22), (0, u "ROW"), (2, u "law"), (0, u "(JI)Z")] 10

def k1m0 : Method := { name := "<init>", desc := "()V", sig := { parameters := [], returnType := none }, accessFlags := 2, code := none }
def k1c1 : Code := { maxStack := 4, maxLocals := 7, code := code, exceptionTable := #[], attributes := #[] }
def k1m1 : Method := { name := "law", desc := "(JI)Z", sig := { parameters := [.long, .int], returnType := some .boolean }, accessFlags := 9, code := some k1c1 }
def k1c2 : Code := { maxStack := 4, maxLocals := 3, code := method_3_code, exceptionTable := #[], attributes := #[] }
def k1m2 : Method := { name := "matches", desc := "(J)Z", sig := { parameters := [.long], returnType := some .boolean }, accessFlags := 10, code := some k1c2 }
/-- com/example/cairnstone/cairnstone/ScopeOfPinLaw -/
def k1 : Class := { plain "com/example/cairnstone/cairnstone/ScopeOfPinLaw" (some 0) with
  accessFlags := 49
  interfaces := #[]
  cf := some (fileOf pool1 8 #[] #[{ accessFlags := 2, nameIndex := 5, descriptorIndex := 6, attributes := #[] }, { accessFlags := 9, nameIndex := 38, descriptorIndex := 39, attributes := #[] }, { accessFlags := 10, nameIndex := 11, descriptorIndex := 12, attributes := #[] }] 49 2 #[] #[])
  fields := #[]
  methods := #[k1m0, k1m1, k1m2]
  instanceTypes := #[]
  staticTypes := #[]
  resolved := Array.replicate 50 none
  statics := none }

def pool2 : Array CpInfo := pool [(1, .class_ 2), (0, u "java/lang/constant/Constable"), (0, .class_ 4), (0, u "java/lang/Object")] 6

/-- java/lang/constant/Constable -/
def k2 : Class := { plain "java/lang/constant/Constable" (some 0) with
  accessFlags := 1537
  interfaces := #[]
  cf := some (fileOf pool2 1 #[] #[] 1537 3 #[] #[])
  fields := #[]
  methods := #[]
  instanceTypes := #[]
  staticTypes := #[]
  resolved := Array.replicate 11 none
  statics := none }

def pool3 : Array CpInfo := pool [(1, .class_ 2), (0, u "java/lang/Comparable"), (0, .class_ 4), (0, u "java/lang/Object")] 7

/-- java/lang/Comparable -/
def k3 : Class := { plain "java/lang/Comparable" (some 0) with
  accessFlags := 1537
  interfaces := #[]
  cf := some (fileOf pool3 1 #[] #[] 1537 3 #[] #[])
  fields := #[]
  methods := #[]
  instanceTypes := #[]
  staticTypes := #[]
  resolved := Array.replicate 12 none
  statics := none }

def pool4 : Array CpInfo := pool [(1, .class_ 2), (0, u "java/io/Serializable"), (0, .class_ 4), (0, u "java/lang/Object")] 2

/-- java/io/Serializable -/
def k4 : Class := { plain "java/io/Serializable" (some 0) with
  accessFlags := 1537
  interfaces := #[]
  cf := some (fileOf pool4 1 #[] #[] 1537 3 #[] #[])
  fields := #[]
  methods := #[]
  instanceTypes := #[]
  staticTypes := #[]
  resolved := Array.replicate 7 none
  statics := none }

def pool5 : Array CpInfo := pool [(2, .class_ 4), (1, u "java/lang/Enum"), (0, u "name"), (0, u "Ljava/lang/String;"), (2, u "ordinal"), (0, u "I"), (1, .class_ 14), (1, u "java/lang/Object"), (4, u "hash"), (86, .class_ 108), (1, u "java/lang/Enum$EnumDesc"), (2, .class_ 112), (0, u "java/lang/constant/Constable"), (0, .class_ 114), (0, u "java/lang/Comparable"), (0, .class_ 116), (0, u "java/io/Serializable")] 87

/-- java/lang/Enum -/
def k5 : Class := { plain "java/lang/Enum" (some 0) with
  accessFlags := 1057
  interfaces := #[2, 3, 4]
  cf := some (fileOf pool5 2 #[.nestMembers #[106]] #[] 1057 12 #[111, 113, 115] #[{ accessFlags := 18, nameIndex := 5, descriptorIndex := 6, attributes := #[] }, { accessFlags := 18, nameIndex := 9, descriptorIndex := 10, attributes := #[] }, { accessFlags := 2, nameIndex := 19, descriptorIndex := 10, attributes := #[] }])
  fields := #[{ name := "name", type := (.object "java/lang/String"), accessFlags := 18, slot := 0, constantValue := 0 }, { name := "ordinal", type := .int, accessFlags := 18, slot := 1, constantValue := 0 }, { name := "hash", type := .int, accessFlags := 2, slot := 2, constantValue := 0 }]
  methods := #[]
  instanceTypes := #[(.object "java/lang/String"), .int, .int]
  staticTypes := #[]
  resolved := Array.replicate 204 none
  statics := none }

def pool6 : Array CpInfo := pool [(1, .class_ 2), (0, u "com/example/cairnstone/cairnstone/LogEntry$Delete$Scope"), (2, u "VERSION"), (0, u "Lcom/example/cairnstone/cairnstone/LogEntry$Delete$Scope;"), (2, u "COLUMN"), (2, u "FAMILY"), (2, u "ROW"), (0, .fieldref 1 17), (0, .nameAndType 18 19), (0, u "$VALUES"), (0, u "[Lcom/example/cairnstone/cairnstone/LogEntry$Delete$Scope;"), (0, .methodref 21 22), (0, .class_ 19), (0, .nameAndType 23 24), (0, u "clone"), (0, u "()Ljava/lang/Object;"), (1, .class_ 28), (1, u "java/lang/Enum"), (8, u "kind"), (0, u "Lcom/example/cairnstone/cairnstone/Change$Kind;"), (0, .methodref 1 40), (0, .nameAndType 41 42), (0, u "values"), (0, u "()[Lcom/example/cairnstone/cairnstone/LogEntry$Delete$Scope;"), (27, u "of"), (0, u "(J)Lcom/example/cairnstone/cairnstone/LogEntry$Delete$Scope;"), (8, .class_ 81), (0, u "com/example/cairnstone/cairnstone/LogEntry")] 8

def k6c0 : Code := { maxStack := 1, maxLocals := 0, code := prog_18_method_1_code, exceptionTable := #[], attributes := #[] }
def k6m0 : Method := { name := "values", desc := "()[Lcom/example/cairnstone/cairnstone/LogEntry$Delete$Scope;", sig := { parameters := [], returnType := some (.array (.object "com/example/cairnstone/cairnstone/LogEntry$Delete$Scope")) }, accessFlags := 9, code := some k6c0 }
def k6c1 : Code := { maxStack := 4, maxLocals := 3, code := prog_18_method_4_code, exceptionTable := #[], attributes := #[] }
def k6m1 : Method := { name := "of", desc := "(J)Lcom/example/cairnstone/cairnstone/LogEntry$Delete$Scope;", sig := { parameters := [.long], returnType := some (.object "com/example/cairnstone/cairnstone/LogEntry$Delete$Scope") }, accessFlags := 8, code := some k6c1 }
/-- com/example/cairnstone/cairnstone/LogEntry$Delete$Scope -/
def k6 : Class := { plain "com/example/cairnstone/cairnstone/LogEntry$Delete$Scope" (some 5) with
  accessFlags := 16432
  interfaces := #[]
  cf := some (fileOf pool6 1 #[.nestHost 80] #[{ accessFlags := 9, nameIndex := 41, descriptorIndex := 42, attributes := #[] }, { accessFlags := 8, nameIndex := 70, descriptorIndex := 71, attributes := #[] }] 16432 26 #[] #[{ accessFlags := 16409, nameIndex := 5, descriptorIndex := 6, attributes := #[] }, { accessFlags := 16409, nameIndex := 9, descriptorIndex := 6, attributes := #[] }, { accessFlags := 16409, nameIndex := 12, descriptorIndex := 6, attributes := #[] }, { accessFlags := 16409, nameIndex := 15, descriptorIndex := 6, attributes := #[] }, { accessFlags := 18, nameIndex := 37, descriptorIndex := 38, attributes := #[] }, { accessFlags := 4122, nameIndex := 18, descriptorIndex := 19, attributes := #[] }])
  fields := #[{ name := "VERSION", type := (.object "com/example/cairnstone/cairnstone/LogEntry$Delete$Scope"), accessFlags := 16409, slot := 0, constantValue := 0 }, { name := "COLUMN", type := (.object "com/example/cairnstone/cairnstone/LogEntry$Delete$Scope"), accessFlags := 16409, slot := 1, constantValue := 0 }, { name := "FAMILY", type := (.object "com/example/cairnstone/cairnstone/LogEntry$Delete$Scope"), accessFlags := 16409, slot := 2, constantValue := 0 }, { name := "ROW", type := (.object "com/example/cairnstone/cairnstone/LogEntry$Delete$Scope"), accessFlags := 16409, slot := 3, constantValue := 0 }, { name := "kind", type := (.object "com/example/cairnstone/cairnstone/Change$Kind"), accessFlags := 18, slot := 3, constantValue := 0 }, { name := "$VALUES", type := (.array (.object "com/example/cairnstone/cairnstone/LogEntry$Delete$Scope")), accessFlags := 4122, slot := 4, constantValue := 0 }]
  methods := #[k6m0, k6m1]
  instanceTypes := #[(.object "java/lang/String"), .int, .int, (.object "com/example/cairnstone/cairnstone/Change$Kind")]
  staticTypes := #[(.object "com/example/cairnstone/cairnstone/LogEntry$Delete$Scope"), (.object "com/example/cairnstone/cairnstone/LogEntry$Delete$Scope"), (.object "com/example/cairnstone/cairnstone/LogEntry$Delete$Scope"), (.object "com/example/cairnstone/cairnstone/LogEntry$Delete$Scope"), (.array (.object "com/example/cairnstone/cairnstone/LogEntry$Delete$Scope"))]
  resolved := Array.replicate 90 none
  statics := some 0 }

def pool7 : Array CpInfo := pool [(1, .class_ 2), (0, u "java/lang/Cloneable"), (0, .class_ 4), (0, u "java/lang/Object")] 2

/-- java/lang/Cloneable -/
def k7 : Class := { plain "java/lang/Cloneable" (some 0) with
  accessFlags := 1537
  interfaces := #[]
  cf := some (fileOf pool7 1 #[] #[] 1537 3 #[] #[])
  fields := #[]
  methods := #[]
  instanceTypes := #[]
  staticTypes := #[]
  resolved := Array.replicate 7 none
  statics := none }

/-- the primitive byte -/
def k8 : Class := { plain "byte" none with kind := .primitive 'B', accessFlags := 0x411 }
/-- [B -/
def k9 : Class := { plain "[B" (some 0) with kind := .array 8 .byte, interfaces := #[7, 4], accessFlags := 1041 }

/-- the primitive int -/
def k10 : Class := { plain "int" none with kind := .primitive 'I', accessFlags := 0x411 }
/-- [I -/
def k11 : Class := { plain "[I" (some 0) with kind := .array 10 .int, interfaces := #[7, 4], accessFlags := 1041 }

/-- [Lcom/example/cairnstone/cairnstone/LogEntry$Delete$Scope; -/
def k12 : Class := { plain "[Lcom/example/cairnstone/cairnstone/LogEntry$Delete$Scope;" (some 0) with kind := .array 6 (.object "com/example/cairnstone/cairnstone/LogEntry$Delete$Scope"), interfaces := #[7, 4], accessFlags := 1041 }

def heap : Heap := #[{ cls := 6, slots := #[.ref 2, .ref 3, .ref 4, .ref 5, .ref 1], vm := .statics 6 },
  { cls := 12, slots := #[.ref 2, .ref 3, .ref 4, .ref 5], vm := .none },
  { cls := 6, slots := #[.null, .int 0, .int 0, .null], vm := .none },
  { cls := 6, slots := #[.null, .int 1, .int 0, .null], vm := .none },
  { cls := 6, slots := #[.null, .int 2, .int 0, .null], vm := .none },
  { cls := 6, slots := #[.null, .int 3, .int 0, .null], vm := .none }]
def classes : Array Class := #[k0, k1, k2, k3, k4, k5, k6, k7, k8, k9, k10, k11, k12]
def interned : List (Array UInt16 × Addr) := []
def slotsUsed : Nat := 25
def theMethod : MethodId := ⟨1, 1⟩
def args0 : Array Value := #[.long 3, .int 5]
def aboutOver (below : List Frame) : State where
  vm := { classes := classes, interned := interned.toArray }
  heap := heap
  slotsUsed := slotsUsed
  threads := #[{ frames := .invoking theMethod args0 :: below }]
def below0 : List Frame := [.native { method := ⟨0, 0⟩, args := #[] }]
def about1 : State := aboutOver below0
def p0 : Program := .bare "" "" ""
def e0 : Env := launch0.env 0 0 0
theorem w_frames : about1.frames = Frame.invoking theMethod args0 :: below0 := rfl
set_option maxRecDepth 65536 in
theorem w_args : argsFit about1.vm theMethod args0 = true := by decide +kernel
set_option maxRecDepth 65536 in
theorem w_heap : heapFits about1 = true := by decide +kernel
set_option maxRecDepth 65536 in
theorem w_runnable : about1.curStatus? = some .runnable := by decide +kernel
set_option maxRecDepth 65536 in
theorem w_alone : about1.alone = true := by decide +kernel
set_option maxRecDepth 65536 in
theorem w_named : about1.methodNamed? x = some theMethod := by decide +kernel
set_option maxRecDepth 65536 in
theorem w_hears : about1.hears theMethod below0 = true := by decide +kernel
set_option maxRecDepth 65536 in
theorem w_ripe : about1.ripe theMethod args0 below0 = true := by decide +kernel
theorem w_running : about1.status = .running := rfl
set_option maxRecDepth 65536 in
theorem w_room : about1.hasRoom e0.platform room_1 = true :=
  launch0.hasRoom_least _ room_1 (by decide +kernel) (by decide +kernel) (by decide +kernel) (by decide +kernel) (by decide +kernel) (by decide +kernel)
theorem allAtoms_all (ts : List Jvm.Cond) (a : Array Jvm.Value) (st : Jvm.State) : (allAtoms ts).before a st = ts.all (fun c => c.before a st) := by
  induction ts with
  | nil => rfl
  | cons c t ih =>
    show (Jvm.Cond.and c (allAtoms t)).before a st = _
    rw [Jvm.Cond.before_and, ih, List.all_cons]
def words1 : List Jvm.Cond := Jvm.Cond.code x code maxLocals ret :: tables_1
/-- a 'code' word, met by the world's own term for the bytes: nothing is compared byte by byte -/
theorem code_word {y : MethodName} {bytes : ByteArray} {mx : Nat} {rt : Option FieldType} {a : Array Value} {s : State} {m : MethodId} {meth : Method} {c : Code} (h1 : s.methodNamed? y = some m) (h2 : s.vm.method? m = some meth) (h3 : meth.code = some c) (h4 : c.code = bytes)
    (h5 : (c.maxLocals == mx && c.exceptionTable.isEmpty && decide (c.maxStack ≤ mostOperands) && decide (meth.sig.returnType = rt) && !meth.locks && decide (parseMethodDescriptor y.desc = some meth.sig)) = true) : (Jvm.Cond.code y bytes mx rt).before a s = true := by
  simp only [Bool.and_eq_true, beq_iff_eq, Bool.not_eq_true', decide_eq_true_eq] at h5
  obtain ⟨⟨⟨⟨⟨g1, g2⟩, g3⟩, g4⟩, g5⟩, g6⟩ := h5
  simp [Cond.before, Cond.holds, Cond.value, h1, h2, h3, h4, g1, g2, g3, g4, g5, g6]
def isCode : Jvm.Cond → Bool
  | .code _ _ _ _ => true
  | _ => false
theorem all_split {L : List Jvm.Cond} {P : Jvm.Cond → Bool} (h1 : L.all (fun c => isCode c || P c) = true) (h2 : ∀ c ∈ L.filter isCode, P c = true) : L.all P = true := by
  refine List.all_eq_true.mpr fun c hc => ?_
  have h := List.all_eq_true.mp h1 c hc
  rcases Bool.eq_false_or_eq_true (isCode c) with hi | hi
  · exact h2 c (List.mem_filter.mpr ⟨hc, hi⟩)
  · simpa [hi] using h
set_option maxRecDepth 65536 in
theorem w_c0 : (Jvm.Cond.code x code maxLocals ret).before args0 about1 = true := code_word (m := ⟨1, 1⟩) (meth := k1m1) (c := k1c1) (by decide +kernel) rfl rfl rfl (by decide +kernel)
set_option maxRecDepth 65536 in
theorem w_c1 : (Jvm.Cond.code ({ cls := "com/example/cairnstone/cairnstone/ScopeOfPinLaw", name := "matches", desc := "(J)Z" } : Jvm.MethodName) method_3_code (3 : Nat) (Option.some Jvm.ClassFile.FieldType.boolean)).before args0 about1 = true := code_word (m := ⟨1, 2⟩) (meth := k1m2) (c := k1c2) (by decide +kernel) rfl rfl rfl (by decide +kernel)
set_option maxRecDepth 65536 in
theorem w_c2 : (Jvm.Cond.code ({ cls := "com/example/cairnstone/cairnstone/LogEntry$Delete$Scope", name := "of", desc := "(J)Lcom/example/cairnstone/cairnstone/LogEntry$Delete$Scope;" } : Jvm.MethodName) prog_18_method_4_code (3 : Nat) (Option.some (Jvm.ClassFile.FieldType.object "com/example/cairnstone/cairnstone/LogEntry$Delete$Scope"))).before args0 about1 = true := code_word (m := ⟨6, 1⟩) (meth := k6m1) (c := k6c1) (by decide +kernel) rfl rfl rfl (by decide +kernel)
set_option maxRecDepth 65536 in
theorem w_c3 : (Jvm.Cond.code ({ cls := "com/example/cairnstone/cairnstone/LogEntry$Delete$Scope", name := "values", desc := "()[Lcom/example/cairnstone/cairnstone/LogEntry$Delete$Scope;" } : Jvm.MethodName) prog_18_method_1_code (0 : Nat) (Option.some (Jvm.ClassFile.FieldType.array (Jvm.ClassFile.FieldType.object "com/example/cairnstone/cairnstone/LogEntry$Delete$Scope")))).before args0 about1 = true := code_word (m := ⟨6, 0⟩) (meth := k6m0) (c := k6c0) (by decide +kernel) rfl rfl rfl (by decide +kernel)
def codes1 : List Jvm.Cond := [Jvm.Cond.code x code maxLocals ret, Jvm.Cond.code ({ cls := "com/example/cairnstone/cairnstone/ScopeOfPinLaw", name := "matches", desc := "(J)Z" } : Jvm.MethodName) method_3_code (3 : Nat) (Option.some Jvm.ClassFile.FieldType.boolean), Jvm.Cond.code ({ cls := "com/example/cairnstone/cairnstone/LogEntry$Delete$Scope", name := "of", desc := "(J)Lcom/example/cairnstone/cairnstone/LogEntry$Delete$Scope;" } : Jvm.MethodName) prog_18_method_4_code (3 : Nat) (Option.some (Jvm.ClassFile.FieldType.object "com/example/cairnstone/cairnstone/LogEntry$Delete$Scope")), Jvm.Cond.code ({ cls := "com/example/cairnstone/cairnstone/LogEntry$Delete$Scope", name := "values", desc := "()[Lcom/example/cairnstone/cairnstone/LogEntry$Delete$Scope;" } : Jvm.MethodName) prog_18_method_1_code (0 : Nat) (Option.some (Jvm.ClassFile.FieldType.array (Jvm.ClassFile.FieldType.object "com/example/cairnstone/cairnstone/LogEntry$Delete$Scope")))]
set_option maxRecDepth 65536 in
theorem codes_eq : words1.filter isCode = codes1 := rfl
theorem w_codes : ∀ c ∈ words1.filter isCode, c.before args0 about1 = true := by
  rw [codes_eq]
  intro c hc
  simp only [codes1, List.mem_cons, List.not_mem_nil, or_false] at hc
  rcases hc with rfl | rfl | rfl | rfl
  · exact w_c0
  · exact w_c1
  · exact w_c2
  · exact w_c3
set_option maxRecDepth 65536 in
theorem w_t1 : (words1.take 24).all (fun c => isCode c || c.before args0 about1) = true := by decide +kernel
set_option maxRecDepth 65536 in
theorem w_t2 : (words1.drop 24).all (fun c => isCode c || c.before args0 about1) = true := by decide +kernel
theorem w_tables : (allAtoms (Jvm.Cond.code x code maxLocals ret :: tables_1)).before args0 about1 = true := by
  rw [allAtoms_all]
  show words1.all (fun c => c.before args0 about1) = true
  refine all_split ?_ w_codes
  rw [← List.take_append_drop 24 words1, List.all_append, w_t1, w_t2]
  rfl
set_option maxRecDepth 65536 in
theorem w_case : (Jvm.Cond.and given_1 narrow_1).before args0 about1 = true := by decide +kernel
theorem w_applies : (headSpec (Jvm.Cond.code x code maxLocals ret :: tables_1) room_1).applies x e0.platform about1 = true :=
  (Spec.applies_iff w_frames).mpr ⟨w_running, w_runnable, w_alone, w_named, w_hears, w_ripe, w_room, w_tables⟩
theorem atStart : AtStart classFile x code maxLocals ret World_1 tables_1 room_1 Calls_1 rest_1 Pre_1 launch0 p0 e0 about1 theMethod args0 below0 :=
  ⟨lists_1, trivial, launch0.admits_env _ _ _, launch0.least_env, fairChoices_fair.cas, fairChoices_fair.clock, w_frames, w_args, w_heap, w_applies, trivial, trivial, w_case⟩
end start1
theorem witness_1 : WitnessClaimed_1 := ⟨start1.p0, start1.e0, start1.about1, start1.theMethod, start1.args0, start1.below0, start1.atStart⟩
end Jvm.Pilot.@@N@@
