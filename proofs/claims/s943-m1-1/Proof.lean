import JvmDerived
import JvmDerived.Pilot.@@N@@Statement
import JvmDerived.Pilot.@@N@@Code
set_option linter.unusedVariables false
set_option linter.unusedSimpArgs false
namespace Jvm.Pilot.@@N@@
namespace Own
open Jvm Jvm.ClassFile Sem Op Lib Jvm.Free Jvm.Stand Jvm.LawKit Jvm.RoadKit Bundle
/-- what a body's walk knows of its method -/
def Ctx (p : Program) (l : Launch) (e : Env) (R : Room) (s : State) (m : MethodId) (args : Array Value) (below : List Frame) (meth : Method) (c : Code) (Z : State) (own : String) (cd : ByteArray) (maxL : Nat) (ret : Option FieldType) (nm : String) : Prop :=
  p.tables.exec = Jvm.exec ∧ Z.Warmed39 s.vm ∧ c.code = cd ∧ c.maxLocals = maxL ∧ s.vm.findClass own = some m.cls ∧ meth.sig.returnType = ret ∧ meth.locks = false ∧ meth.name = nm
/-- from every state that stands at pc with these locals and this stack over the heap h the method returns, and P holds -/
def Run (p : Program) (l : Launch) (e : Env) (R : Room) (s : State) (m : MethodId) (args : Array Value) (below : List Frame) (meth : Method) (c : Code) (n0 : Nat) (P : Option Value → Heap → Prop) (h : Heap) (k n : Nat) (pc : Nat) (Ls : Array Slot) (st : List Value) : Prop :=
  ∀ (T : State) (locs : List Loc), Stand p l e R s m args below meth c T locs k n → T.heap = h → Fr n0 locs →
    ∃ s₂ o, Steps p.tables e below (T.setTop (mkF m pc Ls st)) s₂ ∧ s₂.status = .running ∧ Ended s₂ below o ∧ ∃ v L, o = .returned v ∧ (P v s₂.heap ∧ Fr n0 L) ∧ FrameEnd s o s₂ L R.cells R.slots
def RetI (Q : Int32 → Heap → Prop) (v : Option Value) (h : Heap) : Prop := ∃ z, v = some (.int z) ∧ Q z h
def RetL (Q : Int64 → Heap → Prop) (v : Option Value) (h : Heap) : Prop := ∃ z, v = some (.long z) ∧ Q z h
def RetV (Q : Value → Heap → Prop) (v : Option Value) (h : Heap) : Prop := ∃ z, v = some z ∧ Q z h
def Ret0 (Q : Heap → Prop) (v : Option Value) (h : Heap) : Prop := v = none ∧ Q h
def Met (l : Launch) (Z : State) (y : MethodName) (bytes : ByteArray) (mL : Nat) (rt : Option FieldType) (ws : List Jvm.Cond) (rm : Room) (as : Array Value) (h : Heap) (n0 : Nat) (P : Option Value → Heap → Prop) : Prop :=
  MetFree l y (head1 (Jvm.Cond.code y bytes mL rt :: ws) rm) (fun a U => a = as ∧ Z.Warmed39 U.vm ∧ U.heap = h) (fun _ _ _ _ _ => True) (fun _ U o U' => ∃ v L, o = .returned v ∧ (P v U'.heap ∧ Fr n0 L) ∧ FrameEnd U o U' L rm.cells rm.slots)
section Steps
variable {p : Program} {l : Launch} {e : Env} {R : Room} {s : State} {m : MethodId} {args : Array Value} {below : List Frame} {meth : Method} {c : Code} {Z : State} {own nm : String} {cd : ByteArray} {maxL : Nat} {ret : Option FieldType} {n0 : Nat} {P : Option Value → Heap → Prop} {h : Heap} {k n pc pc' : Nat} {Ls l' : Array Slot} {st st' rest : List Value} {a0 : Array Value}
theorem Met.intro {y : MethodName} {bytes : ByteArray} {mL : Nat} {rt : Option FieldType} {ws : List Jvm.Cond} {rm : Room} {as : Array Value} (hpl : plainFor y = true) (ho : y.cls = own) (hn : y.name = nm) (ef : ∀ m, entryFrame m as mL = mkF m 0 Ls [])
    (body : ∀ p e s m below meth c, Ctx p l e rm s m as below meth c Z own bytes mL rt nm → Run p l e rm s m as below meth c n0 P h 0 0 0 Ls []) : Met l Z y bytes mL rt ws rm as h n0 P := by
  subst ho hn
  refine MetFree.of_bodySF hpl hisR ?_
  intro p e s m args below meth c s₁ Bd hml0 hP hK
  obtain ⟨rfl, hZ, hh⟩ := hP
  have X0 : Stand p l e rm s m args below meth c s₁ [] 0 0 := Stand.of_body Bd
  have e0 : s₁.heap = h := by rw [← hh, Bd.state]; rfl
  have hown : s.vm.findClass y.cls = some m.cls := findClass_of_methodNamed Bd.named
  obtain ⟨s₂, o, h1, h2⟩ := body p e s m below meth c ⟨Bd.exec, hZ, Bd.bytes, hml0, hown, Bd.returns, Bd.notSynchronized, (name_of_methodNamed Bd.named Bd.method).1⟩ s₁ [] X0 e0 (Fr.nil _)
  exact ⟨s₂, o, castTop (ef m) h1, h2⟩
theorem Run.pure (f : ∀ T locs, Stand p l e R s m args below meth c T locs k n → T.heap = h → ∀ t, Steps p.tables e below (T.setTop (mkF m pc' l' st')) t → Steps p.tables e below (T.setTop (mkF m pc Ls st)) t) (r : Run p l e R s m args below meth c n0 P h k n pc' l' st') : Run p l e R s m args below meth c n0 P h k n pc Ls st := fun T locs X eT N => by
  obtain ⟨s₂, o, q, r⟩ := r T locs X eT N
  exact ⟨s₂, o, f T locs X eT _ q, r⟩
theorem Run.warm (f : ∀ T locs, Stand p l e R s m args below meth c T locs k n → T.heap = h → ∃ T', Stand p l e R s m args below meth c T' locs k n ∧ T'.heap = h ∧ ∀ t, Steps p.tables e below (T'.setTop (mkF m pc' l' st')) t → Steps p.tables e below (T.setTop (mkF m pc Ls st)) t) (r : Run p l e R s m args below meth c n0 P h k n pc' l' st') : Run p l e R s m args below meth c n0 P h k n pc Ls st := fun T locs X eT N => by
  obtain ⟨T', X', e', f'⟩ := f T locs X eT
  obtain ⟨s₂, o, q, r⟩ := r T' locs X' e' N
  exact ⟨s₂, o, f' _ q, r⟩
/-! loads, stores, constants -/
theorem s_iloadN (C : Ctx p l e R s m args below meth c Z own cd maxL ret nm) {q : Fin 4} {v : Int32} (hd : decode cd pc = .ok (.iload_n q, 1)) (hp : pc + 1 = pc') (hl : Ls[q.val]? = some (.val (.int v))) (r : Run p l e R s m args below meth c n0 P h k n pc' Ls (.int v :: st)) : Run p l e R s m args below meth c n0 P h k n pc Ls st := by
  subst hp; exact Run.pure (fun T locs X _ t z => XS.iloadN X.here C.1 rfl (hb C.2.2.1 hd) hl z) r
theorem s_iload (C : Ctx p l e R s m args below meth c Z own cd maxL ret nm) {q : Nat} {v : Int32} (hd : decode cd pc = .ok (.iload q, 2)) (hp : pc + 2 = pc') (hl : Ls[q]? = some (.val (.int v))) (r : Run p l e R s m args below meth c n0 P h k n pc' Ls (.int v :: st)) : Run p l e R s m args below meth c n0 P h k n pc Ls st := by
  subst hp; exact Run.pure (fun T locs X _ t z => XS.iload X.here C.1 rfl (hb C.2.2.1 hd) hl z) r
theorem s_lloadN (C : Ctx p l e R s m args below meth c Z own cd maxL ret nm) {q : Fin 4} {v : Int64} (hd : decode cd pc = .ok (.lload_n q, 1)) (hp : pc + 1 = pc') (hl : Ls[q.val]? = some (.val (.long v))) (r : Run p l e R s m args below meth c n0 P h k n pc' Ls (.long v :: st)) : Run p l e R s m args below meth c n0 P h k n pc Ls st := by
  subst hp; exact Run.pure (fun T locs X _ t z => XS.lloadN X.here C.1 rfl (hb C.2.2.1 hd) hl z) r
theorem s_lload (C : Ctx p l e R s m args below meth c Z own cd maxL ret nm) {q : Nat} {v : Int64} (hd : decode cd pc = .ok (.lload q, 2)) (hp : pc + 2 = pc') (hl : Ls[q]? = some (.val (.long v))) (r : Run p l e R s m args below meth c n0 P h k n pc' Ls (.long v :: st)) : Run p l e R s m args below meth c n0 P h k n pc Ls st := by
  subst hp; exact Run.pure (fun T locs X _ t z => XS.lload X.here C.1 rfl (hb C.2.2.1 hd) hl z) r
theorem s_aloadN (C : Ctx p l e R s m args below meth c Z own cd maxL ret nm) {q : Fin 4} {v : Value} (hd : decode cd pc = .ok (.aload_n q, 1)) (hp : pc + 1 = pc') (hl : Ls[q.val]? = some (.val v)) (hv : v.isRef = true) (r : Run p l e R s m args below meth c n0 P h k n pc' Ls (v :: st)) : Run p l e R s m args below meth c n0 P h k n pc Ls st := by
  subst hp; exact Run.pure (fun T locs X _ t z => XS.aloadN X.here C.1 rfl (hb C.2.2.1 hd) hl hv z) r
theorem s_aload (C : Ctx p l e R s m args below meth c Z own cd maxL ret nm) {q : Nat} {v : Value} (hd : decode cd pc = .ok (.aload q, 2)) (hp : pc + 2 = pc') (hl : Ls[q]? = some (.val v)) (hv : v.isRef = true) (r : Run p l e R s m args below meth c n0 P h k n pc' Ls (v :: st)) : Run p l e R s m args below meth c n0 P h k n pc Ls st := by
  subst hp; exact Run.pure (fun T locs X _ t z => XS.aload X.here C.1 rfl (hb C.2.2.1 hd) hl hv z) r
theorem s_istoreN (C : Ctx p l e R s m args below meth c Z own cd maxL ret nm) {q : Fin 4} {x : Int32} (hd : decode cd pc = .ok (.istore_n q, 1)) (hp : pc + 1 = pc') (L : Int32 → Array Slot) (hl : ∀ y, storeLocals Ls q.val (.int y) = some (L y)) (r : ∀ y, y = x → Run p l e R s m args below meth c n0 P h k n pc' (L y) st) : Run p l e R s m args below meth c n0 P h k n pc Ls (.int x :: st) := by
  subst hp; exact Run.pure (fun T locs X _ t z => XS.istoreN X.here C.1 rfl (hb C.2.2.1 hd) rfl (hl x) z) (r x rfl)
theorem s_istore (C : Ctx p l e R s m args below meth c Z own cd maxL ret nm) {q : Nat} {x : Int32} (hd : decode cd pc = .ok (.istore q, 2)) (hp : pc + 2 = pc') (L : Int32 → Array Slot) (hl : ∀ y, storeLocals Ls q (.int y) = some (L y)) (r : ∀ y, y = x → Run p l e R s m args below meth c n0 P h k n pc' (L y) st) : Run p l e R s m args below meth c n0 P h k n pc Ls (.int x :: st) := by
  subst hp; exact Run.pure (fun T locs X _ t z => XS.istore X.here C.1 rfl (hb C.2.2.1 hd) rfl (hl x) z) (r x rfl)
theorem s_lstoreN (C : Ctx p l e R s m args below meth c Z own cd maxL ret nm) {q : Fin 4} {x : Int64} (hd : decode cd pc = .ok (.lstore_n q, 1)) (hp : pc + 1 = pc') (L : Int64 → Array Slot) (hl : ∀ y, storeLocals Ls q.val (.long y) = some (L y)) (r : ∀ y, y = x → Run p l e R s m args below meth c n0 P h k n pc' (L y) st) : Run p l e R s m args below meth c n0 P h k n pc Ls (.long x :: st) := by
  subst hp; exact Run.pure (fun T locs X _ t z => XS.lstoreN X.here C.1 rfl (hb C.2.2.1 hd) rfl (hl x) z) (r x rfl)
theorem s_lstore (C : Ctx p l e R s m args below meth c Z own cd maxL ret nm) {q : Nat} {x : Int64} (hd : decode cd pc = .ok (.lstore q, 2)) (hp : pc + 2 = pc') (L : Int64 → Array Slot) (hl : ∀ y, storeLocals Ls q (.long y) = some (L y)) (r : ∀ y, y = x → Run p l e R s m args below meth c n0 P h k n pc' (L y) st) : Run p l e R s m args below meth c n0 P h k n pc Ls (.long x :: st) := by
  subst hp; exact Run.pure (fun T locs X _ t z => XS.lstore X.here C.1 rfl (hb C.2.2.1 hd) rfl (hl x) z) (r x rfl)
theorem s_istoreNP (C : Ctx p l e R s m args below meth c Z own cd maxL ret nm) {q : Fin 4} {x : Int32} (hd : decode cd pc = .ok (.istore_n q, 1)) (hp : pc + 1 = pc') (L : Array Slot) (hl : storeLocals Ls q.val (.int x) = some L) (r : Run p l e R s m args below meth c n0 P h k n pc' L st) : Run p l e R s m args below meth c n0 P h k n pc Ls (.int x :: st) := by
  subst hp; exact Run.pure (fun T locs X _ t z => XS.istoreN X.here C.1 rfl (hb C.2.2.1 hd) rfl hl z) r
theorem s_istoreP (C : Ctx p l e R s m args below meth c Z own cd maxL ret nm) {q : Nat} {x : Int32} (hd : decode cd pc = .ok (.istore q, 2)) (hp : pc + 2 = pc') (L : Array Slot) (hl : storeLocals Ls q (.int x) = some L) (r : Run p l e R s m args below meth c n0 P h k n pc' L st) : Run p l e R s m args below meth c n0 P h k n pc Ls (.int x :: st) := by
  subst hp; exact Run.pure (fun T locs X _ t z => XS.istore X.here C.1 rfl (hb C.2.2.1 hd) rfl hl z) r
theorem s_lstoreNP (C : Ctx p l e R s m args below meth c Z own cd maxL ret nm) {q : Fin 4} {x : Int64} (hd : decode cd pc = .ok (.lstore_n q, 1)) (hp : pc + 1 = pc') (L : Array Slot) (hl : storeLocals Ls q.val (.long x) = some L) (r : Run p l e R s m args below meth c n0 P h k n pc' L st) : Run p l e R s m args below meth c n0 P h k n pc Ls (.long x :: st) := by
  subst hp; exact Run.pure (fun T locs X _ t z => XS.lstoreN X.here C.1 rfl (hb C.2.2.1 hd) rfl hl z) r
theorem s_lstoreP (C : Ctx p l e R s m args below meth c Z own cd maxL ret nm) {q : Nat} {x : Int64} (hd : decode cd pc = .ok (.lstore q, 2)) (hp : pc + 2 = pc') (L : Array Slot) (hl : storeLocals Ls q (.long x) = some L) (r : Run p l e R s m args below meth c n0 P h k n pc' L st) : Run p l e R s m args below meth c n0 P h k n pc Ls (.long x :: st) := by
  subst hp; exact Run.pure (fun T locs X _ t z => XS.lstore X.here C.1 rfl (hb C.2.2.1 hd) rfl hl z) r
theorem s_astoreN (C : Ctx p l e R s m args below meth c Z own cd maxL ret nm) {q : Fin 4} {x : Value} (hd : decode cd pc = .ok (.astore_n q, 1)) (hp : pc + 1 = pc') (hv : x.isRef = true) (L : Array Slot) (hl : storeLocals Ls q.val x = some L) (r : Run p l e R s m args below meth c n0 P h k n pc' L st) : Run p l e R s m args below meth c n0 P h k n pc Ls (x :: st) := by
  subst hp; exact Run.pure (fun T locs X _ t z => XS.astoreN X.here C.1 rfl (hb C.2.2.1 hd) rfl hv hl z) r
theorem s_astore (C : Ctx p l e R s m args below meth c Z own cd maxL ret nm) {q : Nat} {x : Value} (hd : decode cd pc = .ok (.astore q, 2)) (hp : pc + 2 = pc') (hv : x.isRef = true) (L : Array Slot) (hl : storeLocals Ls q x = some L) (r : Run p l e R s m args below meth c n0 P h k n pc' L st) : Run p l e R s m args below meth c n0 P h k n pc Ls (x :: st) := by
  subst hp; exact Run.pure (fun T locs X _ t z => XS.astore X.here C.1 rfl (hb C.2.2.1 hd) rfl hv hl z) r
theorem s_iconst (C : Ctx p l e R s m args below meth c Z own cd maxL ret nm) {i : Int} (hd : decode cd pc = .ok (.iconst i, 1)) (hp : pc + 1 = pc') (v : Int32) (hv : Int32.ofInt i = v) (r : Run p l e R s m args below meth c n0 P h k n pc' Ls (.int v :: st)) : Run p l e R s m args below meth c n0 P h k n pc Ls st := by
  subst hp hv; exact Run.pure (fun T locs X _ t z => XS.iconst X.here C.1 rfl (hb C.2.2.1 hd) z) r
theorem s_bipush (C : Ctx p l e R s m args below meth c Z own cd maxL ret nm) {i : Int} (hd : decode cd pc = .ok (.bipush i, 2)) (hp : pc + 2 = pc') (v : Int32) (hv : (Int8.ofInt i).toInt32 = v) (r : Run p l e R s m args below meth c n0 P h k n pc' Ls (.int v :: st)) : Run p l e R s m args below meth c n0 P h k n pc Ls st := by
  subst hp hv; exact Run.pure (fun T locs X _ t z => XS.bipush X.here C.1 rfl (hb C.2.2.1 hd) z) r
theorem s_sipush (C : Ctx p l e R s m args below meth c Z own cd maxL ret nm) {i : Int} (hd : decode cd pc = .ok (.sipush i, 3)) (hp : pc + 3 = pc') (v : Int32) (hv : (Int16.ofInt i).toInt32 = v) (r : Run p l e R s m args below meth c n0 P h k n pc' Ls (.int v :: st)) : Run p l e R s m args below meth c n0 P h k n pc Ls st := by
  subst hp hv; exact Run.pure (fun T locs X _ t z => XS.sipush X.here C.1 rfl (hb C.2.2.1 hd) z) r
theorem s_lconst (C : Ctx p l e R s m args below meth c Z own cd maxL ret nm) {i : Fin 2} (hd : decode cd pc = .ok (.lconst i, 1)) (hp : pc + 1 = pc') (v : Int64) (hv : Int64.ofNat i.val = v) (r : Run p l e R s m args below meth c n0 P h k n pc' Ls (.long v :: st)) : Run p l e R s m args below meth c n0 P h k n pc Ls st := by
  subst hp hv; exact Run.pure (fun T locs X _ t z => XS.lconst X.here C.1 rfl (hb C.2.2.1 hd) z) r
theorem s_null (C : Ctx p l e R s m args below meth c Z own cd maxL ret nm) (hd : decode cd pc = .ok (.aconst_null, 1)) (hp : pc + 1 = pc') (r : Run p l e R s m args below meth c n0 P h k n pc' Ls (.null :: st)) : Run p l e R s m args below meth c n0 P h k n pc Ls st := by
  subst hp; exact Run.pure (fun T locs X _ t z => XS.aconstNull X.here C.1 rfl (hb C.2.2.1 hd) z) r
theorem s_ldc (C : Ctx p l e R s m args below meth c Z own cd maxL ret nm) {i : Nat} {v : Int32} (hd : decode cd pc = .ok (.ldc i, 2)) (hp : pc + 2 = pc') (w : (Jvm.Cond.constant own i v).before a0 Z = true) (r : Run p l e R s m args below meth c n0 P h k n pc' Ls (.int v :: st)) : Run p l e R s m args below meth c n0 P h k n pc Ls st := by
  subst hp; exact Run.pure (fun T locs X _ t z => X.ldcInt C.1 C.2.2.2.2.1 (mvT C.2.1 w) (g := mkF m pc Ls st) rfl (hb C.2.2.1 hd) _ z) r
theorem s_ldc2 (C : Ctx p l e R s m args below meth c Z own cd maxL ret nm) {i : Nat} {v : Int64} (hd : decode cd pc = .ok (.ldc2_w i, 3)) (hp : pc + 3 = pc') (w : (Jvm.Cond.constantLong own i v).before a0 Z = true) (r : Run p l e R s m args below meth c n0 P h k n pc' Ls (.long v :: st)) : Run p l e R s m args below meth c n0 P h k n pc Ls st := by
  subst hp; exact Run.pure (fun T locs X _ t z => X.ldc2Long C.1 C.2.2.2.2.1 (mvT C.2.1 w) (g := mkF m pc Ls st) rfl (hb C.2.2.1 hd) _ z) r
theorem s_iinc (C : Ctx p l e R s m args below meth c Z own cd maxL ret nm) {q : Nat} {cst : Int} {x : Int32} (hd : decode cd pc = .ok (.iinc q cst, 3)) (hp : pc + 3 = pc') (hl : Ls[q]? = some (.val (.int x))) (z : Int32) (hz : Int32.ofInt cst = z) (L : Int32 → Array Slot) (hl' : ∀ y, storeLocals Ls q (.int y) = some (L y)) (r : ∀ y, y = x + z → Run p l e R s m args below meth c n0 P h k n pc' (L y) st) : Run p l e R s m args below meth c n0 P h k n pc Ls st := by
  subst hp hz; exact Run.pure (fun T locs X _ t z => XS.iinc X.here C.1 rfl (hb C.2.2.1 hd) hl (hl' _) z) (r _ rfl)
theorem s_iincP (C : Ctx p l e R s m args below meth c Z own cd maxL ret nm) {q : Nat} {cst : Int} {x : Int32} (hd : decode cd pc = .ok (.iinc q cst, 3)) (hp : pc + 3 = pc') (hl : Ls[q]? = some (.val (.int x))) (z : Int32) (hz : x + Int32.ofInt cst = z) (L : Array Slot) (hl' : storeLocals Ls q (.int z) = some L) (r : Run p l e R s m args below meth c n0 P h k n pc' L st) : Run p l e R s m args below meth c n0 P h k n pc Ls st := by
  subst hp hz; exact Run.pure (fun T locs X _ t z => XS.iinc X.here C.1 rfl (hb C.2.2.1 hd) hl hl' z) r
/-! plain steps -/
theorem s_iadd (C : Ctx p l e R s m args below meth c Z own cd maxL ret nm) {x y : Int32} (hd : decode cd pc = .ok (.iadd, 1)) (hp : pc + 1 = pc') (r : Run p l e R s m args below meth c n0 P h k n pc' Ls (.int (x + y) :: st)) : Run p l e R s m args below meth c n0 P h k n pc Ls (.int y :: .int x :: st) := by
  subst hp; exact Run.pure (fun T locs X _ t z => XS.iadd X.here C.1 rfl (hb C.2.2.1 hd) rfl z) r
theorem s_isub (C : Ctx p l e R s m args below meth c Z own cd maxL ret nm) {x y : Int32} (hd : decode cd pc = .ok (.isub, 1)) (hp : pc + 1 = pc') (r : Run p l e R s m args below meth c n0 P h k n pc' Ls (.int (x - y) :: st)) : Run p l e R s m args below meth c n0 P h k n pc Ls (.int y :: .int x :: st) := by
  subst hp; exact Run.pure (fun T locs X _ t z => XS.isub X.here C.1 rfl (hb C.2.2.1 hd) rfl z) r
theorem s_imul (C : Ctx p l e R s m args below meth c Z own cd maxL ret nm) {x y : Int32} (hd : decode cd pc = .ok (.imul, 1)) (hp : pc + 1 = pc') (r : Run p l e R s m args below meth c n0 P h k n pc' Ls (.int (x * y) :: st)) : Run p l e R s m args below meth c n0 P h k n pc Ls (.int y :: .int x :: st) := by
  subst hp; exact Run.pure (fun T locs X _ t z => XS.imul X.here C.1 rfl (hb C.2.2.1 hd) rfl z) r
theorem s_iand (C : Ctx p l e R s m args below meth c Z own cd maxL ret nm) {x y : Int32} (hd : decode cd pc = .ok (.iand, 1)) (hp : pc + 1 = pc') (r : Run p l e R s m args below meth c n0 P h k n pc' Ls (.int (x &&& y) :: st)) : Run p l e R s m args below meth c n0 P h k n pc Ls (.int y :: .int x :: st) := by
  subst hp; exact Run.pure (fun T locs X _ t z => XS.iand X.here C.1 rfl (hb C.2.2.1 hd) rfl z) r
theorem s_ior (C : Ctx p l e R s m args below meth c Z own cd maxL ret nm) {x y : Int32} (hd : decode cd pc = .ok (.ior, 1)) (hp : pc + 1 = pc') (r : Run p l e R s m args below meth c n0 P h k n pc' Ls (.int (x ||| y) :: st)) : Run p l e R s m args below meth c n0 P h k n pc Ls (.int y :: .int x :: st) := by
  subst hp; exact Run.pure (fun T locs X _ t z => XS.ior X.here C.1 rfl (hb C.2.2.1 hd) rfl z) r
theorem s_ixor (C : Ctx p l e R s m args below meth c Z own cd maxL ret nm) {x y : Int32} (hd : decode cd pc = .ok (.ixor, 1)) (hp : pc + 1 = pc') (r : Run p l e R s m args below meth c n0 P h k n pc' Ls (.int (x ^^^ y) :: st)) : Run p l e R s m args below meth c n0 P h k n pc Ls (.int y :: .int x :: st) := by
  subst hp; exact Run.pure (fun T locs X _ t z => XS.ixor X.here C.1 rfl (hb C.2.2.1 hd) rfl z) r
theorem s_ishl (C : Ctx p l e R s m args below meth c Z own cd maxL ret nm) {x y : Int32} (hd : decode cd pc = .ok (.ishl, 1)) (hp : pc + 1 = pc') (r : Run p l e R s m args below meth c n0 P h k n pc' Ls (.int (x <<< (y &&& 31)) :: st)) : Run p l e R s m args below meth c n0 P h k n pc Ls (.int y :: .int x :: st) := by
  subst hp; exact Run.pure (fun T locs X _ t z => XS.ishl X.here C.1 rfl (hb C.2.2.1 hd) rfl z) r
theorem s_ishr (C : Ctx p l e R s m args below meth c Z own cd maxL ret nm) {x y : Int32} (hd : decode cd pc = .ok (.ishr, 1)) (hp : pc + 1 = pc') (r : Run p l e R s m args below meth c n0 P h k n pc' Ls (.int (x >>> (y &&& 31)) :: st)) : Run p l e R s m args below meth c n0 P h k n pc Ls (.int y :: .int x :: st) := by
  subst hp; exact Run.pure (fun T locs X _ t z => XS.ishr X.here C.1 rfl (hb C.2.2.1 hd) rfl z) r
theorem s_iushr (C : Ctx p l e R s m args below meth c Z own cd maxL ret nm) {x y : Int32} (hd : decode cd pc = .ok (.iushr, 1)) (hp : pc + 1 = pc') (r : Run p l e R s m args below meth c n0 P h k n pc' Ls (.int ((x.toUInt32 >>> (y &&& 31).toUInt32).toInt32) :: st)) : Run p l e R s m args below meth c n0 P h k n pc Ls (.int y :: .int x :: st) := by
  subst hp; exact Run.pure (fun T locs X _ t z => XS.iushr X.here C.1 rfl (hb C.2.2.1 hd) rfl z) r
theorem s_ladd (C : Ctx p l e R s m args below meth c Z own cd maxL ret nm) {x y : Int64} (hd : decode cd pc = .ok (.ladd, 1)) (hp : pc + 1 = pc') (r : Run p l e R s m args below meth c n0 P h k n pc' Ls (.long (x + y) :: st)) : Run p l e R s m args below meth c n0 P h k n pc Ls (.long y :: .long x :: st) := by
  subst hp; exact Run.pure (fun T locs X _ t z => XS.ladd X.here C.1 rfl (hb C.2.2.1 hd) rfl z) r
theorem s_lsub (C : Ctx p l e R s m args below meth c Z own cd maxL ret nm) {x y : Int64} (hd : decode cd pc = .ok (.lsub, 1)) (hp : pc + 1 = pc') (r : Run p l e R s m args below meth c n0 P h k n pc' Ls (.long (x - y) :: st)) : Run p l e R s m args below meth c n0 P h k n pc Ls (.long y :: .long x :: st) := by
  subst hp; exact Run.pure (fun T locs X _ t z => XS.lsub X.here C.1 rfl (hb C.2.2.1 hd) rfl z) r
theorem s_lmul (C : Ctx p l e R s m args below meth c Z own cd maxL ret nm) {x y : Int64} (hd : decode cd pc = .ok (.lmul, 1)) (hp : pc + 1 = pc') (r : Run p l e R s m args below meth c n0 P h k n pc' Ls (.long (x * y) :: st)) : Run p l e R s m args below meth c n0 P h k n pc Ls (.long y :: .long x :: st) := by
  subst hp; exact Run.pure (fun T locs X _ t z => XS.lmul X.here C.1 rfl (hb C.2.2.1 hd) rfl z) r
theorem s_land (C : Ctx p l e R s m args below meth c Z own cd maxL ret nm) {x y : Int64} (hd : decode cd pc = .ok (.land, 1)) (hp : pc + 1 = pc') (r : Run p l e R s m args below meth c n0 P h k n pc' Ls (.long (x &&& y) :: st)) : Run p l e R s m args below meth c n0 P h k n pc Ls (.long y :: .long x :: st) := by
  subst hp; exact Run.pure (fun T locs X _ t z => XS.land X.here C.1 rfl (hb C.2.2.1 hd) rfl z) r
theorem s_lor (C : Ctx p l e R s m args below meth c Z own cd maxL ret nm) {x y : Int64} (hd : decode cd pc = .ok (.lor, 1)) (hp : pc + 1 = pc') (r : Run p l e R s m args below meth c n0 P h k n pc' Ls (.long (x ||| y) :: st)) : Run p l e R s m args below meth c n0 P h k n pc Ls (.long y :: .long x :: st) := by
  subst hp; exact Run.pure (fun T locs X _ t z => XS.lor X.here C.1 rfl (hb C.2.2.1 hd) rfl z) r
theorem s_lxor (C : Ctx p l e R s m args below meth c Z own cd maxL ret nm) {x y : Int64} (hd : decode cd pc = .ok (.lxor, 1)) (hp : pc + 1 = pc') (r : Run p l e R s m args below meth c n0 P h k n pc' Ls (.long (x ^^^ y) :: st)) : Run p l e R s m args below meth c n0 P h k n pc Ls (.long y :: .long x :: st) := by
  subst hp; exact Run.pure (fun T locs X _ t z => XS.lxor X.here C.1 rfl (hb C.2.2.1 hd) rfl z) r
theorem s_lshl (C : Ctx p l e R s m args below meth c Z own cd maxL ret nm) {x : Int64} {y : Int32} (hd : decode cd pc = .ok (.lshl, 1)) (hp : pc + 1 = pc') (r : Run p l e R s m args below meth c n0 P h k n pc' Ls (.long (x <<< (y &&& 0x3f).toInt64) :: st)) : Run p l e R s m args below meth c n0 P h k n pc Ls (.int y :: .long x :: st) := by
  subst hp; exact Run.pure (fun T locs X _ t z => XS.lshl X.here C.1 rfl (hb C.2.2.1 hd) rfl z) r
theorem s_lshr (C : Ctx p l e R s m args below meth c Z own cd maxL ret nm) {x : Int64} {y : Int32} (hd : decode cd pc = .ok (.lshr, 1)) (hp : pc + 1 = pc') (r : Run p l e R s m args below meth c n0 P h k n pc' Ls (.long (x >>> (y &&& 0x3f).toInt64) :: st)) : Run p l e R s m args below meth c n0 P h k n pc Ls (.int y :: .long x :: st) := by
  subst hp; exact Run.pure (fun T locs X _ t z => XS.lshr X.here C.1 rfl (hb C.2.2.1 hd) rfl z) r
theorem s_lushr (C : Ctx p l e R s m args below meth c Z own cd maxL ret nm) {x : Int64} {y : Int32} (hd : decode cd pc = .ok (.lushr, 1)) (hp : pc + 1 = pc') (r : Run p l e R s m args below meth c n0 P h k n pc' Ls (.long ((x.toUInt64 >>> (y &&& 0x3f).toInt64.toUInt64).toInt64) :: st)) : Run p l e R s m args below meth c n0 P h k n pc Ls (.int y :: .long x :: st) := by
  subst hp; exact Run.pure (fun T locs X _ t z => XS.lushr X.here C.1 rfl (hb C.2.2.1 hd) rfl z) r
theorem s_idiv (C : Ctx p l e R s m args below meth c Z own cd maxL ret nm) {x y : Int32} (hd : decode cd pc = .ok (.idiv, 1)) (hp : pc + 1 = pc') (hy : y ≠ 0) (r : Run p l e R s m args below meth c n0 P h k n pc' Ls (.int (x / y) :: st)) : Run p l e R s m args below meth c n0 P h k n pc Ls (.int y :: .int x :: st) := by
  subst hp; exact Run.pure (fun T locs X _ t z => XS.idiv X.here C.1 rfl (hb C.2.2.1 hd) rfl hy z) r
theorem s_irem (C : Ctx p l e R s m args below meth c Z own cd maxL ret nm) {x y : Int32} (hd : decode cd pc = .ok (.irem, 1)) (hp : pc + 1 = pc') (hy : y ≠ 0) (r : Run p l e R s m args below meth c n0 P h k n pc' Ls (.int (x % y) :: st)) : Run p l e R s m args below meth c n0 P h k n pc Ls (.int y :: .int x :: st) := by
  subst hp; exact Run.pure (fun T locs X _ t z => iremM X C.1 (g := mkF m pc Ls (.int y :: .int x :: st)) rfl (hb C.2.2.1 hd) rfl hy z) r
theorem s_ldiv (C : Ctx p l e R s m args below meth c Z own cd maxL ret nm) {x y : Int64} (hd : decode cd pc = .ok (.ldiv, 1)) (hp : pc + 1 = pc') (hy : y ≠ 0) (r : Run p l e R s m args below meth c n0 P h k n pc' Ls (.long (x / y) :: st)) : Run p l e R s m args below meth c n0 P h k n pc Ls (.long y :: .long x :: st) := by
  subst hp; exact Run.pure (fun T locs X _ t z => XS.ldiv X.here C.1 rfl (hb C.2.2.1 hd) rfl hy z) r
theorem s_lrem (C : Ctx p l e R s m args below meth c Z own cd maxL ret nm) {x y : Int64} (hd : decode cd pc = .ok (.lrem, 1)) (hp : pc + 1 = pc') (hy : y ≠ 0) (r : Run p l e R s m args below meth c n0 P h k n pc' Ls (.long (x % y) :: st)) : Run p l e R s m args below meth c n0 P h k n pc Ls (.long y :: .long x :: st) := by
  subst hp; rw [← lrem_mod] at r; exact Run.pure (fun T locs X _ t z => XS.lrem X.here C.1 rfl (hb C.2.2.1 hd) rfl hy z) r
theorem s_ineg (C : Ctx p l e R s m args below meth c Z own cd maxL ret nm) {x : Int32} (hd : decode cd pc = .ok (.ineg, 1)) (hp : pc + 1 = pc') (r : Run p l e R s m args below meth c n0 P h k n pc' Ls (.int (-x) :: st)) : Run p l e R s m args below meth c n0 P h k n pc Ls (.int x :: st) := by
  subst hp; exact Run.pure (fun T locs X _ t z => XS.ineg X.here C.1 rfl (hb C.2.2.1 hd) rfl z) r
theorem s_lneg (C : Ctx p l e R s m args below meth c Z own cd maxL ret nm) {x : Int64} (hd : decode cd pc = .ok (.lneg, 1)) (hp : pc + 1 = pc') (r : Run p l e R s m args below meth c n0 P h k n pc' Ls (.long (-x) :: st)) : Run p l e R s m args below meth c n0 P h k n pc Ls (.long x :: st) := by
  subst hp; exact Run.pure (fun T locs X _ t z => XS.lneg X.here C.1 rfl (hb C.2.2.1 hd) rfl z) r
theorem s_i2l (C : Ctx p l e R s m args below meth c Z own cd maxL ret nm) {x : Int32} (hd : decode cd pc = .ok (.i2l, 1)) (hp : pc + 1 = pc') (r : Run p l e R s m args below meth c n0 P h k n pc' Ls (.long (x.toInt64) :: st)) : Run p l e R s m args below meth c n0 P h k n pc Ls (.int x :: st) := by
  subst hp; exact Run.pure (fun T locs X _ t z => XS.i2l X.here C.1 rfl (hb C.2.2.1 hd) rfl z) r
theorem s_l2i (C : Ctx p l e R s m args below meth c Z own cd maxL ret nm) {x : Int64} (hd : decode cd pc = .ok (.l2i, 1)) (hp : pc + 1 = pc') (r : Run p l e R s m args below meth c n0 P h k n pc' Ls (.int (x.toInt32) :: st)) : Run p l e R s m args below meth c n0 P h k n pc Ls (.long x :: st) := by
  subst hp; exact Run.pure (fun T locs X _ t z => XS.l2i X.here C.1 rfl (hb C.2.2.1 hd) rfl z) r
theorem s_i2b (C : Ctx p l e R s m args below meth c Z own cd maxL ret nm) {x : Int32} (hd : decode cd pc = .ok (.i2b, 1)) (hp : pc + 1 = pc') (r : Run p l e R s m args below meth c n0 P h k n pc' Ls (.int (x.toInt8.toInt32) :: st)) : Run p l e R s m args below meth c n0 P h k n pc Ls (.int x :: st) := by
  subst hp; exact Run.pure (fun T locs X _ t z => XS.i2b X.here C.1 rfl (hb C.2.2.1 hd) rfl z) r
theorem s_i2s (C : Ctx p l e R s m args below meth c Z own cd maxL ret nm) {x : Int32} (hd : decode cd pc = .ok (.i2s, 1)) (hp : pc + 1 = pc') (r : Run p l e R s m args below meth c n0 P h k n pc' Ls (.int (x.toInt16.toInt32) :: st)) : Run p l e R s m args below meth c n0 P h k n pc Ls (.int x :: st) := by
  subst hp; exact Run.pure (fun T locs X _ t z => XS.i2s X.here C.1 rfl (hb C.2.2.1 hd) rfl z) r
theorem s_i2c (C : Ctx p l e R s m args below meth c Z own cd maxL ret nm) {x : Int32} (hd : decode cd pc = .ok (.i2c, 1)) (hp : pc + 1 = pc') (r : Run p l e R s m args below meth c n0 P h k n pc' Ls (.int (x.toUInt32.toUInt16.toUInt32.toInt32) :: st)) : Run p l e R s m args below meth c n0 P h k n pc Ls (.int x :: st) := by
  subst hp; exact Run.pure (fun T locs X _ t z => XS.i2c X.here C.1 rfl (hb C.2.2.1 hd) rfl z) r
theorem s_lcmp (C : Ctx p l e R s m args below meth c Z own cd maxL ret nm) {x y : Int64} (hd : decode cd pc = .ok (.lcmp, 1)) (hp : pc + 1 = pc') (r : Run p l e R s m args below meth c n0 P h k n pc' Ls (.int (lcmpW x y) :: st)) : Run p l e R s m args below meth c n0 P h k n pc Ls (.long y :: .long x :: st) := by
  subst hp; exact Run.pure (fun T locs X _ t z => XS.lcmp X.here C.1 rfl (hb C.2.2.1 hd) rfl z) r
theorem s_goto (C : Ctx p l e R s m args below meth c Z own cd maxL ret nm) {o : Int} (hd : decode cd pc = .ok (.goto o, 3)) (hp : (pc : Int) + o = (pc' : Int)) (r : Run p l e R s m args below meth c n0 P h k n pc' Ls st) : Run p l e R s m args below meth c n0 P h k n pc Ls st :=
  Run.pure (fun T locs X _ t z => XS.goto X.here C.1 rfl (pc0 := pc) rfl (hb C.2.2.1 hd) (by omega) (by omega) z) r
theorem s_dup (C : Ctx p l e R s m args below meth c Z own cd maxL ret nm) {v : Value} (hd : decode cd pc = .ok (.dup, 1)) (hp : pc + 1 = pc') (hc : v.category = 1) (r : Run p l e R s m args below meth c n0 P h k n pc' Ls (v :: v :: st)) : Run p l e R s m args below meth c n0 P h k n pc Ls (v :: st) := by
  subst hp; exact Run.pure (fun T locs X _ t z => XS.dup X.here C.1 rfl (hb C.2.2.1 hd) rfl hc z) r
theorem s_pop (C : Ctx p l e R s m args below meth c Z own cd maxL ret nm) {v : Value} (hd : decode cd pc = .ok (.pop, 1)) (hp : pc + 1 = pc') (hc : v.category = 1) (r : Run p l e R s m args below meth c n0 P h k n pc' Ls st) : Run p l e R s m args below meth c n0 P h k n pc Ls (v :: st) := by
  subst hp; exact Run.pure (fun T locs X _ t z => XS.pop X.here C.1 rfl (hb C.2.2.1 hd) rfl hc z) r
theorem s_dup2 (C : Ctx p l e R s m args below meth c Z own cd maxL ret nm) {v w : Value} (hd : decode cd pc = .ok (.dup2, 1)) (hp : pc + 1 = pc') (hc : v.category = 1) (hc' : w.category = 1) (r : Run p l e R s m args below meth c n0 P h k n pc' Ls (v :: w :: v :: w :: st)) : Run p l e R s m args below meth c n0 P h k n pc Ls (v :: w :: st) := by
  subst hp; exact Run.pure (fun T locs X _ t z => XT.dup2 X.here C.1 rfl (hb C.2.2.1 hd) rfl hc hc' z) r
theorem s_dupX1 (C : Ctx p l e R s m args below meth c Z own cd maxL ret nm) {v w : Value} (hd : decode cd pc = .ok (.dup_x1, 1)) (hp : pc + 1 = pc') (hc : v.category = 1) (hc' : w.category = 1) (r : Run p l e R s m args below meth c n0 P h k n pc' Ls (v :: w :: v :: st)) : Run p l e R s m args below meth c n0 P h k n pc Ls (v :: w :: st) := by
  subst hp; exact Run.pure (fun T locs X _ t z => XS.dupX1 X.here C.1 rfl (hb C.2.2.1 hd) rfl hc hc' z) r
/-! branches -/
theorem s_if (C : Ctx p l e R s m args below meth c Z own cd maxL ret nm) {cc : ClassFile.Cond} {o : Int} {x : Int32} {pcY : Nat} (hd : decode cd pc = .ok (.ifCond cc o, 3)) (hp : pc + 3 = pc') (ho : (pc : Int) + o = (pcY : Int)) (rY : if_icmp.holds cc x 0 = true → Run p l e R s m args below meth c n0 P h k n pcY Ls st) (rN : if_icmp.holds cc x 0 = false → Run p l e R s m args below meth c n0 P h k n pc' Ls st) : Run p l e R s m args below meth c n0 P h k n pc Ls (.int x :: st) := by
  subst hp
  cases hq : if_icmp.holds cc x 0
  · exact Run.pure (fun T locs X _ t z => XS.ifNo X.here C.1 rfl (hb C.2.2.1 hd) rfl ((if0 _ _).trans hq) z) (rN hq)
  · exact Run.pure (fun T locs X _ t z => XS.ifYes X.here C.1 rfl (pc0 := pc) rfl (hb C.2.2.1 hd) rfl ((if0 _ _).trans hq) (by omega) (by omega) z) (rY hq)
theorem s_icmp (C : Ctx p l e R s m args below meth c Z own cd maxL ret nm) {cc : ClassFile.Cond} {o : Int} {x y : Int32} {pcY : Nat} (hd : decode cd pc = .ok (.if_icmp cc o, 3)) (hp : pc + 3 = pc') (ho : (pc : Int) + o = (pcY : Int)) (rY : if_icmp.holds cc x y = true → Run p l e R s m args below meth c n0 P h k n pcY Ls st) (rN : if_icmp.holds cc x y = false → Run p l e R s m args below meth c n0 P h k n pc' Ls st) : Run p l e R s m args below meth c n0 P h k n pc Ls (.int y :: .int x :: st) := by
  subst hp
  cases hq : if_icmp.holds cc x y
  · exact Run.pure (fun T locs X _ t z => XS.icmpNo X.here C.1 rfl (hb C.2.2.1 hd) rfl hq z) (rN hq)
  · exact Run.pure (fun T locs X _ t z => XS.icmpYes X.here C.1 rfl (pc0 := pc) rfl (hb C.2.2.1 hd) rfl hq (by omega) (by omega) z) (rY hq)
theorem holds_lt {x y : Int32} : (if_icmp.holds .lt x y = true → x < y) ∧ (if_icmp.holds .lt x y = false → ¬ x < y) := ⟨fun h => by simpa [if_icmp.holds] using h, fun h q => by simp [if_icmp.holds, q] at h⟩
theorem holds_ge {x y : Int32} : (if_icmp.holds .ge x y = true → ¬ x < y) ∧ (if_icmp.holds .ge x y = false → x < y) := ⟨fun h q => (by rw [(tlt q).2.1] at h; cases h), fun h => Decidable.byContradiction fun q => (by rw [(flt q).2.1] at h; cases h)⟩
theorem holds_gt {x y : Int32} : (if_icmp.holds .gt x y = true → y < x) ∧ (if_icmp.holds .gt x y = false → ¬ y < x) := ⟨fun h => Decidable.byContradiction fun q => (by rw [(flt q).2.2.1] at h; cases h), fun h q => (by rw [(tlt q).2.2.1] at h; cases h)⟩
theorem holds_le {x y : Int32} : (if_icmp.holds .le x y = true → ¬ y < x) ∧ (if_icmp.holds .le x y = false → y < x) := ⟨fun h q => (by rw [(tlt q).2.2.2] at h; cases h), fun h => Decidable.byContradiction fun q => (by rw [(flt q).2.2.2] at h; cases h)⟩
theorem holds_eq {x y : Int32} : (if_icmp.holds .eq x y = true → x = y) ∧ (if_icmp.holds .eq x y = false → ¬ x = y) := ⟨fun h => Decidable.byContradiction fun q => (by rw [(feq q).1] at h; cases h), fun h q => (by rw [(teq q).1] at h; cases h)⟩
theorem holds_ne {x y : Int32} : (if_icmp.holds .ne x y = true → ¬ x = y) ∧ (if_icmp.holds .ne x y = false → x = y) := ⟨fun h q => (by rw [(teq q).2] at h; cases h), fun h => Decidable.byContradiction fun q => (by rw [(feq q).2] at h; cases h)⟩
theorem s_if_lt (C : Ctx p l e R s m args below meth c Z own cd maxL ret nm) {o : Int} {x : Int32} {pcY : Nat} (hd : decode cd pc = .ok (.ifCond .lt o, 3)) (hp : pc + 3 = pc') (ho : (pc : Int) + o = (pcY : Int)) (rY : x < (0 : Int32) → Run p l e R s m args below meth c n0 P h k n pcY Ls st) (rN : ¬ x < (0 : Int32) → Run p l e R s m args below meth c n0 P h k n pc' Ls st) : Run p l e R s m args below meth c n0 P h k n pc Ls (.int x :: st) :=
  s_if C hd hp ho (fun h => rY (holds_lt.1 h)) (fun h => rN (holds_lt.2 h))
theorem s_icmp_lt (C : Ctx p l e R s m args below meth c Z own cd maxL ret nm) {o : Int} {x y : Int32} {pcY : Nat} (hd : decode cd pc = .ok (.if_icmp .lt o, 3)) (hp : pc + 3 = pc') (ho : (pc : Int) + o = (pcY : Int)) (rY : x < y → Run p l e R s m args below meth c n0 P h k n pcY Ls st) (rN : ¬ x < y → Run p l e R s m args below meth c n0 P h k n pc' Ls st) : Run p l e R s m args below meth c n0 P h k n pc Ls (.int y :: .int x :: st) :=
  s_icmp C hd hp ho (fun h => rY (holds_lt.1 h)) (fun h => rN (holds_lt.2 h))
theorem s_lc_lt (C : Ctx p l e R s m args below meth c Z own cd maxL ret nm) {o : Int} {x y : Int64} {pc1 pcY : Nat} (hd : decode cd pc = .ok (.lcmp, 1)) (hp1 : pc + 1 = pc1) (hd2 : decode cd pc1 = .ok (.ifCond .lt o, 3)) (hp : pc1 + 3 = pc') (ho : (pc1 : Int) + o = (pcY : Int)) (rY : x < y → Run p l e R s m args below meth c n0 P h k n pcY Ls st) (rN : ¬ x < y → Run p l e R s m args below meth c n0 P h k n pc' Ls st) : Run p l e R s m args below meth c n0 P h k n pc Ls (.long y :: .long x :: st) :=
  s_lcmp C hd hp1 (s_if_lt C hd2 hp ho (fun h => rY ((lw_lt x y).mp h)) (fun h => rN (fun q => h ((lw_lt x y).mpr q))))
theorem s_if_ge (C : Ctx p l e R s m args below meth c Z own cd maxL ret nm) {o : Int} {x : Int32} {pcY : Nat} (hd : decode cd pc = .ok (.ifCond .ge o, 3)) (hp : pc + 3 = pc') (ho : (pc : Int) + o = (pcY : Int)) (rY : ¬ x < (0 : Int32) → Run p l e R s m args below meth c n0 P h k n pcY Ls st) (rN : x < (0 : Int32) → Run p l e R s m args below meth c n0 P h k n pc' Ls st) : Run p l e R s m args below meth c n0 P h k n pc Ls (.int x :: st) :=
  s_if C hd hp ho (fun h => rY (holds_ge.1 h)) (fun h => rN (holds_ge.2 h))
theorem s_icmp_ge (C : Ctx p l e R s m args below meth c Z own cd maxL ret nm) {o : Int} {x y : Int32} {pcY : Nat} (hd : decode cd pc = .ok (.if_icmp .ge o, 3)) (hp : pc + 3 = pc') (ho : (pc : Int) + o = (pcY : Int)) (rY : ¬ x < y → Run p l e R s m args below meth c n0 P h k n pcY Ls st) (rN : x < y → Run p l e R s m args below meth c n0 P h k n pc' Ls st) : Run p l e R s m args below meth c n0 P h k n pc Ls (.int y :: .int x :: st) :=
  s_icmp C hd hp ho (fun h => rY (holds_ge.1 h)) (fun h => rN (holds_ge.2 h))
theorem s_lc_ge (C : Ctx p l e R s m args below meth c Z own cd maxL ret nm) {o : Int} {x y : Int64} {pc1 pcY : Nat} (hd : decode cd pc = .ok (.lcmp, 1)) (hp1 : pc + 1 = pc1) (hd2 : decode cd pc1 = .ok (.ifCond .ge o, 3)) (hp : pc1 + 3 = pc') (ho : (pc1 : Int) + o = (pcY : Int)) (rY : ¬ x < y → Run p l e R s m args below meth c n0 P h k n pcY Ls st) (rN : x < y → Run p l e R s m args below meth c n0 P h k n pc' Ls st) : Run p l e R s m args below meth c n0 P h k n pc Ls (.long y :: .long x :: st) :=
  s_lcmp C hd hp1 (s_if_ge C hd2 hp ho (fun h => rY (fun q => h ((lw_lt x y).mpr q))) (fun h => rN ((lw_lt x y).mp h)))
theorem s_if_gt (C : Ctx p l e R s m args below meth c Z own cd maxL ret nm) {o : Int} {x : Int32} {pcY : Nat} (hd : decode cd pc = .ok (.ifCond .gt o, 3)) (hp : pc + 3 = pc') (ho : (pc : Int) + o = (pcY : Int)) (rY : (0 : Int32) < x → Run p l e R s m args below meth c n0 P h k n pcY Ls st) (rN : ¬ (0 : Int32) < x → Run p l e R s m args below meth c n0 P h k n pc' Ls st) : Run p l e R s m args below meth c n0 P h k n pc Ls (.int x :: st) :=
  s_if C hd hp ho (fun h => rY (holds_gt.1 h)) (fun h => rN (holds_gt.2 h))
theorem s_icmp_gt (C : Ctx p l e R s m args below meth c Z own cd maxL ret nm) {o : Int} {x y : Int32} {pcY : Nat} (hd : decode cd pc = .ok (.if_icmp .gt o, 3)) (hp : pc + 3 = pc') (ho : (pc : Int) + o = (pcY : Int)) (rY : y < x → Run p l e R s m args below meth c n0 P h k n pcY Ls st) (rN : ¬ y < x → Run p l e R s m args below meth c n0 P h k n pc' Ls st) : Run p l e R s m args below meth c n0 P h k n pc Ls (.int y :: .int x :: st) :=
  s_icmp C hd hp ho (fun h => rY (holds_gt.1 h)) (fun h => rN (holds_gt.2 h))
theorem s_lc_gt (C : Ctx p l e R s m args below meth c Z own cd maxL ret nm) {o : Int} {x y : Int64} {pc1 pcY : Nat} (hd : decode cd pc = .ok (.lcmp, 1)) (hp1 : pc + 1 = pc1) (hd2 : decode cd pc1 = .ok (.ifCond .gt o, 3)) (hp : pc1 + 3 = pc') (ho : (pc1 : Int) + o = (pcY : Int)) (rY : y < x → Run p l e R s m args below meth c n0 P h k n pcY Ls st) (rN : ¬ y < x → Run p l e R s m args below meth c n0 P h k n pc' Ls st) : Run p l e R s m args below meth c n0 P h k n pc Ls (.long y :: .long x :: st) :=
  s_lcmp C hd hp1 (s_if_gt C hd2 hp ho (fun h => rY ((lw_gt x y).mp h)) (fun h => rN (fun q => h ((lw_gt x y).mpr q))))
theorem s_if_le (C : Ctx p l e R s m args below meth c Z own cd maxL ret nm) {o : Int} {x : Int32} {pcY : Nat} (hd : decode cd pc = .ok (.ifCond .le o, 3)) (hp : pc + 3 = pc') (ho : (pc : Int) + o = (pcY : Int)) (rY : ¬ (0 : Int32) < x → Run p l e R s m args below meth c n0 P h k n pcY Ls st) (rN : (0 : Int32) < x → Run p l e R s m args below meth c n0 P h k n pc' Ls st) : Run p l e R s m args below meth c n0 P h k n pc Ls (.int x :: st) :=
  s_if C hd hp ho (fun h => rY (holds_le.1 h)) (fun h => rN (holds_le.2 h))
theorem s_icmp_le (C : Ctx p l e R s m args below meth c Z own cd maxL ret nm) {o : Int} {x y : Int32} {pcY : Nat} (hd : decode cd pc = .ok (.if_icmp .le o, 3)) (hp : pc + 3 = pc') (ho : (pc : Int) + o = (pcY : Int)) (rY : ¬ y < x → Run p l e R s m args below meth c n0 P h k n pcY Ls st) (rN : y < x → Run p l e R s m args below meth c n0 P h k n pc' Ls st) : Run p l e R s m args below meth c n0 P h k n pc Ls (.int y :: .int x :: st) :=
  s_icmp C hd hp ho (fun h => rY (holds_le.1 h)) (fun h => rN (holds_le.2 h))
theorem s_lc_le (C : Ctx p l e R s m args below meth c Z own cd maxL ret nm) {o : Int} {x y : Int64} {pc1 pcY : Nat} (hd : decode cd pc = .ok (.lcmp, 1)) (hp1 : pc + 1 = pc1) (hd2 : decode cd pc1 = .ok (.ifCond .le o, 3)) (hp : pc1 + 3 = pc') (ho : (pc1 : Int) + o = (pcY : Int)) (rY : ¬ y < x → Run p l e R s m args below meth c n0 P h k n pcY Ls st) (rN : y < x → Run p l e R s m args below meth c n0 P h k n pc' Ls st) : Run p l e R s m args below meth c n0 P h k n pc Ls (.long y :: .long x :: st) :=
  s_lcmp C hd hp1 (s_if_le C hd2 hp ho (fun h => rY (fun q => h ((lw_gt x y).mpr q))) (fun h => rN ((lw_gt x y).mp h)))
theorem s_if_eq (C : Ctx p l e R s m args below meth c Z own cd maxL ret nm) {o : Int} {x : Int32} {pcY : Nat} (hd : decode cd pc = .ok (.ifCond .eq o, 3)) (hp : pc + 3 = pc') (ho : (pc : Int) + o = (pcY : Int)) (rY : x = (0 : Int32) → Run p l e R s m args below meth c n0 P h k n pcY Ls st) (rN : ¬ x = (0 : Int32) → Run p l e R s m args below meth c n0 P h k n pc' Ls st) : Run p l e R s m args below meth c n0 P h k n pc Ls (.int x :: st) :=
  s_if C hd hp ho (fun h => rY (holds_eq.1 h)) (fun h => rN (holds_eq.2 h))
theorem s_icmp_eq (C : Ctx p l e R s m args below meth c Z own cd maxL ret nm) {o : Int} {x y : Int32} {pcY : Nat} (hd : decode cd pc = .ok (.if_icmp .eq o, 3)) (hp : pc + 3 = pc') (ho : (pc : Int) + o = (pcY : Int)) (rY : x = y → Run p l e R s m args below meth c n0 P h k n pcY Ls st) (rN : ¬ x = y → Run p l e R s m args below meth c n0 P h k n pc' Ls st) : Run p l e R s m args below meth c n0 P h k n pc Ls (.int y :: .int x :: st) :=
  s_icmp C hd hp ho (fun h => rY (holds_eq.1 h)) (fun h => rN (holds_eq.2 h))
theorem s_lc_eq (C : Ctx p l e R s m args below meth c Z own cd maxL ret nm) {o : Int} {x y : Int64} {pc1 pcY : Nat} (hd : decode cd pc = .ok (.lcmp, 1)) (hp1 : pc + 1 = pc1) (hd2 : decode cd pc1 = .ok (.ifCond .eq o, 3)) (hp : pc1 + 3 = pc') (ho : (pc1 : Int) + o = (pcY : Int)) (rY : x = y → Run p l e R s m args below meth c n0 P h k n pcY Ls st) (rN : ¬ x = y → Run p l e R s m args below meth c n0 P h k n pc' Ls st) : Run p l e R s m args below meth c n0 P h k n pc Ls (.long y :: .long x :: st) :=
  s_lcmp C hd hp1 (s_if_eq C hd2 hp ho (fun h => rY ((lw_eq x y).mp h)) (fun h => rN (fun q => h ((lw_eq x y).mpr q))))
theorem s_if_ne (C : Ctx p l e R s m args below meth c Z own cd maxL ret nm) {o : Int} {x : Int32} {pcY : Nat} (hd : decode cd pc = .ok (.ifCond .ne o, 3)) (hp : pc + 3 = pc') (ho : (pc : Int) + o = (pcY : Int)) (rY : ¬ x = (0 : Int32) → Run p l e R s m args below meth c n0 P h k n pcY Ls st) (rN : x = (0 : Int32) → Run p l e R s m args below meth c n0 P h k n pc' Ls st) : Run p l e R s m args below meth c n0 P h k n pc Ls (.int x :: st) :=
  s_if C hd hp ho (fun h => rY (holds_ne.1 h)) (fun h => rN (holds_ne.2 h))
theorem s_icmp_ne (C : Ctx p l e R s m args below meth c Z own cd maxL ret nm) {o : Int} {x y : Int32} {pcY : Nat} (hd : decode cd pc = .ok (.if_icmp .ne o, 3)) (hp : pc + 3 = pc') (ho : (pc : Int) + o = (pcY : Int)) (rY : ¬ x = y → Run p l e R s m args below meth c n0 P h k n pcY Ls st) (rN : x = y → Run p l e R s m args below meth c n0 P h k n pc' Ls st) : Run p l e R s m args below meth c n0 P h k n pc Ls (.int y :: .int x :: st) :=
  s_icmp C hd hp ho (fun h => rY (holds_ne.1 h)) (fun h => rN (holds_ne.2 h))
theorem s_lc_ne (C : Ctx p l e R s m args below meth c Z own cd maxL ret nm) {o : Int} {x y : Int64} {pc1 pcY : Nat} (hd : decode cd pc = .ok (.lcmp, 1)) (hp1 : pc + 1 = pc1) (hd2 : decode cd pc1 = .ok (.ifCond .ne o, 3)) (hp : pc1 + 3 = pc') (ho : (pc1 : Int) + o = (pcY : Int)) (rY : ¬ x = y → Run p l e R s m args below meth c n0 P h k n pcY Ls st) (rN : x = y → Run p l e R s m args below meth c n0 P h k n pc' Ls st) : Run p l e R s m args below meth c n0 P h k n pc Ls (.long y :: .long x :: st) :=
  s_lcmp C hd hp1 (s_if_ne C hd2 hp ho (fun h => rY (fun q => h ((lw_eq x y).mpr q))) (fun h => rN ((lw_eq x y).mp h)))
theorem s_ifnullR (C : Ctx p l e R s m args below meth c Z own cd maxL ret nm) {o : Int} {b : Addr} (hd : decode cd pc = .ok (.ifnull o, 3)) (hp : pc + 3 = pc') (r : Run p l e R s m args below meth c n0 P h k n pc' Ls st) : Run p l e R s m args below meth c n0 P h k n pc Ls (.ref b :: st) := by
  subst hp; exact Run.pure (fun T locs X _ t z => XS.ifnullNo X.here C.1 rfl (hb C.2.2.1 hd) rfl z) r
theorem s_ifnullN (C : Ctx p l e R s m args below meth c Z own cd maxL ret nm) {o : Int} (hd : decode cd pc = .ok (.ifnull o, 3)) (hp : (pc : Int) + o = (pc' : Int)) (r : Run p l e R s m args below meth c n0 P h k n pc' Ls st) : Run p l e R s m args below meth c n0 P h k n pc Ls (.null :: st) :=
  Run.pure (fun T locs X _ t z => XS.ifnullYes X.here C.1 rfl (pc0 := pc) rfl (hb C.2.2.1 hd) rfl (by omega) (by omega) z) r
theorem s_ifnonnullR (C : Ctx p l e R s m args below meth c Z own cd maxL ret nm) {o : Int} {b : Addr} (hd : decode cd pc = .ok (.ifnonnull o, 3)) (hp : (pc : Int) + o = (pc' : Int)) (r : Run p l e R s m args below meth c n0 P h k n pc' Ls st) : Run p l e R s m args below meth c n0 P h k n pc Ls (.ref b :: st) :=
  Run.pure (fun T locs X _ t z => XS.ifnonnullYes X.here C.1 rfl (pc0 := pc) rfl (hb C.2.2.1 hd) rfl (by omega) (by omega) z) r
theorem s_ifnonnullN (C : Ctx p l e R s m args below meth c Z own cd maxL ret nm) {o : Int} (hd : decode cd pc = .ok (.ifnonnull o, 3)) (hp : pc + 3 = pc') (r : Run p l e R s m args below meth c n0 P h k n pc' Ls st) : Run p l e R s m args below meth c n0 P h k n pc Ls (.null :: st) := by
  subst hp; exact Run.pure (fun T locs X _ t z => XS.ifnonnullNo X.here C.1 rfl (hb C.2.2.1 hd) rfl z) r
theorem s_acmp (C : Ctx p l e R s m args below meth c Z own cd maxL ret nm) {cc : ClassFile.ACond} {o : Int} {x y : Value} {same : Bool} (hd : decode cd pc = .ok (.if_acmp cc o, 3)) (h1 : x.isRef = true) (h2 : y.isRef = true) (hq : decide (x = y) = same) (ho : 0 ≤ (pc : Int) + o) (hp : pc' = if acV cc same = true then ((pc : Int) + o).toNat else pc + 3) (r : Run p l e R s m args below meth c n0 P h k n pc' Ls st) : Run p l e R s m args below meth c n0 P h k n pc Ls (y :: x :: st) :=
  Run.pure (fun T locs X _ t z => Jvm.RoadKit.acmp (g := mkF m pc Ls (y :: x :: st)) X C.1 rfl h1 h2 rfl (hb C.2.2.1 hd) rfl hq ho hp z) r
/-! returns -/
theorem Run.out {v : Option Value} (C : Ctx p l e R s m args below meth c Z own cd maxL ret nm) (hv : ret = none → v = none) (f : ∀ T locs, Stand p l e R s m args below meth c T locs k n → ∀ fs, (∀ (f : JFrame) (acts : List Action), f.method = m → f.locked = none → f.entered = [] → (doReturn e (T.setTop f) acts v).1 = T.setFrames fs) → Steps p.tables e below (T.setTop (mkF m pc Ls st)) (T.setFrames fs)) (hk : k ≤ R.cells) (hn : n ≤ R.slots) (hP : P v h) : Run p l e R s m args below meth c n0 P h k n pc Ls st := fun T locs X eT N => by
  obtain ⟨fs, hr, hrun, hended, hW, hsame⟩ := X.leave (v := v) (fun h => hv (C.2.2.2.2.2.1 ▸ h)) C.2.2.2.2.2.2.1
  exact ⟨_, _, f T locs X fs hr, hrun, hended, _, _, rfl, ⟨(by rw [show (T.setFrames fs).heap = h from eT]; exact hP), N⟩, ⟨_, rfl⟩, hW, hsame.mono hk hn⟩
theorem s_retI {Q : Int32 → Heap → Prop} (C : Ctx p l e R s m args below meth c Z own cd maxL (some .int) nm) {z : Int32} (hd : decode cd pc = .ok (.ireturn, 1)) (hk : k ≤ R.cells) (hn : n ≤ R.slots) (hQ : Q z h) : Run p l e R s m args below meth c n0 (RetI Q) h k n pc Ls (.int z :: st) :=
  Run.out C (fun h => by cases h) (fun T locs X fs hr => retOut X C.1 C.2.2.2.2.2.1 rfl (Or.inl ⟨rfl, Or.inl rfl, _, rfl⟩) (hb C.2.2.1 hd) hr) hk hn ⟨_, rfl, hQ⟩
theorem s_retN {Q : Int32 → Heap → Prop} {t : FieldType} (C : Ctx p l e R s m args below meth c Z own cd maxL (some t) nm) (ht : t = .boolean ∨ t = .byte ∨ t = .char ∨ t = .short) {z : Int32} (hd : decode cd pc = .ok (.ireturn, 1)) (hk : k ≤ R.cells) (hn : n ≤ R.slots) (hQ : Q (nar t z) h) : Run p l e R s m args below meth c n0 (RetI Q) h k n pc Ls (.int z :: st) :=
  Run.out C (fun h => by cases h) (fun T locs X fs hr => retN X C.1 C.2.2.2.2.2.1 ht (hb C.2.2.1 hd) hr) hk hn ⟨_, rfl, hQ⟩
theorem s_retL {Q : Int64 → Heap → Prop} (C : Ctx p l e R s m args below meth c Z own cd maxL (some .long) nm) {z : Int64} (hd : decode cd pc = .ok (.lreturn, 1)) (hk : k ≤ R.cells) (hn : n ≤ R.slots) (hQ : Q z h) : Run p l e R s m args below meth c n0 (RetL Q) h k n pc Ls (.long z :: st) :=
  Run.out C (fun h => by cases h) (fun T locs X fs hr => retOut X C.1 C.2.2.2.2.2.1 rfl (Or.inr (Or.inl ⟨rfl, rfl, _, rfl⟩)) (hb C.2.2.1 hd) hr) hk hn ⟨_, rfl, hQ⟩
theorem s_retA {Q : Value → Heap → Prop} {t : FieldType} (C : Ctx p l e R s m args below meth c Z own cd maxL (some t) nm) (ht : t.isReference = true) {v : Value} (hv : v.isRef = true) (hn' : narrow t v = v) (hd : decode cd pc = .ok (.areturn, 1)) (hk : k ≤ R.cells) (hn : n ≤ R.slots) (hQ : Q v h) : Run p l e R s m args below meth c n0 (RetV Q) h k n pc Ls (v :: st) :=
  Run.out C (fun h => by cases h) (fun T locs X fs hr => retOut X C.1 C.2.2.2.2.2.1 hn' (Or.inr (Or.inr (Or.inr (Or.inr ⟨rfl, ht, hv⟩)))) (hb C.2.2.1 hd) hr) hk hn ⟨_, rfl, hQ⟩
theorem s_ret0 {Q : Heap → Prop} (C : Ctx p l e R s m args below meth c Z own cd maxL none nm) (hd : decode cd pc = .ok (.return_, 1)) (hk : k ≤ R.cells) (hn : n ≤ R.slots) (hQ : Q h) : Run p l e R s m args below meth c n0 (Ret0 Q) h k n pc Ls [] :=
  Run.out C (fun _ => rfl) (fun T locs X fs hr => X.returnOut C.1 C.2.2.2.2.2.1 (hb C.2.2.1 hd) hr) hk hn ⟨rfl, hQ⟩
/-! fields, objects -/
theorem s_getF (C : Ctx p l e R s m args below meth c Z own cd maxL ret nm) {O f d : String} {i : Nat} {a : Addr} {v : Value} (hd : decode cd pc = .ok (.getfield i, 3)) (hp : pc + 3 = pc') (w : (Jvm.Cond.fieldLink own i O f d).before a0 Z = true) (F : Fld Z h a O f d v) (r : Run p l e R s m args below meth c n0 P h k n pc' Ls (v :: st)) : Run p l e R s m args below meth c n0 P h k n pc Ls (.ref a :: st) := by
  subst hp; exact Run.warm (fun T locs X eT => getF X C.1 C.2.1 C.2.2.2.2.1 (host := "") (Or.inl w) Via.refl eT F (g := mkF m pc Ls (.ref a :: st)) rfl rfl (hb C.2.2.1 hd)) r
theorem s_getS (C : Ctx p l e R s m args below meth c Z own cd maxL ret nm) {O f d : String} {i : Nat} {v : Value} (hd : decode cd pc = .ok (.getstatic i, 3)) (hp : pc + 3 = pc') (w : (Jvm.Cond.fieldLink own i O f d).before a0 Z = true) (F : Sta Z h O f d v) (r : Run p l e R s m args below meth c n0 P h k n pc' Ls (v :: st)) : Run p l e R s m args below meth c n0 P h k n pc Ls st := by
  subst hp; exact Run.warm (fun T locs X eT => getS (host := "") X C.1 C.2.1 C.2.2.2.2.1 w Via.refl eT F (g := mkF m pc Ls st) rfl (hb C.2.2.1 hd)) r
theorem s_putF (C : Ctx p l e R s m args below meth c Z own cd maxL ret nm) {O f d K : String} {i kk : Nat} {a : Addr} {v old : Value} {ty : FieldType} (hd : decode cd pc = .ok (.putfield i, 3)) (hp : pc + 3 = pc') (w : (Jvm.Cond.fieldLink own i O f d).before a0 Z = true) (F : Fld Z h a O f d old) (E : Exa Z h a K)
    (L : (Jvm.Cond.lays K O f d).before a0 Z = true ∨ ((Jvm.Cond.laysFinal K O f d).before a0 Z = true ∧ own = O ∧ nm = "<init>")) (wi : (Jvm.Cond.instantiable K kk).before a0 Z = true) (hty : parseFieldDescriptor d = some ty) (hn : narrow ty v = v) (hf : fits ty v = true) (ha : n0 ≤ a)
    (r : ∀ h', Wr h h' a (Jvm.RoadKit.slotOf Z O f d) v → Run p l e R s m args below meth c n0 P h' k n pc' Ls st) : Run p l e R s m args below meth c n0 P h k n pc Ls (v :: .ref a :: st) := by
  subst hp
  intro T locs X eT N
  obtain ⟨T', h', X', e', W, q⟩ := putF X C.1 C.2.1 C.2.2.2.2.1 (host := "") (Or.inl w) Via.refl eT F E (L.imp id fun z => ⟨z.1, z.2.1, C.2.2.2.2.2.2.2.trans z.2.2⟩) wi hty hn hf (g := mkF m pc Ls (v :: .ref a :: st)) rfl rfl (hb C.2.2.1 hd)
  obtain ⟨s₂, o, z, r⟩ := r h' W T' _ X' e' (Fr.snoc X' N ha)
  exact ⟨s₂, o, q _ z, r⟩
theorem s_new (C : Ctx p l e R s m args below meth c Z own cd maxL ret nm) {K : String} {i sl k' n' : Nat} (hd : decode cd pc = .ok (.new i, 3)) (hp : pc + 3 = pc') (w : (Jvm.Cond.classLink own i K).before a0 Z = true) (wi : (Jvm.Cond.instantiable K sl).before a0 Z = true) (wz : (Jvm.Cond.initialized K).before a0 Z = true) (hk : k + 1 = k') (hk' : k' ≤ R.cells) (hn : n + sl = n') (hn' : n' ≤ R.slots)
    (r : ∀ h' a, Ext h h' → a = h.size → Exa Z h' a K → (∀ {O nm d : String} {ty : FieldType}, Laid Z a0 K O nm d → parseFieldDescriptor d = some ty → Fld Z h' a O nm d (defaultValue ty)) → Run p l e R s m args below meth c n0 P h' k' n' pc' Ls (.ref a :: st)) : Run p l e R s m args below meth c n0 P h k n pc Ls st := by
  subst hp hk hn
  intro T locs X eT N
  obtain ⟨T', h', X', e', E, A, D, -, q⟩ := newO X C.1 C.2.1 C.2.2.2.2.1 w wi wz eT (g := mkF m pc Ls st) rfl (hb C.2.2.1 hd) hk' hn'
  obtain ⟨s₂, o, z, r⟩ := r h' _ E rfl A D T' _ X' e' N
  exact ⟨s₂, o, q _ z, r⟩
theorem s_initO (C : Ctx p l e R s m args below meth c Z own cd maxL ret nm) {i W : Nat} {a : Addr} (hd : decode cd pc = .ok (.invokespecial i, 3)) (hp : pc + 3 = pc') (w1 : (Jvm.Cond.methodLink own i Lib.objectInit).before a0 Z = true) (w2 : (Jvm.Cond.instanceMethod Lib.objectInit).before a0 Z = true) (w3 : (Jvm.Cond.code Lib.objectInit ⟨#[0xb1]⟩ 1 none).before a0 Z = true) (hs : Ls.size = maxL) (hf : 1 ≤ R.frames) (hW : (st.map fun v => v.category).sum = W) (hl : W + 12 ≤ R.locals)
    (r : Run p l e R s m args below meth c n0 P h k n pc' Ls st) : Run p l e R s m args below meth c n0 P h k n pc Ls (.ref a :: st) := by
  subst hp; exact Run.warm (fun T locs X eT => initO X C.1 C.2.1 C.2.2.2.2.1 w1 w2 w3 eT (g := mkF m pc Ls (.ref a :: st)) rfl (by rw [C.2.2.2.1]; exact hs) rfl (hb C.2.2.1 hd) hf (W := W) (by show 2 * 0 + _ ≤ _; omega) hl) r
theorem s_cast (C : Ctx p l e R s m args below meth c Z own cd maxL ret nm) {K : String} {i : Nat} {a : Addr} (hd : decode cd pc = .ok (.checkcast i, 3)) (hp : pc + 3 = pc') (w : (Jvm.Cond.classLink own i K).before a0 Z = true) (F : Ins Z h a K true) (r : Run p l e R s m args below meth c n0 P h k n pc' Ls (.ref a :: st)) : Run p l e R s m args below meth c n0 P h k n pc Ls (.ref a :: st) := by
  subst hp; exact Run.warm (fun T locs X eT => castY X C.1 C.2.1 C.2.2.2.2.1 w eT F (g := mkF m pc Ls (.ref a :: st)) rfl rfl (hb C.2.2.1 hd)) r
theorem s_instY (C : Ctx p l e R s m args below meth c Z own cd maxL ret nm) {K : String} {i : Nat} {a : Addr} (hd : decode cd pc = .ok (.instanceof i, 3)) (hp : pc + 3 = pc') (w : (Jvm.Cond.classLink own i K).before a0 Z = true) (F : Ins Z h a K true) (r : Run p l e R s m args below meth c n0 P h k n pc' Ls (.int 1 :: st)) : Run p l e R s m args below meth c n0 P h k n pc Ls (.ref a :: st) := by
  subst hp; exact Run.warm (fun T locs X eT => instY X C.1 C.2.1 C.2.2.2.2.1 w eT F (g := mkF m pc Ls (.ref a :: st)) rfl rfl (hb C.2.2.1 hd)) r
/-! calls -/
theorem Met.back {y : MethodName} {bytes : ByteArray} {mL len W : Nat} {rt : Option FieldType} {rm : Room} {as : Array Value} {Q : Option Value → Heap → Prop} (M : Met l Z y bytes mL rt [] rm as h n0 Q) (hZ : Z.Warmed39 s.vm) (wc : (Jvm.Cond.code y bytes mL rt).before a0 Z = true) (wz : (Jvm.Cond.initialized y.cls).before a0 Z = true) (hf : rm.frames + 1 ≤ R.frames) (hl : W + (mL + 11) + rm.locals ≤ R.locals) :
    Back l R p e below s args y len W (fun A a => a = as ∧ A.U.heap = h ∧ A.cells + rm.cells ≤ R.cells ∧ A.slots + rm.slots ≤ R.slots) (fun A _ v B => ∃ L, (Q v B.U.heap ∧ Fr n0 L) ∧ B.locs = A.locs ++ L ∧ B.cells = A.cells + rm.cells ∧ B.slots = A.slots + rm.slots) :=
  backOf (Q := fun v h L => Q v h ∧ Fr n0 L) M hZ wc wz hf hl
theorem s_callS (C : Ctx p l e R s m args below meth c Z own cd maxL ret nm) {y : MethodName} {bytes : ByteArray} {mL i W k' n' : Nat} {rt : Option FieldType} {rm : Room} {Q : Option Value → Heap → Prop} (hd : decode cd pc = .ok (.invokestatic i, 3)) (hp : pc + 3 = pc') (wl : (Jvm.Cond.methodLink own i y).before a0 Z = true) (ws : (Jvm.Cond.static y).before a0 Z = true) (wz : (Jvm.Cond.initialized y.cls).before a0 Z = true) (wc : (Jvm.Cond.code y bytes mL rt).before a0 Z = true) (hy : y.cls ≠ "java/lang/invoke/MethodHandle" ∧ y.cls ≠ "java/lang/invoke/VarHandle") (as rest : List Value) {ps : List FieldType} {rr : Option FieldType} (hdes : parseMethodDescriptor y.desc = some ⟨ps, rr⟩) (hlen : as.length = ps.length) (hst : st = as.reverse ++ rest)
    (M : Met l Z y bytes mL rt [] rm as.toArray h n0 Q) (hs : Ls.size = maxL) (hW : (rest.map fun v => v.category).sum = W) (hf : rm.frames + 1 ≤ R.frames) (hl : W + (mL + 11) + rm.locals ≤ R.locals) (hk : k + rm.cells = k') (hk' : k' ≤ R.cells) (hn : n + rm.slots = n') (hn' : n' ≤ R.slots)
    (r : ∀ v h', Q v h' → Run p l e R s m args below meth c n0 P h' k' n' pc' Ls (v.toList ++ rest)) : Run p l e R s m args below meth c n0 P h k n pc Ls st := by
  subst hp hk hn hst
  intro T locs X eT N
  obtain ⟨v, _, ⟨T', L', k', n'⟩, -, X', ⟨Lc, ⟨hQ, N'⟩, l', y', z'⟩, q⟩ := Jvm.LawKit.callS X C.1 (y := y) C.2.2.2.2.1 (mvT C.2.1 wl) (mvT C.2.1 ws) (mvT C.2.1 wz) (mvT C.2.1 wc) hy (M.back (W := W) C.2.1 wc wz hf hl) (g := mkF m pc Ls (as.reverse ++ rest)) rfl (by rw [C.2.2.2.1]; exact hs) (argsL := as) (rest := rest) (lenOf hdes hlen) rfl (by show 2 * 0 + _ ≤ _; omega) (hb C.2.2.1 hd) (fun _ _ => ⟨rfl, eT, hk', hn'⟩)
  dsimp only [Pt.U, Pt.locs, Pt.cells, Pt.slots] at X' l' y' z' q hQ
  subst l' y' z'
  obtain ⟨s₂, o, z, r⟩ := r v _ hQ T' _ X' rfl (Fr.app N N')
  exact ⟨s₂, o, q _ z, r⟩
theorem s_callV (C : Ctx p l e R s m args below meth c Z own cd maxL ret nm) {y z : MethodName} {K : String} {bytes : ByteArray} {mL i W k' n' : Nat} {rt : Option FieldType} {rm : Room} {b : Addr} {Q : Option Value → Heap → Prop} (hd : decode cd pc = .ok (.invokevirtual i, 3)) (hp : pc + 3 = pc') (wl : (Jvm.Cond.methodLink own i y).before a0 Z = true) (wd : (Jvm.Cond.declares y).before a0 Z = true) (hnf : NotFace s y) (wsel : (Jvm.Cond.selects K y z).before a0 Z = true) (wi : (Jvm.Cond.instanceMethod z).before a0 Z = true) (wz : (Jvm.Cond.initialized z.cls).before a0 Z = true) (wc : (Jvm.Cond.code z bytes mL rt).before a0 Z = true) (hy : y.cls ≠ "java/lang/invoke/MethodHandle" ∧ y.cls ≠ "java/lang/invoke/VarHandle") (E : Exa Z h b K) (as rest : List Value) {ps : List FieldType} {rr : Option FieldType} (hdes : parseMethodDescriptor y.desc = some ⟨ps, rr⟩) (hlen : as.length = ps.length) (hst : st = as.reverse ++ .ref b :: rest)
    (M : Met l Z z bytes mL rt [] rm (.ref b :: as).toArray h n0 Q) (hs : Ls.size = maxL) (hW : (rest.map fun v => v.category).sum = W) (hf : rm.frames + 1 ≤ R.frames) (hl : W + (mL + 11) + rm.locals ≤ R.locals) (hk : k + rm.cells = k') (hk' : k' ≤ R.cells) (hn : n + rm.slots = n') (hn' : n' ≤ R.slots)
    (r : ∀ v h', Q v h' → Run p l e R s m args below meth c n0 P h' k' n' pc' Ls (v.toList ++ rest)) : Run p l e R s m args below meth c n0 P h k n pc Ls st := by
  subst hp hk hn hst
  intro T locs X eT N
  obtain ⟨cq, kq, qa, qb, qc⟩ := isOf C.2.1 eT E
  obtain ⟨v, _, ⟨T', L', k', n'⟩, -, X', ⟨Lc, ⟨hQ, N'⟩, l', y', z'⟩, q⟩ := X.virtualBack C.1 (y := y) (z := z) C.2.2.2.2.1 (mvT C.2.1 wl) (mvT C.2.1 wd) hnf (mvT C.2.1 wsel) (mvT C.2.1 wi) hy (M.back (W := W) C.2.1 wc wz hf hl) qa qc (g := mkF m pc Ls (as.reverse ++ .ref b :: rest)) rfl (by rw [C.2.2.2.1]; exact hs) (Steps.refl _) (argsL := as) (rest := rest) (lenOf hdes hlen) rfl (by show 2 * 0 + _ ≤ _; omega) (hb C.2.2.1 hd) (fun _ _ => ⟨rfl, eT, hk', hn'⟩)
  dsimp only [Pt.U, Pt.locs, Pt.cells, Pt.slots] at X' l' y' z' q hQ
  subst l' y' z'
  obtain ⟨s₂, o, z, r⟩ := r v _ hQ T' _ X' rfl (Fr.app N N')
  exact ⟨s₂, o, q.trans z, r⟩
theorem s_callI (C : Ctx p l e R s m args below meth c Z own cd maxL ret nm) {y : MethodName} {bytes : ByteArray} {mL i W k' n' : Nat} {rm : Room} {b : Addr} {Q : Heap → Prop} (hd : decode cd pc = .ok (.invokespecial i, 3)) (hp : pc + 3 = pc') (wl : (Jvm.Cond.methodLink own i y).before a0 Z = true) (hy1 : y.name = "<init>") (wi : (Jvm.Cond.instanceMethod y).before a0 Z = true) (wz : (Jvm.Cond.initialized y.cls).before a0 Z = true) (wc : (Jvm.Cond.code y bytes mL none).before a0 Z = true) (hy : y.cls ≠ "java/lang/invoke/MethodHandle" ∧ y.cls ≠ "java/lang/invoke/VarHandle") (as rest : List Value) {ps : List FieldType} {rr : Option FieldType} (hdes : parseMethodDescriptor y.desc = some ⟨ps, rr⟩) (hlen : as.length = ps.length) (hst : st = as.reverse ++ .ref b :: rest)
    (M : Met l Z y bytes mL none [] rm (.ref b :: as).toArray h n0 (Ret0 Q)) (hs : Ls.size = maxL) (hW : (rest.map fun v => v.category).sum = W) (hf : rm.frames + 1 ≤ R.frames) (hl : W + (mL + 11) + rm.locals ≤ R.locals) (hk : k + rm.cells = k') (hk' : k' ≤ R.cells) (hn : n + rm.slots = n') (hn' : n' ≤ R.slots)
    (r : ∀ h', Q h' → Run p l e R s m args below meth c n0 P h' k' n' pc' Ls rest) : Run p l e R s m args below meth c n0 P h k n pc Ls st := by
  subst hp hk hn hst
  intro T locs X eT N
  obtain ⟨v, _, ⟨T', L', k', n'⟩, -, X', ⟨Lc, ⟨⟨rfl, hQ⟩, N'⟩, l', y', z'⟩, q⟩ := X.specialBack C.1 (y := y) hy1 C.2.2.2.2.1 (mvT C.2.1 wl) (mvT C.2.1 wi) (mvT C.2.1 wc) hy (M.back (W := W) C.2.1 wc wz hf hl) (g := mkF m pc Ls (as.reverse ++ .ref b :: rest)) rfl (by rw [C.2.2.2.1]; exact hs) (Steps.refl _) (a := b) (argsL := as) (rest := rest) (lenOf hdes hlen) rfl (by show 2 * 0 + _ ≤ _; omega) (hb C.2.2.1 hd) (fun _ _ => ⟨rfl, eT, hk', hn'⟩)
  dsimp only [Pt.U, Pt.locs, Pt.cells, Pt.slots] at X' l' y' z' q hQ
  subst l' y' z'
  obtain ⟨s₂, o, z, r⟩ := r _ hQ T' _ X' rfl (Fr.app N N')
  exact ⟨s₂, o, q.trans z, r⟩
theorem s_callSI (C : Ctx p l e R s m args below meth c Z own cd maxL ret nm) {y : MethodName} {bytes : ByteArray} {mL i W k' n' : Nat} {rt : Option FieldType} {rm : Room} {Q : Int32 → Heap → Prop} (hd : decode cd pc = .ok (.invokestatic i, 3)) (hp : pc + 3 = pc') (wl : (Jvm.Cond.methodLink own i y).before a0 Z = true) (ws : (Jvm.Cond.static y).before a0 Z = true) (wz : (Jvm.Cond.initialized y.cls).before a0 Z = true) (wc : (Jvm.Cond.code y bytes mL rt).before a0 Z = true) (hy : y.cls ≠ "java/lang/invoke/MethodHandle" ∧ y.cls ≠ "java/lang/invoke/VarHandle") (as rest : List Value) {ps : List FieldType} {rr : Option FieldType} (hdes : parseMethodDescriptor y.desc = some ⟨ps, rr⟩) (hlen : as.length = ps.length) (hst : st = as.reverse ++ rest)
    (M : Met l Z y bytes mL rt [] rm as.toArray h n0 (RetI Q)) (hs : Ls.size = maxL) (hW : (rest.map fun v => v.category).sum = W) (hf : rm.frames + 1 ≤ R.frames) (hl : W + (mL + 11) + rm.locals ≤ R.locals) (hk : k + rm.cells = k') (hk' : k' ≤ R.cells) (hn : n + rm.slots = n') (hn' : n' ≤ R.slots)
    (r : ∀ (z : Int32) h', Q z h' → Run p l e R s m args below meth c n0 P h' k' n' pc' Ls ((.int z) :: rest)) : Run p l e R s m args below meth c n0 P h k n pc Ls st :=
  s_callS C hd hp wl ws wz wc hy as rest hdes hlen hst M hs hW hf hl hk hk' hn hn' (fun v h' q => by obtain ⟨z, rfl, q⟩ := q; exact r z h' q)
theorem s_callSL (C : Ctx p l e R s m args below meth c Z own cd maxL ret nm) {y : MethodName} {bytes : ByteArray} {mL i W k' n' : Nat} {rt : Option FieldType} {rm : Room} {Q : Int64 → Heap → Prop} (hd : decode cd pc = .ok (.invokestatic i, 3)) (hp : pc + 3 = pc') (wl : (Jvm.Cond.methodLink own i y).before a0 Z = true) (ws : (Jvm.Cond.static y).before a0 Z = true) (wz : (Jvm.Cond.initialized y.cls).before a0 Z = true) (wc : (Jvm.Cond.code y bytes mL rt).before a0 Z = true) (hy : y.cls ≠ "java/lang/invoke/MethodHandle" ∧ y.cls ≠ "java/lang/invoke/VarHandle") (as rest : List Value) {ps : List FieldType} {rr : Option FieldType} (hdes : parseMethodDescriptor y.desc = some ⟨ps, rr⟩) (hlen : as.length = ps.length) (hst : st = as.reverse ++ rest)
    (M : Met l Z y bytes mL rt [] rm as.toArray h n0 (RetL Q)) (hs : Ls.size = maxL) (hW : (rest.map fun v => v.category).sum = W) (hf : rm.frames + 1 ≤ R.frames) (hl : W + (mL + 11) + rm.locals ≤ R.locals) (hk : k + rm.cells = k') (hk' : k' ≤ R.cells) (hn : n + rm.slots = n') (hn' : n' ≤ R.slots)
    (r : ∀ (z : Int64) h', Q z h' → Run p l e R s m args below meth c n0 P h' k' n' pc' Ls ((.long z) :: rest)) : Run p l e R s m args below meth c n0 P h k n pc Ls st :=
  s_callS C hd hp wl ws wz wc hy as rest hdes hlen hst M hs hW hf hl hk hk' hn hn' (fun v h' q => by obtain ⟨z, rfl, q⟩ := q; exact r z h' q)
theorem s_callSA (C : Ctx p l e R s m args below meth c Z own cd maxL ret nm) {y : MethodName} {bytes : ByteArray} {mL i W k' n' : Nat} {rt : Option FieldType} {rm : Room} {Q : Value → Heap → Prop} (hd : decode cd pc = .ok (.invokestatic i, 3)) (hp : pc + 3 = pc') (wl : (Jvm.Cond.methodLink own i y).before a0 Z = true) (ws : (Jvm.Cond.static y).before a0 Z = true) (wz : (Jvm.Cond.initialized y.cls).before a0 Z = true) (wc : (Jvm.Cond.code y bytes mL rt).before a0 Z = true) (hy : y.cls ≠ "java/lang/invoke/MethodHandle" ∧ y.cls ≠ "java/lang/invoke/VarHandle") (as rest : List Value) {ps : List FieldType} {rr : Option FieldType} (hdes : parseMethodDescriptor y.desc = some ⟨ps, rr⟩) (hlen : as.length = ps.length) (hst : st = as.reverse ++ rest)
    (M : Met l Z y bytes mL rt [] rm as.toArray h n0 (RetV Q)) (hs : Ls.size = maxL) (hW : (rest.map fun v => v.category).sum = W) (hf : rm.frames + 1 ≤ R.frames) (hl : W + (mL + 11) + rm.locals ≤ R.locals) (hk : k + rm.cells = k') (hk' : k' ≤ R.cells) (hn : n + rm.slots = n') (hn' : n' ≤ R.slots)
    (r : ∀ (z : Value) h', Q z h' → Run p l e R s m args below meth c n0 P h' k' n' pc' Ls (z :: rest)) : Run p l e R s m args below meth c n0 P h k n pc Ls st :=
  s_callS C hd hp wl ws wz wc hy as rest hdes hlen hst M hs hW hf hl hk hk' hn hn' (fun v h' q => by obtain ⟨z, rfl, q⟩ := q; exact r z h' q)
theorem s_callS0 (C : Ctx p l e R s m args below meth c Z own cd maxL ret nm) {y : MethodName} {bytes : ByteArray} {mL i W k' n' : Nat} {rt : Option FieldType} {rm : Room} {Q : Heap → Prop} (hd : decode cd pc = .ok (.invokestatic i, 3)) (hp : pc + 3 = pc') (wl : (Jvm.Cond.methodLink own i y).before a0 Z = true) (ws : (Jvm.Cond.static y).before a0 Z = true) (wz : (Jvm.Cond.initialized y.cls).before a0 Z = true) (wc : (Jvm.Cond.code y bytes mL rt).before a0 Z = true) (hy : y.cls ≠ "java/lang/invoke/MethodHandle" ∧ y.cls ≠ "java/lang/invoke/VarHandle") (as rest : List Value) {ps : List FieldType} {rr : Option FieldType} (hdes : parseMethodDescriptor y.desc = some ⟨ps, rr⟩) (hlen : as.length = ps.length) (hst : st = as.reverse ++ rest)
    (M : Met l Z y bytes mL rt [] rm as.toArray h n0 (Ret0 Q)) (hs : Ls.size = maxL) (hW : (rest.map fun v => v.category).sum = W) (hf : rm.frames + 1 ≤ R.frames) (hl : W + (mL + 11) + rm.locals ≤ R.locals) (hk : k + rm.cells = k') (hk' : k' ≤ R.cells) (hn : n + rm.slots = n') (hn' : n' ≤ R.slots)
    (r : ∀ h', Q h' → Run p l e R s m args below meth c n0 P h' k' n' pc' Ls rest) : Run p l e R s m args below meth c n0 P h k n pc Ls st :=
  s_callS C hd hp wl ws wz wc hy as rest hdes hlen hst M hs hW hf hl hk hk' hn hn' (fun v h' q => by obtain ⟨rfl, q⟩ := q; exact r h' q)
theorem s_callVI (C : Ctx p l e R s m args below meth c Z own cd maxL ret nm) {y z : MethodName} {K : String} {bytes : ByteArray} {mL i W k' n' : Nat} {rt : Option FieldType} {rm : Room} {b : Addr} {Q : Int32 → Heap → Prop} (hd : decode cd pc = .ok (.invokevirtual i, 3)) (hp : pc + 3 = pc') (wl : (Jvm.Cond.methodLink own i y).before a0 Z = true) (wd : (Jvm.Cond.declares y).before a0 Z = true) (hnf : NotFace s y) (wsel : (Jvm.Cond.selects K y z).before a0 Z = true) (wi : (Jvm.Cond.instanceMethod z).before a0 Z = true) (wz : (Jvm.Cond.initialized z.cls).before a0 Z = true) (wc : (Jvm.Cond.code z bytes mL rt).before a0 Z = true) (hy : y.cls ≠ "java/lang/invoke/MethodHandle" ∧ y.cls ≠ "java/lang/invoke/VarHandle") (E : Exa Z h b K) (as rest : List Value) {ps : List FieldType} {rr : Option FieldType} (hdes : parseMethodDescriptor y.desc = some ⟨ps, rr⟩) (hlen : as.length = ps.length) (hst : st = as.reverse ++ .ref b :: rest)
    (M : Met l Z z bytes mL rt [] rm (.ref b :: as).toArray h n0 (RetI Q)) (hs : Ls.size = maxL) (hW : (rest.map fun v => v.category).sum = W) (hf : rm.frames + 1 ≤ R.frames) (hl : W + (mL + 11) + rm.locals ≤ R.locals) (hk : k + rm.cells = k') (hk' : k' ≤ R.cells) (hn : n + rm.slots = n') (hn' : n' ≤ R.slots)
    (r : ∀ (z : Int32) h', Q z h' → Run p l e R s m args below meth c n0 P h' k' n' pc' Ls ((.int z) :: rest)) : Run p l e R s m args below meth c n0 P h k n pc Ls st :=
  s_callV C hd hp wl wd hnf wsel wi wz wc hy E as rest hdes hlen hst M hs hW hf hl hk hk' hn hn' (fun v h' q => by obtain ⟨z, rfl, q⟩ := q; exact r z h' q)
theorem s_callVL (C : Ctx p l e R s m args below meth c Z own cd maxL ret nm) {y z : MethodName} {K : String} {bytes : ByteArray} {mL i W k' n' : Nat} {rt : Option FieldType} {rm : Room} {b : Addr} {Q : Int64 → Heap → Prop} (hd : decode cd pc = .ok (.invokevirtual i, 3)) (hp : pc + 3 = pc') (wl : (Jvm.Cond.methodLink own i y).before a0 Z = true) (wd : (Jvm.Cond.declares y).before a0 Z = true) (hnf : NotFace s y) (wsel : (Jvm.Cond.selects K y z).before a0 Z = true) (wi : (Jvm.Cond.instanceMethod z).before a0 Z = true) (wz : (Jvm.Cond.initialized z.cls).before a0 Z = true) (wc : (Jvm.Cond.code z bytes mL rt).before a0 Z = true) (hy : y.cls ≠ "java/lang/invoke/MethodHandle" ∧ y.cls ≠ "java/lang/invoke/VarHandle") (E : Exa Z h b K) (as rest : List Value) {ps : List FieldType} {rr : Option FieldType} (hdes : parseMethodDescriptor y.desc = some ⟨ps, rr⟩) (hlen : as.length = ps.length) (hst : st = as.reverse ++ .ref b :: rest)
    (M : Met l Z z bytes mL rt [] rm (.ref b :: as).toArray h n0 (RetL Q)) (hs : Ls.size = maxL) (hW : (rest.map fun v => v.category).sum = W) (hf : rm.frames + 1 ≤ R.frames) (hl : W + (mL + 11) + rm.locals ≤ R.locals) (hk : k + rm.cells = k') (hk' : k' ≤ R.cells) (hn : n + rm.slots = n') (hn' : n' ≤ R.slots)
    (r : ∀ (z : Int64) h', Q z h' → Run p l e R s m args below meth c n0 P h' k' n' pc' Ls ((.long z) :: rest)) : Run p l e R s m args below meth c n0 P h k n pc Ls st :=
  s_callV C hd hp wl wd hnf wsel wi wz wc hy E as rest hdes hlen hst M hs hW hf hl hk hk' hn hn' (fun v h' q => by obtain ⟨z, rfl, q⟩ := q; exact r z h' q)
theorem s_callVA (C : Ctx p l e R s m args below meth c Z own cd maxL ret nm) {y z : MethodName} {K : String} {bytes : ByteArray} {mL i W k' n' : Nat} {rt : Option FieldType} {rm : Room} {b : Addr} {Q : Value → Heap → Prop} (hd : decode cd pc = .ok (.invokevirtual i, 3)) (hp : pc + 3 = pc') (wl : (Jvm.Cond.methodLink own i y).before a0 Z = true) (wd : (Jvm.Cond.declares y).before a0 Z = true) (hnf : NotFace s y) (wsel : (Jvm.Cond.selects K y z).before a0 Z = true) (wi : (Jvm.Cond.instanceMethod z).before a0 Z = true) (wz : (Jvm.Cond.initialized z.cls).before a0 Z = true) (wc : (Jvm.Cond.code z bytes mL rt).before a0 Z = true) (hy : y.cls ≠ "java/lang/invoke/MethodHandle" ∧ y.cls ≠ "java/lang/invoke/VarHandle") (E : Exa Z h b K) (as rest : List Value) {ps : List FieldType} {rr : Option FieldType} (hdes : parseMethodDescriptor y.desc = some ⟨ps, rr⟩) (hlen : as.length = ps.length) (hst : st = as.reverse ++ .ref b :: rest)
    (M : Met l Z z bytes mL rt [] rm (.ref b :: as).toArray h n0 (RetV Q)) (hs : Ls.size = maxL) (hW : (rest.map fun v => v.category).sum = W) (hf : rm.frames + 1 ≤ R.frames) (hl : W + (mL + 11) + rm.locals ≤ R.locals) (hk : k + rm.cells = k') (hk' : k' ≤ R.cells) (hn : n + rm.slots = n') (hn' : n' ≤ R.slots)
    (r : ∀ (z : Value) h', Q z h' → Run p l e R s m args below meth c n0 P h' k' n' pc' Ls (z :: rest)) : Run p l e R s m args below meth c n0 P h k n pc Ls st :=
  s_callV C hd hp wl wd hnf wsel wi wz wc hy E as rest hdes hlen hst M hs hW hf hl hk hk' hn hn' (fun v h' q => by obtain ⟨z, rfl, q⟩ := q; exact r z h' q)
theorem s_callV0 (C : Ctx p l e R s m args below meth c Z own cd maxL ret nm) {y z : MethodName} {K : String} {bytes : ByteArray} {mL i W k' n' : Nat} {rt : Option FieldType} {rm : Room} {b : Addr} {Q : Heap → Prop} (hd : decode cd pc = .ok (.invokevirtual i, 3)) (hp : pc + 3 = pc') (wl : (Jvm.Cond.methodLink own i y).before a0 Z = true) (wd : (Jvm.Cond.declares y).before a0 Z = true) (hnf : NotFace s y) (wsel : (Jvm.Cond.selects K y z).before a0 Z = true) (wi : (Jvm.Cond.instanceMethod z).before a0 Z = true) (wz : (Jvm.Cond.initialized z.cls).before a0 Z = true) (wc : (Jvm.Cond.code z bytes mL rt).before a0 Z = true) (hy : y.cls ≠ "java/lang/invoke/MethodHandle" ∧ y.cls ≠ "java/lang/invoke/VarHandle") (E : Exa Z h b K) (as rest : List Value) {ps : List FieldType} {rr : Option FieldType} (hdes : parseMethodDescriptor y.desc = some ⟨ps, rr⟩) (hlen : as.length = ps.length) (hst : st = as.reverse ++ .ref b :: rest)
    (M : Met l Z z bytes mL rt [] rm (.ref b :: as).toArray h n0 (Ret0 Q)) (hs : Ls.size = maxL) (hW : (rest.map fun v => v.category).sum = W) (hf : rm.frames + 1 ≤ R.frames) (hl : W + (mL + 11) + rm.locals ≤ R.locals) (hk : k + rm.cells = k') (hk' : k' ≤ R.cells) (hn : n + rm.slots = n') (hn' : n' ≤ R.slots)
    (r : ∀ h', Q h' → Run p l e R s m args below meth c n0 P h' k' n' pc' Ls rest) : Run p l e R s m args below meth c n0 P h k n pc Ls st :=
  s_callV C hd hp wl wd hnf wsel wi wz wc hy E as rest hdes hlen hst M hs hW hf hl hk hk' hn hn' (fun v h' q => by obtain ⟨rfl, q⟩ := q; exact r h' q)
/-! arrays: exactly these values -/
def Av (Z : State) (h : Heap) (a : Addr) (ty : FieldType) (vs : List Value) : Prop := ∃ cl : Cell, Arr Z h a cl ty ∧ cl.slots = vs.toArray ∧ vs.length < 2 ^ 31 ∧ ∀ v ∈ vs, fits ty v = true
theorem Av.lt {h : Heap} {a : Addr} {ty : FieldType} {vs : List Value} (V : Av Z h a ty vs) : a < h.size := by obtain ⟨cl, A, -⟩ := V; exact A.lt
theorem Av.ext {h h' : Heap} {a : Addr} {ty : FieldType} {vs : List Value} (V : Av Z h a ty vs) (E : Ext h h') : Av Z h' a ty vs := by obtain ⟨cl, A, r⟩ := V; exact ⟨cl, A.ext E, r⟩
theorem Av.other {h h' : Heap} {a b : Addr} {ty : FieldType} {vs : List Value} {sl : Nat} {v : Value} (V : Av Z h b ty vs) (W : Wr h h' a sl v) (q : b ≠ a) : Av Z h' b ty vs := by obtain ⟨cl, A, r⟩ := V; exact ⟨cl, A.other W q, r⟩
theorem Av.keep {h h' : Heap} {a : Addr} {ty : FieldType} {vs : List Value} {ws : List Addr} (V : Av Z h a ty vs) (K : Keep h h' ws) (q : a ∉ ws) : Av Z h' a ty vs := by obtain ⟨cl, A, r⟩ := V; exact ⟨cl, ⟨K.2.1 a cl A.1 q, A.2⟩, r⟩
theorem Av.set {h h' : Heap} {a : Addr} {ty : FieldType} {vs : List Value} {i : Nat} {v : Value} (V : Av Z h a ty vs) (W : Wr h h' a i v) (hf : fits ty v = true) : Av Z h' a ty (vs.set i v) := by
  obtain ⟨cl, A, hs, hl, hq⟩ := V
  exact ⟨_, A.same W, by simp [Cell.setSlot, hs], by simpa using hl, fun u hu => (List.mem_or_eq_of_mem_set hu).elim (hq u) (fun e => e ▸ hf)⟩
theorem fits_default (ty : FieldType) : fits ty (defaultValue ty) = true := by cases ty <;> first | rfl | decide
theorem Av.new {h : Heap} {a : Addr} {cA : ClassId} {ty : FieldType} {z : Int32} (A : Arr Z h a (newA cA ty z) ty) : Av Z h a ty (List.replicate z.toNatClampNeg (defaultValue ty)) := ⟨_, A, by simp [newA], by rw [List.length_replicate]; have := z.toInt_lt; simp only [Int32.toNatClampNeg]; omega, fun v hv => (List.eq_of_mem_replicate hv) ▸ fits_default ty⟩
theorem getD_toArray (vs : List Value) (i : Nat) (dv : Value) (hi : i < vs.length) : vs.toArray[i]? = some (vs.getD i dv) := by
  simp [List.getD_eq_getElem?_getD, List.getElem?_eq_getElem hi]
theorem len32 {n : Nat} (h : n < 2 ^ 31) : n.toInt32.toNatClampNeg = n ∧ ¬ n.toInt32 < 0 := by
  have e : n.toInt32.toInt = n := len_toInt (by omega)
  constructor
  · simp [Int32.toNatClampNeg, e]
  · rw [Int32.lt_iff_toInt_lt, e]; simp only [Int32.reduceToInt]; omega
theorem Av.arv {h : Heap} {a : Addr} {ty : FieldType} {vs : List Value} (dv : Value) (V : Av Z h a ty vs) : ∃ k, Arv Z h a k ty vs.length.toInt32 vs dv := by
  obtain ⟨cl, A, hs, hl, hq⟩ := V
  have e := len32 hl
  refine ⟨cl.cls, cl, A, rfl, by rw [e.1, hs]; simp, e.2, fun i hi => ?_, fun i hi => ?_⟩
  · rw [hs] at hi ⊢; exact getD_toArray vs i dv (by simpa using hi)
  · rw [hs] at hi
    have hi' : i < vs.length := by simpa using hi
    rw [List.getD_eq_getElem?_getD, List.getElem?_eq_getElem hi']
    exact hq _ (List.getElem_mem hi')
theorem Av.of_arv {h : Heap} {a : Addr} {k : ClassId} {ty : FieldType} {z : Int32} {vs : List Value} {dv : Value} (V : Arv Z h a k ty z vs dv) (hl : vs.length = z.toNatClampNeg) : Av Z h a ty vs := by
  obtain ⟨cl, A, -, hs, hz, hh, hf⟩ := V
  have e : cl.slots.size = vs.length := by rw [hs, hl]
  refine ⟨cl, A, ?_, by have := z.toInt_lt; rw [hl]; simp only [Int32.toNatClampNeg]; omega, fun v hv => ?_⟩
  · apply Array.ext_getElem?
    intro i
    by_cases hi : i < vs.length
    · rw [hh i (by omega)]; exact (getD_toArray vs i dv hi).symm
    · rw [Array.getElem?_eq_none (by omega), Array.getElem?_eq_none (by simpa using hi)]
  · obtain ⟨i, hi, rfl⟩ := List.getElem_of_mem hv
    have q := hf i (by omega)
    rwa [List.getD_eq_getElem?_getD, List.getElem?_eq_getElem hi] at q
theorem idx_n {j : Int32} {i : Nat} (hi : j.toInt = (i : Int)) : j.toNatClampNeg = i ∧ ¬ j < 0 := by
  constructor
  · simp [Int32.toNatClampNeg, hi]
  · rw [Int32.lt_iff_toInt_lt, hi]; simp only [Int32.reduceToInt]; omega
theorem s_newarr (C : Ctx p l e R s m args below meth c Z own cd maxL ret nm) {aty : ArrayType} {z : Int32} {k' n' cap : Nat} (hd : decode cd pc = .ok (.newarray aty, 2)) (hp : pc + 2 = pc') (w : (Jvm.Cond.arrayClass (newarray.typeOf aty)).before a0 Z = true) (hz : ¬ z < 0) (hcap : z.toNatClampNeg ≤ cap) (hcb : cap * 8 ≤ 536870912) (hk : k + 1 = k') (hk' : k' ≤ R.cells) (hn : n + cap = n') (hn' : n' ≤ R.slots) (vs : List Value) (hvs : List.replicate z.toNatClampNeg (defaultValue (newarray.typeOf aty)) = vs)
    (r : ∀ h' a, Ext h h' → a = h.size → Av Z h' a (newarray.typeOf aty) vs → Run p l e R s m args below meth c n0 P h' k' n' pc' Ls (.ref a :: st)) : Run p l e R s m args below meth c n0 P h k n pc Ls (.int z :: st) := by
  subst hp hk hn hvs
  intro T locs X eT N
  obtain ⟨T', h', cA, X', e', E, A, q⟩ := newP X C.1 C.2.1 w eT (g := mkF m pc Ls (.int z :: st)) rfl (hb C.2.2.1 hd) rfl hz hcap hcb hk' hn'
  obtain ⟨s₂, o, z, r⟩ := r h' _ E rfl (Av.new A) T' _ X' e' N
  exact ⟨s₂, o, q _ z, r⟩
theorem s_newarrE (C : Ctx p l e R s m args below meth c Z own cd maxL ret nm) {aty : ArrayType} {z : Int32} {k' n' cap : Nat} (hd : decode cd pc = .ok (.newarray aty, 2)) (hp : pc + 2 = pc') (w : (Jvm.Cond.arrayClass (newarray.typeOf aty)).before a0 Z = true) (hz : ¬ z < 0) (hcap : z.toNatClampNeg ≤ cap) (hcb : cap * 8 ≤ 536870912) (hk : k + 1 = k') (hk' : k' ≤ R.cells) (hn : n + cap = n') (hn' : n' ≤ R.slots) (vs : List Value) (hvs : List.replicate z.toNatClampNeg (defaultValue (newarray.typeOf aty)) = vs) (ad : String) (had : "[" ++ (newarray.typeOf aty).toString = ad)
    (r : ∀ h' a, Ext h h' → a = h.size → Av Z h' a (newarray.typeOf aty) vs → Exa Z h' a ad → Run p l e R s m args below meth c n0 P h' k' n' pc' Ls (.ref a :: st)) : Run p l e R s m args below meth c n0 P h k n pc Ls (.int z :: st) := by
  subst hp hk hn hvs
  intro T locs X eT N
  obtain ⟨T', h', cA, X', e', E, A, Ex, q⟩ := newPE X C.1 C.2.1 w eT (g := mkF m pc Ls (.int z :: st)) rfl (hb C.2.2.1 hd) rfl hz hcap hcb hk' hn' had
  obtain ⟨s₂, o, z, r⟩ := r h' _ E rfl (Av.new A) Ex T' _ X' e' N
  exact ⟨s₂, o, q _ z, r⟩
theorem s_newref (C : Ctx p l e R s m args below meth c Z own cd maxL ret nm) {K : String} {i : Nat} {z : Int32} {k' n' cap : Nat} (hd : decode cd pc = .ok (.anewarray i, 3)) (hp : pc + 3 = pc') (w1 : (Jvm.Cond.classLink own i K).before a0 Z = true) (w2 : (Jvm.Cond.arrayOver (.object K)).before a0 Z = true) (hz : ¬ z < 0) (hcap : z.toNatClampNeg ≤ cap) (hcb : cap * 8 ≤ 536870912) (hk : k + 1 = k') (hk' : k' ≤ R.cells) (hn : n + cap = n') (hn' : n' ≤ R.slots) (vs : List Value) (hvs : List.replicate z.toNatClampNeg Value.null = vs)
    (r : ∀ h' a cA, Ext h h' → a = h.size → Av Z h' a (.object K) vs → Arr Z h' a (newA cA (.object K) z) (.object K) → Ovr Z cA K → Run p l e R s m args below meth c n0 P h' k' n' pc' Ls (.ref a :: st)) : Run p l e R s m args below meth c n0 P h k n pc Ls (.int z :: st) := by
  subst hp hk hn hvs
  intro T locs X eT N
  obtain ⟨T', h', cA, X', e', E, A, O, q⟩ := newR X C.1 C.2.1 C.2.2.2.2.1 w1 w2 eT (g := mkF m pc Ls (.int z :: st)) rfl (hb C.2.2.1 hd) rfl hz hcap hcb hk' hn'
  obtain ⟨s₂, o, z, r⟩ := r h' _ cA E rfl (Av.new A) A O T' _ X' e' N
  exact ⟨s₂, o, q _ z, r⟩
theorem s_foldI (C : Ctx p l e R s m args below meth c Z own cd maxL ret nm) {x y : Int32} (hx : x = y) (r : Run p l e R s m args below meth c n0 P h k n pc Ls (.int y :: st)) : Run p l e R s m args below meth c n0 P h k n pc Ls (.int x :: st) := hx ▸ r
theorem s_foldL (C : Ctx p l e R s m args below meth c Z own cd maxL ret nm) {x y : Int64} (hx : x = y) (r : Run p l e R s m args below meth c n0 P h k n pc Ls (.long y :: st)) : Run p l e R s m args below meth c n0 P h k n pc Ls (.long x :: st) := hx ▸ r
theorem s_arraycopy (C : Ctx p l e R s m args below meth c Z own cd maxL ret nm) {i W : Nat} {ty : FieldType} {a b : Addr} {vs vd : List Value} {sp dp nn : Int32} (hd : decode cd pc = .ok (.invokestatic i, 3)) (hp : pc + 3 = pc') (w1 : (Jvm.Cond.methodLink own i Jvm.Stand.acN).before a0 Z = true) (w2 : (Jvm.Cond.native Jvm.Stand.acN).before a0 Z = true) (w3 : (Jvm.Cond.static Jvm.Stand.acN).before a0 Z = true) (w4 : (Jvm.Cond.initialized "java/lang/System").before a0 Z = true) (A : Av Z h a ty vs) (B : Av Z h b ty vd) (hty : refKind ty = false) (si di ni : Nat) (h1 : sp.toInt = (si : Int)) (h2 : dp.toInt = (di : Int)) (h3 : nn.toInt = (ni : Int)) (h4 : si + ni ≤ vs.length) (h5 : di + ni ≤ vd.length) (ge : n0 ≤ b) (hs : Ls.size = maxL) (hf : 1 ≤ R.frames) (hW : (st.map fun v => v.category).sum = W) (hlo : W + (nativeFrameWords "java/lang/System" "arraycopy" 5 + 11) ≤ R.locals) (vd' : List Value) (hvd : vd.take di ++ (vs.drop si).take ni ++ vd.drop (di + ni) = vd')
    (r : ∀ h', Keep h h' [b] → Av Z h' b ty vd' → Run p l e R s m args below meth c n0 P h' k n pc' Ls st) : Run p l e R s m args below meth c n0 P h k n pc Ls (.int nn :: .int dp :: .ref b :: .int sp :: .ref a :: st) := by
  subst hp hvd
  obtain ⟨e1, g1⟩ := idx_n h1
  obtain ⟨e2, g2⟩ := idx_n h2
  obtain ⟨e3, g3⟩ := idx_n h3
  have la := A
  have lb := B
  obtain ⟨_, -, -, la, -⟩ := la
  obtain ⟨_, -, -, lb, -⟩ := lb
  obtain ⟨ka, A'⟩ := A.arv Value.null
  obtain ⟨kb, B'⟩ := B.arv Value.null
  intro T locs X eT N
  have hus : (vs.drop si).take ni = (List.range nn.toNatClampNeg).map fun i => vs.getD (sp.toNatClampNeg + i) Value.null := by
    rw [e1, e3]
    apply List.ext_getElem
    · simp; omega
    · intro j q1 q2
      have q3 : j < ni := by simpa using q2
      simp [List.getD_eq_getElem?_getD, List.getElem?_eq_getElem (show si + j < vs.length by omega)]
  obtain ⟨T', h', L, X', e', N', K, V', q⟩ := cpA X C.1 C.2.1 C.2.2.2.2.1 w1 w2 w3 w4 eT A' B' (Or.inl ⟨rfl, hty⟩) g1 g2 g3 (by rw [e1, e3, (len32 la).1]; exact h4) (by rw [e2, e3, (len32 lb).1]; exact h5) hus (by rw [e2, e3]; exact h5) N ge (g := mkF m pc Ls (.int nn :: .int dp :: .ref b :: .int sp :: .ref a :: st)) rfl (by rw [C.2.2.2.1]; exact hs) rfl (hb C.2.2.1 hd) hf (W := W) (by show 2 * 0 + _ ≤ _; omega) hlo
  rw [e2, e3] at V'
  obtain ⟨s₂, o, z, r⟩ := r h' K (Av.of_arv V' (by rw [(len32 lb).1]; simp; omega)) T' _ X' e' N'
  exact ⟨s₂, o, q _ z, r⟩
theorem s_clone (C : Ctx p l e R s m args below meth c Z own cd maxL ret nm) {i W k' n' cap : Nat} {ty : FieldType} {ad : String} {a : Addr} {vs : List Value} (hd : decode cd pc = .ok (.invokevirtual i, 3)) (hp : pc + 3 = pc') (w1 : (Jvm.Cond.methodLink own i ⟨ad, "clone", "()Ljava/lang/Object;"⟩).before a0 Z = true) (w2 : (Jvm.Cond.sameMethod ad "java/lang/Object" "clone" "()Ljava/lang/Object;").before a0 Z = true) (w3 : (Jvm.Cond.native ⟨"java/lang/Object", "clone", "()Ljava/lang/Object;"⟩).before a0 Z = true) (w4 : (Jvm.Cond.instanceMethod ⟨"java/lang/Object", "clone", "()Ljava/lang/Object;"⟩).before a0 Z = true) (w5 : (Jvm.Cond.selects ad ⟨ad, "clone", "()Ljava/lang/Object;"⟩ ⟨"java/lang/Object", "clone", "()Ljava/lang/Object;"⟩).before a0 Z = true) (w6 : (Jvm.Cond.castable ad "java/lang/Cloneable").before a0 Z = true) (V : Av Z h a ty vs) (E : Exa Z h a ad) (hs : Ls.size = maxL) (hf : 1 ≤ R.frames) (hW : (st.map fun v => v.category).sum = W) (hl : W + 14 ≤ R.locals) (hcap : vs.length ≤ cap) (hk : k + 1 = k') (hk' : k' ≤ R.cells) (hn : n + cap = n') (hn' : n' ≤ R.slots)
    (r : ∀ h' b, Ext h h' → b = h.size → Av Z h' b ty vs → Exa Z h' b ad → Run p l e R s m args below meth c n0 P h' k' n' pc' Ls (.ref b :: st)) : Run p l e R s m args below meth c n0 P h k n pc Ls (.ref a :: st) := by
  subst hp hk hn
  have la := V
  obtain ⟨_, -, -, la, -⟩ := la
  obtain ⟨ka, A'⟩ := V.arv Value.null
  intro T locs X eT N
  obtain ⟨T', h', X', e', Ex, V', E', q⟩ := cloneH X C.1 C.2.1 C.2.2.2.2.1 w1 w2 w3 w4 w5 w6 eT A'.arh E (g := mkF m pc Ls (.ref a :: st)) rfl (by rw [C.2.2.2.1]; exact hs) rfl (hb C.2.2.1 hd) hf (W := W) (cap := cap) (by show 2 * 0 + _ ≤ _; omega) hl (by rw [(len32 la).1]; exact hcap) hk' hn'
  obtain ⟨s₂, o, z, r⟩ := r h' _ Ex rfl (Av.of_arv (dv := Value.null) V' (len32 la).1.symm) E' T' _ X' e' N
  exact ⟨s₂, o, q _ z, r⟩
theorem s_length (C : Ctx p l e R s m args below meth c Z own cd maxL ret nm) {ty : FieldType} {a : Addr} {vs : List Value} (hd : decode cd pc = .ok (.arraylength, 1)) (hp : pc + 1 = pc') (V : Av Z h a ty vs) (z : Int32) (hz : vs.length.toInt32 = z) (r : Run p l e R s m args below meth c n0 P h k n pc' Ls (.int z :: st)) : Run p l e R s m args below meth c n0 P h k n pc Ls (.ref a :: st) := by
  subst hp hz
  obtain ⟨cl, A, hs, hl, -⟩ := V
  have e1 : cl.slots.size = vs.length := by simp [hs]
  refine Run.pure (fun T locs X eT t z => X.arraylength C.1 (by rw [eT]; exact A.1) (State.isArrayOf_alike C.2.1.alike A.2.1) (g := mkF m pc Ls (.ref a :: st)) rfl rfl (hb C.2.2.1 hd) _ (by rw [e1]; exact z)) r
theorem s_iaload (C : Ctx p l e R s m args below meth c Z own cd maxL ret nm) {a : Addr} {vs : List Value} {j : Int32} {x : Int32} (hd : decode cd pc = .ok (.iaload, 1)) (hp : pc + 1 = pc') (V : Av Z h a .int vs) (i : Nat) (hi : j.toInt = (i : Int)) (hv : vs[i]? = some (.int x)) (r : Run p l e R s m args below meth c n0 P h k n pc' Ls ((.int x) :: st)) : Run p l e R s m args below meth c n0 P h k n pc Ls (.int j :: .ref a :: st) := by
  subst hp
  obtain ⟨cl, A, hs, hl, -⟩ := V
  obtain ⟨e1, e2⟩ := idx_n hi
  have e3 : i < vs.length := (List.getElem?_eq_some_iff.mp hv).1
  refine Run.pure (fun T locs X eT t z => X.iaload C.1 (by rw [eT]; exact A.1) (State.isArrayOf_alike C.2.1.alike A.2.1) A.2.2 (by rw [e1, hs]; rintro (q | q); exact e2 q; simp at q; omega) (by rw [e1, hs]; simpa using hv) (g := mkF m pc Ls (.int j :: .ref a :: st)) rfl rfl (hb C.2.2.1 hd) _ z) r
theorem s_laload (C : Ctx p l e R s m args below meth c Z own cd maxL ret nm) {a : Addr} {vs : List Value} {j : Int32} {x : Int64} (hd : decode cd pc = .ok (.laload, 1)) (hp : pc + 1 = pc') (V : Av Z h a .long vs) (i : Nat) (hi : j.toInt = (i : Int)) (hv : vs[i]? = some (.long x)) (r : Run p l e R s m args below meth c n0 P h k n pc' Ls ((.long x) :: st)) : Run p l e R s m args below meth c n0 P h k n pc Ls (.int j :: .ref a :: st) := by
  subst hp
  obtain ⟨cl, A, hs, hl, -⟩ := V
  obtain ⟨e1, e2⟩ := idx_n hi
  have e3 : i < vs.length := (List.getElem?_eq_some_iff.mp hv).1
  refine Run.pure (fun T locs X eT t z => X.laload C.1 (by rw [eT]; exact A.1) (State.isArrayOf_alike C.2.1.alike A.2.1) A.2.2 (by rw [e1, hs]; rintro (q | q); exact e2 q; simp at q; omega) (by rw [e1, hs]; simpa using hv) (g := mkF m pc Ls (.int j :: .ref a :: st)) rfl rfl (hb C.2.2.1 hd) _ z) r
theorem s_baload (C : Ctx p l e R s m args below meth c Z own cd maxL ret nm) {a : Addr} {vs : List Value} {j : Int32} {x : Int32} (hd : decode cd pc = .ok (.baload, 1)) (hp : pc + 1 = pc') (V : Av Z h a .byte vs) (i : Nat) (hi : j.toInt = (i : Int)) (hv : vs[i]? = some (.int x)) (r : Run p l e R s m args below meth c n0 P h k n pc' Ls ((.int x) :: st)) : Run p l e R s m args below meth c n0 P h k n pc Ls (.int j :: .ref a :: st) := by
  subst hp
  obtain ⟨cl, A, hs, hl, -⟩ := V
  obtain ⟨e1, e2⟩ := idx_n hi
  have e3 : i < vs.length := (List.getElem?_eq_some_iff.mp hv).1
  refine Run.pure (fun T locs X eT t z => X.baloadBytes C.1 (by rw [eT]; exact A.1) (State.isArrayOf_alike C.2.1.alike A.2.1) A.2.2 (by rw [e1, hs]; rintro (q | q); exact e2 q; simp at q; omega) (by rw [e1, hs]; simpa using hv) (g := mkF m pc Ls (.int j :: .ref a :: st)) rfl rfl (hb C.2.2.1 hd) _ z) r
theorem s_caload (C : Ctx p l e R s m args below meth c Z own cd maxL ret nm) {a : Addr} {vs : List Value} {j : Int32} {x : Int32} (hd : decode cd pc = .ok (.caload, 1)) (hp : pc + 1 = pc') (V : Av Z h a .char vs) (i : Nat) (hi : j.toInt = (i : Int)) (hv : vs[i]? = some (.int x)) (r : Run p l e R s m args below meth c n0 P h k n pc' Ls ((.int x) :: st)) : Run p l e R s m args below meth c n0 P h k n pc Ls (.int j :: .ref a :: st) := by
  subst hp
  obtain ⟨cl, A, hs, hl, -⟩ := V
  obtain ⟨e1, e2⟩ := idx_n hi
  have e3 : i < vs.length := (List.getElem?_eq_some_iff.mp hv).1
  refine Run.pure (fun T locs X eT t z => X.caload C.1 (by rw [eT]; exact A.1) (State.isArrayOf_alike C.2.1.alike A.2.1) A.2.2 (by rw [e1, hs]; rintro (q | q); exact e2 q; simp at q; omega) (by rw [e1, hs]; simpa using hv) (g := mkF m pc Ls (.int j :: .ref a :: st)) rfl rfl (hb C.2.2.1 hd) _ z) r
theorem s_aaload (C : Ctx p l e R s m args below meth c Z own cd maxL ret nm) {a : Addr} {vs : List Value} {j : Int32} {x : Value} {ty : FieldType} (hty : ty.isReference = true) (hd : decode cd pc = .ok (.aaload, 1)) (hp : pc + 1 = pc') (V : Av Z h a ty vs) (i : Nat) (hi : j.toInt = (i : Int)) (hv : vs[i]? = some x) (r : Run p l e R s m args below meth c n0 P h k n pc' Ls (x :: st)) : Run p l e R s m args below meth c n0 P h k n pc Ls (.int j :: .ref a :: st) := by
  subst hp
  obtain ⟨cl, A, hs, hl, -⟩ := V
  obtain ⟨e1, e2⟩ := idx_n hi
  have e3 : i < vs.length := (List.getElem?_eq_some_iff.mp hv).1
  refine Run.pure (fun T locs X eT t z => X.aaload C.1 (by rw [eT]; exact A.1) (State.isArrayOf_alike C.2.1.alike A.2.1) hty A.2.2 (by rw [e1, hs]; rintro (q | q); exact e2 q; simp at q; omega) (by rw [e1, hs]; simpa using hv) (g := mkF m pc Ls (.int j :: .ref a :: st)) rfl rfl (hb C.2.2.1 hd) _ z) r
def OvA (Z : State) (h : Heap) (a : Addr) (K : String) : Prop := ∃ cl : Cell, Arr Z h a cl (.object K) ∧ Ovr Z cl.cls K
theorem OvA.keep {h h' : Heap} {a : Addr} {K : String} {ws : List Addr} (F : OvA Z h a K) (Kp : Keep h h' ws) : OvA Z h' a K := by
  obtain ⟨cl, A, O⟩ := F
  obtain ⟨c', h1, h2, h3, h4⟩ := Kp.2.2 a cl A.1
  exact ⟨c', ⟨h1, ⟨by rw [h3]; exact A.2.1.1, by rw [h2]; exact A.2.1.2⟩, by rw [h3]; exact A.2.2⟩, h2 ▸ O⟩
theorem OvA.lt {h : Heap} {a : Addr} {K : String} (F : OvA Z h a K) : a < h.size := by obtain ⟨cl, A, -⟩ := F; exact A.lt
theorem OvA.sto {h : Heap} {a y : Addr} {K : String} (F : OvA Z h a K) (I : Ins Z h y K true) : Sto Z h a (.ref y) := by obtain ⟨cl, A, O⟩ := F; exact Sto.of A O I
theorem s_instNull (C : Ctx p l e R s m args below meth c Z own cd maxL ret nm) {i : Nat} (hd : decode cd pc = .ok (.instanceof i, 3)) (hp : pc + 3 = pc') (r : Run p l e R s m args below meth c n0 P h k n pc' Ls (.int 0 :: st)) : Run p l e R s m args below meth c n0 P h k n pc Ls (.null :: st) := by
  subst hp; exact Run.pure (fun T locs X _ t z => X.instanceofNull C.1 (g := mkF m pc Ls (.null :: st)) rfl rfl (hb C.2.2.1 hd) _ z) r
theorem s_instNo (C : Ctx p l e R s m args below meth c Z own cd maxL ret nm) {K Kc : String} {i : Nat} {a : Addr} (hd : decode cd pc = .ok (.instanceof i, 3)) (hp : pc + 3 = pc') (w : (Jvm.Cond.classLink own i K).before a0 Z = true) (E : Exa Z h a Kc) (F : ∃ c t, Z.vm.findClass Kc = some c ∧ Z.vm.findClass K = some t ∧ Z.vm.assignable c t = false) (r : Run p l e R s m args below meth c n0 P h k n pc' Ls (.int 0 :: st)) : Run p l e R s m args below meth c n0 P h k n pc Ls (.ref a :: st) := by
  subst hp; exact Run.warm (fun T locs X eT => instNo X C.1 C.2.1 C.2.2.2.2.1 w eT E F (g := mkF m pc Ls (.ref a :: st)) rfl rfl (hb C.2.2.1 hd)) r
theorem ns_root {O K : String} {q : Nat} (w : (Jvm.Cond.noSuperclass O).before a0 Z = true) (wi : (Jvm.Cond.instantiable K q).before a0 Z = true) (hn : O ≠ K) : NS Z O K := by
  obtain ⟨c, k, h1, h2, h3, -, -⟩ := Cond.noSuperclass_spec w
  obtain ⟨t, kt, g1, -⟩ := Cond.instantiable_spec wi
  exact ⟨c, t, h1, g1, fun fuel => by cases fuel with | zero => rfl | succ f => simp [Vm.isSubclassAux, ids_ne h1 g1 hn, h2, h3]⟩
theorem ns_no {C' S' K : String} {q : Nat} (w : (Jvm.Cond.superclass C' S').before a0 Z = true) (wi : (Jvm.Cond.instantiable K q).before a0 Z = true) (nn : NS Z C' K) (hn : C' ≠ K) : ∃ c t, Z.vm.findClass C' = some c ∧ Z.vm.findClass K = some t ∧ Z.vm.assignable c t = false := by
  obtain ⟨c, t, h0, g0, n3⟩ := nn
  obtain ⟨_, k, _, -, h2, -, -, h5, -⟩ := Cond.superclass_spec h0 w
  obtain ⟨t', kt, g1, g2, g5, g6, -⟩ := Cond.instantiable_spec wi
  cases g0.symm.trans g1
  refine ⟨c, t, h0, g0, ?_⟩
  have g7 : kt.isInterface = false := (Bool.or_eq_false_iff.mp g6).1
  show Z.vm.assignableAux 256 c t = false
  simp [Vm.assignableAux, ids_ne h0 g0 hn, h2, g2, h5, g5, g7, Vm.isSubclass, n3]
theorem s_aastore (C : Ctx p l e R s m args below meth c Z own cd maxL ret nm) {a : Addr} {ty : FieldType} {vs : List Value} {j : Int32} {v : Value} (hty : ty.isReference = true) (hd : decode cd pc = .ok (.aastore, 1)) (hp : pc + 1 = pc') (V : Av Z h a ty vs) (F : Sto Z h a v) (hfv : fits ty v = true) (i : Nat) (hi : j.toInt = (i : Int)) (hlt : i < vs.length) (ha : n0 ≤ a) (vs' : List Value) (hvs : vs.set i v = vs') (r : ∀ h', Wr h h' a i v → Av Z h' a ty vs' → Run p l e R s m args below meth c n0 P h' k n pc' Ls st) : Run p l e R s m args below meth c n0 P h k n pc Ls (v :: .int j :: .ref a :: st) := by
  subst hp hvs
  have V0 := V
  obtain ⟨cl, A, hs, hl, -⟩ := V
  obtain ⟨e1, e2⟩ := idx_n hi
  subst e1
  intro T locs X eT N
  obtain ⟨T', h', X', e', W, q⟩ := stR X C.1 C.2.1 eT A (j := j) (by rw [hs]; rintro (q | q); exact e2 q; simp at q; omega) hty F (g := mkF m pc Ls (v :: .int j :: .ref a :: st)) rfl rfl (hb C.2.2.1 hd)
  obtain ⟨s₂, o, z, r⟩ := r h' W (V0.set W hfv) T' _ X' e' (Fr.snoc X' N ha)
  exact ⟨s₂, o, q _ z, r⟩
theorem s_baloadC (C : Ctx p l e R s m args below meth c Z own cd maxL ret nm) {a : Addr} {cl : Cell} {j x : Int32} (hd : decode cd pc = .ok (.baload, 1)) (hp : pc + 1 = pc') (A : Arr Z h a cl .byte) (hin : ¬ (j < 0 ∨ cl.slots.size ≤ j.toNatClampNeg)) (hv : cl.slots[j.toNatClampNeg]? = some (.int x)) (r : Run p l e R s m args below meth c n0 P h k n pc' Ls (.int x :: st)) : Run p l e R s m args below meth c n0 P h k n pc Ls (.int j :: .ref a :: st) := by
  subst hp
  exact Run.pure (fun T locs X eT t z => X.baloadBytes C.1 (by rw [eT]; exact A.1) (State.isArrayOf_alike C.2.1.alike A.2.1) A.2.2 hin hv (g := mkF m pc Ls (.int j :: .ref a :: st)) rfl rfl (hb C.2.2.1 hd) _ z) r
theorem s_aaloadC (C : Ctx p l e R s m args below meth c Z own cd maxL ret nm) {a : Addr} {cl : Cell} {ty : FieldType} {j : Int32} {x : Value} (hty : ty.isReference = true) (hd : decode cd pc = .ok (.aaload, 1)) (hp : pc + 1 = pc') (A : Arr Z h a cl ty) (hin : ¬ (j < 0 ∨ cl.slots.size ≤ j.toNatClampNeg)) (hv : cl.slots[j.toNatClampNeg]? = some x) (r : Run p l e R s m args below meth c n0 P h k n pc' Ls (x :: st)) : Run p l e R s m args below meth c n0 P h k n pc Ls (.int j :: .ref a :: st) := by
  subst hp
  exact Run.pure (fun T locs X eT t z => X.aaload C.1 (by rw [eT]; exact A.1) (State.isArrayOf_alike C.2.1.alike A.2.1) hty A.2.2 hin hv (g := mkF m pc Ls (.int j :: .ref a :: st)) rfl rfl (hb C.2.2.1 hd) _ z) r
theorem s_iastore (C : Ctx p l e R s m args below meth c Z own cd maxL ret nm) {a : Addr} {vs : List Value} {j : Int32} {x : Int32} (hd : decode cd pc = .ok (.iastore, 1)) (hp : pc + 1 = pc') (V : Av Z h a .int vs) (i : Nat) (hi : j.toInt = (i : Int)) (hlt : i < vs.length) (ha : n0 ≤ a) (vs' : List Value) (hvs : vs.set i (.int x) = vs') (r : ∀ h', Wr h h' a i (.int x) → Av Z h' a .int vs' → Run p l e R s m args below meth c n0 P h' k n pc' Ls st) : Run p l e R s m args below meth c n0 P h k n pc Ls ((.int x) :: .int j :: .ref a :: st) := by
  subst hp hvs
  have V0 := V
  obtain ⟨cl, A, hs, hl, -⟩ := V
  obtain ⟨e1, e2⟩ := idx_n hi
  subst e1
  intro T locs X eT N
  obtain ⟨T', h', X', e', W, q⟩ := stI X C.1 C.2.1 eT A (j := j) (by rw [hs]; rintro (q | q); exact e2 q; simp at q; omega) (g := mkF m pc Ls ((.int x) :: .int j :: .ref a :: st)) rfl rfl (hb C.2.2.1 hd)
  obtain ⟨s₂, o, z, r⟩ := r h' W (V0.set W rfl) T' _ X' e' (Fr.snoc X' N ha)
  exact ⟨s₂, o, q _ z, r⟩
theorem s_lastore (C : Ctx p l e R s m args below meth c Z own cd maxL ret nm) {a : Addr} {vs : List Value} {j : Int32} {x : Int64} (hd : decode cd pc = .ok (.lastore, 1)) (hp : pc + 1 = pc') (V : Av Z h a .long vs) (i : Nat) (hi : j.toInt = (i : Int)) (hlt : i < vs.length) (ha : n0 ≤ a) (vs' : List Value) (hvs : vs.set i (.long x) = vs') (r : ∀ h', Wr h h' a i (.long x) → Av Z h' a .long vs' → Run p l e R s m args below meth c n0 P h' k n pc' Ls st) : Run p l e R s m args below meth c n0 P h k n pc Ls ((.long x) :: .int j :: .ref a :: st) := by
  subst hp hvs
  have V0 := V
  obtain ⟨cl, A, hs, hl, -⟩ := V
  obtain ⟨e1, e2⟩ := idx_n hi
  subst e1
  intro T locs X eT N
  obtain ⟨T', h', X', e', W, q⟩ := stJ X C.1 C.2.1 eT A (j := j) (by rw [hs]; rintro (q | q); exact e2 q; simp at q; omega) (g := mkF m pc Ls ((.long x) :: .int j :: .ref a :: st)) rfl rfl (hb C.2.2.1 hd)
  obtain ⟨s₂, o, z, r⟩ := r h' W (V0.set W rfl) T' _ X' e' (Fr.snoc X' N ha)
  exact ⟨s₂, o, q _ z, r⟩
theorem s_bastore (C : Ctx p l e R s m args below meth c Z own cd maxL ret nm) {a : Addr} {vs : List Value} {j : Int32} {x : Int32} (hd : decode cd pc = .ok (.bastore, 1)) (hp : pc + 1 = pc') (V : Av Z h a .byte vs) (i : Nat) (hi : j.toInt = (i : Int)) (hlt : i < vs.length) (ha : n0 ≤ a) (vs' : List Value) (hvs : vs.set i (.int x.toInt8.toInt32) = vs') (r : ∀ h', Wr h h' a i (.int x.toInt8.toInt32) → Av Z h' a .byte vs' → Run p l e R s m args below meth c n0 P h' k n pc' Ls st) : Run p l e R s m args below meth c n0 P h k n pc Ls ((.int x) :: .int j :: .ref a :: st) := by
  subst hp hvs
  have V0 := V
  obtain ⟨cl, A, hs, hl, -⟩ := V
  obtain ⟨e1, e2⟩ := idx_n hi
  subst e1
  intro T locs X eT N
  obtain ⟨T', h', X', e', W, q⟩ := stB X C.1 C.2.1 eT A (j := j) (by rw [hs]; rintro (q | q); exact e2 q; simp at q; omega) (g := mkF m pc Ls ((.int x) :: .int j :: .ref a :: st)) rfl rfl (hb C.2.2.1 hd)
  obtain ⟨s₂, o, z, r⟩ := r h' W (V0.set W (fits_nar_byte _)) T' _ X' e' (Fr.snoc X' N ha)
  exact ⟨s₂, o, q _ z, r⟩
theorem s_castore (C : Ctx p l e R s m args below meth c Z own cd maxL ret nm) {a : Addr} {vs : List Value} {j : Int32} {x : Int32} (hd : decode cd pc = .ok (.castore, 1)) (hp : pc + 1 = pc') (V : Av Z h a .char vs) (i : Nat) (hi : j.toInt = (i : Int)) (hlt : i < vs.length) (ha : n0 ≤ a) (vs' : List Value) (hvs : vs.set i (.int x.toUInt32.toUInt16.toUInt32.toInt32) = vs') (r : ∀ h', Wr h h' a i (.int x.toUInt32.toUInt16.toUInt32.toInt32) → Av Z h' a .char vs' → Run p l e R s m args below meth c n0 P h' k n pc' Ls st) : Run p l e R s m args below meth c n0 P h k n pc Ls ((.int x) :: .int j :: .ref a :: st) := by
  subst hp hvs
  have V0 := V
  obtain ⟨cl, A, hs, hl, -⟩ := V
  obtain ⟨e1, e2⟩ := idx_n hi
  subst e1
  intro T locs X eT N
  obtain ⟨T', h', X', e', W, q⟩ := stC X C.1 C.2.1 eT A (j := j) (by rw [hs]; rintro (q | q); exact e2 q; simp at q; omega) (g := mkF m pc Ls ((.int x) :: .int j :: .ref a :: st)) rfl rfl (hb C.2.2.1 hd)
  obtain ⟨s₂, o, z, r⟩ := r h' W (V0.set W (fits_nar_char _)) T' _ X' e' (Fr.snoc X' N ha)
  exact ⟨s₂, o, q _ z, r⟩
end Steps
end Own
end Jvm.Pilot.@@N@@

namespace Jvm.Pilot.@@N@@
open Jvm Jvm.ClassFile Sem Op Lib Jvm.Free Jvm.Stand Jvm.LawKit Jvm.RoadKit Bundle Jvm.Pilot.@@N@@.Jvm.D
namespace Own
abbrev Hw (a0 : Array Value) (Z : State) : Prop := ∀ d ∈ tables_1, d.before a0 Z = true
theorem w0 {a0 : Array Value} {Z : State} (hw : Hw a0 Z) : (Jvm.Cond.constantLong "org/subveil/Secp256r1FieldMultiplySmallPinLaw" (19 : Nat) (4503599627370495 : Int64)).before a0 Z = true := hw _ (List.mem_of_getElem? (i := 0) rfl)
theorem w1 {a0 : Array Value} {Z : State} (hw : Hw a0 Z) : (Jvm.Cond.arrayClass Jvm.ClassFile.FieldType.long).before a0 Z = true := hw _ (List.mem_of_getElem? (i := 1) rfl)
theorem w2 {a0 : Array Value} {Z : State} (hw : Hw a0 Z) : (Jvm.Cond.constantLong "org/subveil/Secp256r1FieldMultiplySmallPinLaw" (21 : Nat) (562949953421311 : Int64)).before a0 Z = true := hw _ (List.mem_of_getElem? (i := 2) rfl)
theorem w3 {a0 : Array Value} {Z : State} (hw : Hw a0 Z) : (Jvm.Cond.methodLink "org/subveil/Secp256r1FieldMultiplySmallPinLaw" (23 : Nat) ({ cls := "org/subveil/Secp256r1FieldMultiplySmallPinLaw", name := "belowTwoP", desc := "([J)Z" } : Jvm.MethodName)).before a0 Z = true := hw _ (List.mem_of_getElem? (i := 3) rfl)
theorem w4 {a0 : Array Value} {Z : State} (hw : Hw a0 Z) : (Jvm.Cond.static ({ cls := "org/subveil/Secp256r1FieldMultiplySmallPinLaw", name := "belowTwoP", desc := "([J)Z" } : Jvm.MethodName)).before a0 Z = true := hw _ (List.mem_of_getElem? (i := 4) rfl)
theorem w5 {a0 : Array Value} {Z : State} (hw : Hw a0 Z) : (Jvm.Cond.initialized "org/subveil/Secp256r1FieldMultiplySmallPinLaw").before a0 Z = true := hw _ (List.mem_of_getElem? (i := 5) rfl)
theorem w6 {a0 : Array Value} {Z : State} (hw : Hw a0 Z) : (Jvm.Cond.code ({ cls := "org/subveil/Secp256r1FieldMultiplySmallPinLaw", name := "belowTwoP", desc := "([J)Z" } : Jvm.MethodName) method_2_code (11 : Nat) (Option.some Jvm.ClassFile.FieldType.boolean)).before a0 Z = true := hw _ (List.mem_of_getElem? (i := 6) rfl)
theorem w7 {a0 : Array Value} {Z : State} (hw : Hw a0 Z) : (Jvm.Cond.constantLong "org/subveil/Secp256r1FieldMultiplySmallPinLaw" (7 : Nat) (4503599627370494 : Int64)).before a0 Z = true := hw _ (List.mem_of_getElem? (i := 7) rfl)
theorem w8 {a0 : Array Value} {Z : State} (hw : Hw a0 Z) : (Jvm.Cond.constantLong "org/subveil/Secp256r1FieldMultiplySmallPinLaw" (9 : Nat) (35184372088831 : Int64)).before a0 Z = true := hw _ (List.mem_of_getElem? (i := 8) rfl)
theorem w9 {a0 : Array Value} {Z : State} (hw : Hw a0 Z) : (Jvm.Cond.constantLong "org/subveil/Secp256r1FieldMultiplySmallPinLaw" (11 : Nat) (137438953472 : Int64)).before a0 Z = true := hw _ (List.mem_of_getElem? (i := 9) rfl)
theorem w10 {a0 : Array Value} {Z : State} (hw : Hw a0 Z) : (Jvm.Cond.constantLong "org/subveil/Secp256r1FieldMultiplySmallPinLaw" (13 : Nat) (562949953290240 : Int64)).before a0 Z = true := hw _ (List.mem_of_getElem? (i := 10) rfl)
theorem w11 {a0 : Array Value} {Z : State} (hw : Hw a0 Z) : (Jvm.Cond.methodLink "org/subveil/Secp256r1FieldMultiplySmallPinLaw" (29 : Nat) ({ cls := "org/subveil/Secp256r1Field", name := "add", desc := "([J[J[J)V" } : Jvm.MethodName)).before a0 Z = true := hw _ (List.mem_of_getElem? (i := 11) rfl)
theorem w12 {a0 : Array Value} {Z : State} (hw : Hw a0 Z) : (Jvm.Cond.static ({ cls := "org/subveil/Secp256r1Field", name := "add", desc := "([J[J[J)V" } : Jvm.MethodName)).before a0 Z = true := hw _ (List.mem_of_getElem? (i := 12) rfl)
theorem w13 {a0 : Array Value} {Z : State} (hw : Hw a0 Z) : (Jvm.Cond.initialized "org/subveil/Secp256r1Field").before a0 Z = true := hw _ (List.mem_of_getElem? (i := 13) rfl)
theorem w14 {a0 : Array Value} {Z : State} (hw : Hw a0 Z) : (Jvm.Cond.code ({ cls := "org/subveil/Secp256r1Field", name := "add", desc := "([J[J[J)V" } : Jvm.MethodName) prog_45_method_9_code (13 : Nat) (Option.none : Option Jvm.ClassFile.FieldType)).before a0 Z = true := hw _ (List.mem_of_getElem? (i := 14) rfl)
theorem w15 {a0 : Array Value} {Z : State} (hw : Hw a0 Z) : (Jvm.Cond.fieldLink "org/subveil/Secp256r1Field" (38 : Nat) "org/subveil/Secp256r1Field" "TWO_P" "[J").before a0 Z = true := hw _ (List.mem_of_getElem? (i := 15) rfl)
theorem w16 {a0 : Array Value} {Z : State} (hw : Hw a0 Z) : (Jvm.Cond.laysStatic "org/subveil/Secp256r1Field" "TWO_P" "[J").before a0 Z = true := hw _ (List.mem_of_getElem? (i := 16) rfl)
theorem w17 {a0 : Array Value} {Z : State} (hw : Hw a0 Z) : (Jvm.Cond.constantLong "org/subveil/Secp256r1Field" (25 : Nat) (4503599627370495 : Int64)).before a0 Z = true := hw _ (List.mem_of_getElem? (i := 17) rfl)
theorem w18 {a0 : Array Value} {Z : State} (hw : Hw a0 Z) : (Jvm.Cond.methodLink "org/subveil/Secp256r1Field" (41 : Nat) ({ cls := "org/subveil/Secp256r1Field", name := "subtractIfAtLeast", desc := "([J[JJJJJJ)V" } : Jvm.MethodName)).before a0 Z = true := hw _ (List.mem_of_getElem? (i := 18) rfl)
theorem w19 {a0 : Array Value} {Z : State} (hw : Hw a0 Z) : (Jvm.Cond.static ({ cls := "org/subveil/Secp256r1Field", name := "subtractIfAtLeast", desc := "([J[JJJJJJ)V" } : Jvm.MethodName)).before a0 Z = true := hw _ (List.mem_of_getElem? (i := 19) rfl)
theorem w20 {a0 : Array Value} {Z : State} (hw : Hw a0 Z) : (Jvm.Cond.code ({ cls := "org/subveil/Secp256r1Field", name := "subtractIfAtLeast", desc := "([J[JJJJJJ)V" } : Jvm.MethodName) prog_45_method_28_code (24 : Nat) (Option.none : Option Jvm.ClassFile.FieldType)).before a0 Z = true := hw _ (List.mem_of_getElem? (i := 20) rfl)
theorem w21 {a0 : Array Value} {Z : State} (hw : Hw a0 Z) : (Jvm.Cond.constantLong "org/subveil/Secp256r1Field" (143 : Nat) (-1 : Int64)).before a0 Z = true := hw _ (List.mem_of_getElem? (i := 21) rfl)
theorem w22 {a0 : Array Value} {Z : State} (hw : Hw a0 Z) : (Jvm.Cond.methodLink "org/subveil/Secp256r1FieldMultiplySmallPinLaw" (35 : Nat) ({ cls := "org/subveil/Secp256r1Field", name := "multiplySmall", desc := "([J[JI)V" } : Jvm.MethodName)).before a0 Z = true := hw _ (List.mem_of_getElem? (i := 22) rfl)
theorem w23 {a0 : Array Value} {Z : State} (hw : Hw a0 Z) : (Jvm.Cond.static ({ cls := "org/subveil/Secp256r1Field", name := "multiplySmall", desc := "([J[JI)V" } : Jvm.MethodName)).before a0 Z = true := hw _ (List.mem_of_getElem? (i := 23) rfl)
theorem w24 {a0 : Array Value} {Z : State} (hw : Hw a0 Z) : (Jvm.Cond.code ({ cls := "org/subveil/Secp256r1Field", name := "multiplySmall", desc := "([J[JI)V" } : Jvm.MethodName) prog_45_method_15_code (15 : Nat) (Option.none : Option Jvm.ClassFile.FieldType)).before a0 Z = true := hw _ (List.mem_of_getElem? (i := 24) rfl)
theorem w25 {a0 : Array Value} {Z : State} (hw : Hw a0 Z) : (Jvm.Cond.constantLong "org/subveil/Secp256r1Field" (60 : Nat) (281474976710655 : Int64)).before a0 Z = true := hw _ (List.mem_of_getElem? (i := 25) rfl)
theorem w26 {a0 : Array Value} {Z : State} (hw : Hw a0 Z) : (Jvm.Cond.methodLink "org/subveil/Secp256r1FieldMultiplySmallPinLaw" (39 : Nat) ({ cls := "org/subveil/Secp256r1FieldMultiplySmallPinLaw", name := "normalized", desc := "([J)Z" } : Jvm.MethodName)).before a0 Z = true := hw _ (List.mem_of_getElem? (i := 26) rfl)
theorem w27 {a0 : Array Value} {Z : State} (hw : Hw a0 Z) : (Jvm.Cond.static ({ cls := "org/subveil/Secp256r1FieldMultiplySmallPinLaw", name := "normalized", desc := "([J)Z" } : Jvm.MethodName)).before a0 Z = true := hw _ (List.mem_of_getElem? (i := 27) rfl)
theorem w28 {a0 : Array Value} {Z : State} (hw : Hw a0 Z) : (Jvm.Cond.code ({ cls := "org/subveil/Secp256r1FieldMultiplySmallPinLaw", name := "normalized", desc := "([J)Z" } : Jvm.MethodName) method_3_code (3 : Nat) (Option.some Jvm.ClassFile.FieldType.boolean)).before a0 Z = true := hw _ (List.mem_of_getElem? (i := 28) rfl)
theorem w29 {a0 : Array Value} {Z : State} (hw : Hw a0 Z) : (Jvm.Cond.constantLong "org/subveil/Secp256r1FieldMultiplySmallPinLaw" (15 : Nat) (4503599627370496 : Int64)).before a0 Z = true := hw _ (List.mem_of_getElem? (i := 29) rfl)
theorem w30 {a0 : Array Value} {Z : State} (hw : Hw a0 Z) : (Jvm.Cond.constantLong "org/subveil/Secp256r1FieldMultiplySmallPinLaw" (17 : Nat) (562949953421312 : Int64)).before a0 Z = true := hw _ (List.mem_of_getElem? (i := 30) rfl)
theorem w31 {a0 : Array Value} {Z : State} (hw : Hw a0 Z) : (Jvm.Cond.methodLink "org/subveil/Secp256r1FieldMultiplySmallPinLaw" (42 : Nat) ({ cls := "org/subveil/Secp256r1Field", name := "equal", desc := "([J[J)J" } : Jvm.MethodName)).before a0 Z = true := hw _ (List.mem_of_getElem? (i := 31) rfl)
theorem w32 {a0 : Array Value} {Z : State} (hw : Hw a0 Z) : (Jvm.Cond.static ({ cls := "org/subveil/Secp256r1Field", name := "equal", desc := "([J[J)J" } : Jvm.MethodName)).before a0 Z = true := hw _ (List.mem_of_getElem? (i := 32) rfl)
theorem w33 {a0 : Array Value} {Z : State} (hw : Hw a0 Z) : (Jvm.Cond.code ({ cls := "org/subveil/Secp256r1Field", name := "equal", desc := "([J[J)J" } : Jvm.MethodName) prog_45_method_7_code (7 : Nat) (Option.some Jvm.ClassFile.FieldType.long)).before a0 Z = true := hw _ (List.mem_of_getElem? (i := 33) rfl)
theorem w34 {a0 : Array Value} {Z : State} (hw : Hw a0 Z) : (Jvm.Cond.methodLink "org/subveil/Secp256r1Field" (45 : Nat) ({ cls := "org/subveil/Secp256r1Field", name := "canonical", desc := "([J)[J" } : Jvm.MethodName)).before a0 Z = true := hw _ (List.mem_of_getElem? (i := 34) rfl)
theorem w35 {a0 : Array Value} {Z : State} (hw : Hw a0 Z) : (Jvm.Cond.static ({ cls := "org/subveil/Secp256r1Field", name := "canonical", desc := "([J)[J" } : Jvm.MethodName)).before a0 Z = true := hw _ (List.mem_of_getElem? (i := 35) rfl)
theorem w36 {a0 : Array Value} {Z : State} (hw : Hw a0 Z) : (Jvm.Cond.code ({ cls := "org/subveil/Secp256r1Field", name := "canonical", desc := "([J)[J" } : Jvm.MethodName) prog_45_method_27_code (2 : Nat) (Option.some (Jvm.ClassFile.FieldType.array Jvm.ClassFile.FieldType.long))).before a0 Z = true := hw _ (List.mem_of_getElem? (i := 36) rfl)
theorem w37 {a0 : Array Value} {Z : State} (hw : Hw a0 Z) : (Jvm.Cond.fieldLink "org/subveil/Secp256r1Field" (140 : Nat) "org/subveil/Secp256r1Field" "P_LIMBS" "[J").before a0 Z = true := hw _ (List.mem_of_getElem? (i := 37) rfl)
theorem w38 {a0 : Array Value} {Z : State} (hw : Hw a0 Z) : (Jvm.Cond.laysStatic "org/subveil/Secp256r1Field" "P_LIMBS" "[J").before a0 Z = true := hw _ (List.mem_of_getElem? (i := 38) rfl)
theorem ef1 (m : MethodId) (x0 : Addr) : entryFrame m #[(.ref x0)] 11 = mkF m 0 #[.val (.ref x0), .unset, .unset, .unset, .unset, .unset, .unset, .unset, .unset, .unset, .unset] [] := by first | (simp [entryFrame, mkF, argsToLocals, Value.category]; done) | rfl
theorem pn1 : plainFor (⟨"org/subveil/Secp256r1FieldMultiplySmallPinLaw", "belowTwoP", "([J)Z"⟩ : MethodName) = true := plainFor_of_name (by first | (simp [plainName, overriddenIn]; done) | decide +kernel)
theorem d1_0 : decode method_2_code 0 = .ok (.ldc2_w 7, 3) := by decide +kernel
theorem d1_3 : decode method_2_code 3 = .ok (.lstore_n 1, 1) := by decide +kernel
theorem d1_4 : decode method_2_code 4 = .ok (.ldc2_w 9, 3) := by decide +kernel
theorem d1_7 : decode method_2_code 7 = .ok (.lstore_n 3, 1) := by decide +kernel
theorem d1_8 : decode method_2_code 8 = .ok (.lconst 0, 1) := by decide +kernel
theorem d1_9 : decode method_2_code 9 = .ok (.lstore 5, 2) := by decide +kernel
theorem d1_11 : decode method_2_code 11 = .ok (.ldc2_w 11, 3) := by decide +kernel
theorem d1_14 : decode method_2_code 14 = .ok (.lstore 7, 2) := by decide +kernel
theorem d1_16 : decode method_2_code 16 = .ok (.ldc2_w 13, 3) := by decide +kernel
theorem d1_19 : decode method_2_code 19 = .ok (.lstore 9, 2) := by decide +kernel
theorem d1_21 : decode method_2_code 21 = .ok (.aload_n 0, 1) := by decide +kernel
theorem d1_22 : decode method_2_code 22 = .ok (.iconst 4, 1) := by decide +kernel
theorem d1_23 : decode method_2_code 23 = .ok (.laload, 1) := by decide +kernel
theorem d1_24 : decode method_2_code 24 = .ok (.lload 9, 2) := by decide +kernel
theorem d1_26 : decode method_2_code 26 = .ok (.lcmp, 1) := by decide +kernel
theorem d1_27 : decode method_2_code 27 = .ok (.ifCond .eq 18, 3) := by decide +kernel
theorem d1_45 : decode method_2_code 45 = .ok (.aload_n 0, 1) := by decide +kernel
theorem d1_46 : decode method_2_code 46 = .ok (.iconst 3, 1) := by decide +kernel
theorem d1_47 : decode method_2_code 47 = .ok (.laload, 1) := by decide +kernel
theorem d1_48 : decode method_2_code 48 = .ok (.lload 7, 2) := by decide +kernel
theorem d1_50 : decode method_2_code 50 = .ok (.lcmp, 1) := by decide +kernel
theorem d1_51 : decode method_2_code 51 = .ok (.ifCond .eq 18, 3) := by decide +kernel
theorem d1_69 : decode method_2_code 69 = .ok (.aload_n 0, 1) := by decide +kernel
theorem d1_70 : decode method_2_code 70 = .ok (.iconst 2, 1) := by decide +kernel
theorem d1_71 : decode method_2_code 71 = .ok (.laload, 1) := by decide +kernel
theorem d1_72 : decode method_2_code 72 = .ok (.lload 5, 2) := by decide +kernel
theorem d1_74 : decode method_2_code 74 = .ok (.lcmp, 1) := by decide +kernel
theorem d1_75 : decode method_2_code 75 = .ok (.ifCond .eq 18, 3) := by decide +kernel
theorem d1_93 : decode method_2_code 93 = .ok (.aload_n 0, 1) := by decide +kernel
theorem d1_94 : decode method_2_code 94 = .ok (.iconst 1, 1) := by decide +kernel
theorem d1_95 : decode method_2_code 95 = .ok (.laload, 1) := by decide +kernel
theorem d1_96 : decode method_2_code 96 = .ok (.lload_n 3, 1) := by decide +kernel
theorem d1_97 : decode method_2_code 97 = .ok (.lcmp, 1) := by decide +kernel
theorem d1_98 : decode method_2_code 98 = .ok (.ifCond .eq 17, 3) := by decide +kernel
theorem d1_115 : decode method_2_code 115 = .ok (.aload_n 0, 1) := by decide +kernel
theorem d1_116 : decode method_2_code 116 = .ok (.iconst 0, 1) := by decide +kernel
theorem d1_117 : decode method_2_code 117 = .ok (.laload, 1) := by decide +kernel
theorem d1_118 : decode method_2_code 118 = .ok (.lload_n 1, 1) := by decide +kernel
theorem d1_119 : decode method_2_code 119 = .ok (.lcmp, 1) := by decide +kernel
theorem d1_120 : decode method_2_code 120 = .ok (.ifCond .ge 7, 3) := by decide +kernel
theorem d1_127 : decode method_2_code 127 = .ok (.iconst 0, 1) := by decide +kernel
theorem d1_128 : decode method_2_code 128 = .ok (.ireturn, 1) := by decide +kernel
theorem d1_123 : decode method_2_code 123 = .ok (.iconst 1, 1) := by decide +kernel
theorem d1_124 : decode method_2_code 124 = .ok (.goto 4, 3) := by decide +kernel
theorem d1_101 : decode method_2_code 101 = .ok (.aload_n 0, 1) := by decide +kernel
theorem d1_102 : decode method_2_code 102 = .ok (.iconst 1, 1) := by decide +kernel
theorem d1_103 : decode method_2_code 103 = .ok (.laload, 1) := by decide +kernel
theorem d1_104 : decode method_2_code 104 = .ok (.lload_n 3, 1) := by decide +kernel
theorem d1_105 : decode method_2_code 105 = .ok (.lcmp, 1) := by decide +kernel
theorem d1_106 : decode method_2_code 106 = .ok (.ifCond .ge 7, 3) := by decide +kernel
theorem d1_113 : decode method_2_code 113 = .ok (.iconst 0, 1) := by decide +kernel
theorem d1_114 : decode method_2_code 114 = .ok (.ireturn, 1) := by decide +kernel
theorem d1_109 : decode method_2_code 109 = .ok (.iconst 1, 1) := by decide +kernel
theorem d1_110 : decode method_2_code 110 = .ok (.goto 4, 3) := by decide +kernel
theorem d1_78 : decode method_2_code 78 = .ok (.aload_n 0, 1) := by decide +kernel
theorem d1_79 : decode method_2_code 79 = .ok (.iconst 2, 1) := by decide +kernel
theorem d1_80 : decode method_2_code 80 = .ok (.laload, 1) := by decide +kernel
theorem d1_81 : decode method_2_code 81 = .ok (.lload 5, 2) := by decide +kernel
theorem d1_83 : decode method_2_code 83 = .ok (.lcmp, 1) := by decide +kernel
theorem d1_84 : decode method_2_code 84 = .ok (.ifCond .ge 7, 3) := by decide +kernel
theorem d1_91 : decode method_2_code 91 = .ok (.iconst 0, 1) := by decide +kernel
theorem d1_92 : decode method_2_code 92 = .ok (.ireturn, 1) := by decide +kernel
theorem d1_87 : decode method_2_code 87 = .ok (.iconst 1, 1) := by decide +kernel
theorem d1_88 : decode method_2_code 88 = .ok (.goto 4, 3) := by decide +kernel
theorem d1_54 : decode method_2_code 54 = .ok (.aload_n 0, 1) := by decide +kernel
theorem d1_55 : decode method_2_code 55 = .ok (.iconst 3, 1) := by decide +kernel
theorem d1_56 : decode method_2_code 56 = .ok (.laload, 1) := by decide +kernel
theorem d1_57 : decode method_2_code 57 = .ok (.lload 7, 2) := by decide +kernel
theorem d1_59 : decode method_2_code 59 = .ok (.lcmp, 1) := by decide +kernel
theorem d1_60 : decode method_2_code 60 = .ok (.ifCond .ge 7, 3) := by decide +kernel
theorem d1_67 : decode method_2_code 67 = .ok (.iconst 0, 1) := by decide +kernel
theorem d1_68 : decode method_2_code 68 = .ok (.ireturn, 1) := by decide +kernel
theorem d1_63 : decode method_2_code 63 = .ok (.iconst 1, 1) := by decide +kernel
theorem d1_64 : decode method_2_code 64 = .ok (.goto 4, 3) := by decide +kernel
theorem d1_30 : decode method_2_code 30 = .ok (.aload_n 0, 1) := by decide +kernel
theorem d1_31 : decode method_2_code 31 = .ok (.iconst 4, 1) := by decide +kernel
theorem d1_32 : decode method_2_code 32 = .ok (.laload, 1) := by decide +kernel
theorem d1_33 : decode method_2_code 33 = .ok (.lload 9, 2) := by decide +kernel
theorem d1_35 : decode method_2_code 35 = .ok (.lcmp, 1) := by decide +kernel
theorem d1_36 : decode method_2_code 36 = .ok (.ifCond .ge 7, 3) := by decide +kernel
theorem d1_43 : decode method_2_code 43 = .ok (.iconst 0, 1) := by decide +kernel
theorem d1_44 : decode method_2_code 44 = .ok (.ireturn, 1) := by decide +kernel
theorem d1_39 : decode method_2_code 39 = .ok (.iconst 1, 1) := by decide +kernel
theorem d1_40 : decode method_2_code 40 = .ok (.goto 4, 3) := by decide +kernel
theorem ef5 (m : MethodId) (x0 : Addr) : entryFrame m #[(.ref x0)] 3 = mkF m 0 #[.val (.ref x0), .unset, .unset] [] := by first | (simp [entryFrame, mkF, argsToLocals, Value.category]; done) | rfl
theorem pn5 : plainFor (⟨"org/subveil/Secp256r1FieldMultiplySmallPinLaw", "normalized", "([J)Z"⟩ : MethodName) = true := plainFor_of_name (by first | (simp [plainName, overriddenIn]; done) | decide +kernel)
theorem d5_0 : decode method_3_code 0 = .ok (.ldc2_w 15, 3) := by decide +kernel
theorem d5_3 : decode method_3_code 3 = .ok (.lstore_n 1, 1) := by decide +kernel
theorem d5_4 : decode method_3_code 4 = .ok (.aload_n 0, 1) := by decide +kernel
theorem d5_5 : decode method_3_code 5 = .ok (.iconst 0, 1) := by decide +kernel
theorem d5_6 : decode method_3_code 6 = .ok (.laload, 1) := by decide +kernel
theorem d5_7 : decode method_3_code 7 = .ok (.lconst 0, 1) := by decide +kernel
theorem d5_8 : decode method_3_code 8 = .ok (.lcmp, 1) := by decide +kernel
theorem d5_9 : decode method_3_code 9 = .ok (.ifCond .lt 81, 3) := by decide +kernel
theorem d5_90 : decode method_3_code 90 = .ok (.iconst 0, 1) := by decide +kernel
theorem d5_91 : decode method_3_code 91 = .ok (.ireturn, 1) := by decide +kernel
theorem d5_12 : decode method_3_code 12 = .ok (.aload_n 0, 1) := by decide +kernel
theorem d5_13 : decode method_3_code 13 = .ok (.iconst 0, 1) := by decide +kernel
theorem d5_14 : decode method_3_code 14 = .ok (.laload, 1) := by decide +kernel
theorem d5_15 : decode method_3_code 15 = .ok (.lload_n 1, 1) := by decide +kernel
theorem d5_16 : decode method_3_code 16 = .ok (.lcmp, 1) := by decide +kernel
theorem d5_17 : decode method_3_code 17 = .ok (.ifCond .ge 73, 3) := by decide +kernel
theorem d5_20 : decode method_3_code 20 = .ok (.aload_n 0, 1) := by decide +kernel
theorem d5_21 : decode method_3_code 21 = .ok (.iconst 1, 1) := by decide +kernel
theorem d5_22 : decode method_3_code 22 = .ok (.laload, 1) := by decide +kernel
theorem d5_23 : decode method_3_code 23 = .ok (.lconst 0, 1) := by decide +kernel
theorem d5_24 : decode method_3_code 24 = .ok (.lcmp, 1) := by decide +kernel
theorem d5_25 : decode method_3_code 25 = .ok (.ifCond .lt 65, 3) := by decide +kernel
theorem d5_28 : decode method_3_code 28 = .ok (.aload_n 0, 1) := by decide +kernel
theorem d5_29 : decode method_3_code 29 = .ok (.iconst 1, 1) := by decide +kernel
theorem d5_30 : decode method_3_code 30 = .ok (.laload, 1) := by decide +kernel
theorem d5_31 : decode method_3_code 31 = .ok (.lload_n 1, 1) := by decide +kernel
theorem d5_32 : decode method_3_code 32 = .ok (.lcmp, 1) := by decide +kernel
theorem d5_33 : decode method_3_code 33 = .ok (.ifCond .ge 57, 3) := by decide +kernel
theorem d5_36 : decode method_3_code 36 = .ok (.aload_n 0, 1) := by decide +kernel
theorem d5_37 : decode method_3_code 37 = .ok (.iconst 2, 1) := by decide +kernel
theorem d5_38 : decode method_3_code 38 = .ok (.laload, 1) := by decide +kernel
theorem d5_39 : decode method_3_code 39 = .ok (.lconst 0, 1) := by decide +kernel
theorem d5_40 : decode method_3_code 40 = .ok (.lcmp, 1) := by decide +kernel
theorem d5_41 : decode method_3_code 41 = .ok (.ifCond .lt 49, 3) := by decide +kernel
theorem d5_44 : decode method_3_code 44 = .ok (.aload_n 0, 1) := by decide +kernel
theorem d5_45 : decode method_3_code 45 = .ok (.iconst 2, 1) := by decide +kernel
theorem d5_46 : decode method_3_code 46 = .ok (.laload, 1) := by decide +kernel
theorem d5_47 : decode method_3_code 47 = .ok (.lload_n 1, 1) := by decide +kernel
theorem d5_48 : decode method_3_code 48 = .ok (.lcmp, 1) := by decide +kernel
theorem d5_49 : decode method_3_code 49 = .ok (.ifCond .ge 41, 3) := by decide +kernel
theorem d5_52 : decode method_3_code 52 = .ok (.aload_n 0, 1) := by decide +kernel
theorem d5_53 : decode method_3_code 53 = .ok (.iconst 3, 1) := by decide +kernel
theorem d5_54 : decode method_3_code 54 = .ok (.laload, 1) := by decide +kernel
theorem d5_55 : decode method_3_code 55 = .ok (.lconst 0, 1) := by decide +kernel
theorem d5_56 : decode method_3_code 56 = .ok (.lcmp, 1) := by decide +kernel
theorem d5_57 : decode method_3_code 57 = .ok (.ifCond .lt 33, 3) := by decide +kernel
theorem d5_60 : decode method_3_code 60 = .ok (.aload_n 0, 1) := by decide +kernel
theorem d5_61 : decode method_3_code 61 = .ok (.iconst 3, 1) := by decide +kernel
theorem d5_62 : decode method_3_code 62 = .ok (.laload, 1) := by decide +kernel
theorem d5_63 : decode method_3_code 63 = .ok (.lload_n 1, 1) := by decide +kernel
theorem d5_64 : decode method_3_code 64 = .ok (.lcmp, 1) := by decide +kernel
theorem d5_65 : decode method_3_code 65 = .ok (.ifCond .ge 25, 3) := by decide +kernel
theorem d5_68 : decode method_3_code 68 = .ok (.aload_n 0, 1) := by decide +kernel
theorem d5_69 : decode method_3_code 69 = .ok (.iconst 4, 1) := by decide +kernel
theorem d5_70 : decode method_3_code 70 = .ok (.laload, 1) := by decide +kernel
theorem d5_71 : decode method_3_code 71 = .ok (.lconst 0, 1) := by decide +kernel
theorem d5_72 : decode method_3_code 72 = .ok (.lcmp, 1) := by decide +kernel
theorem d5_73 : decode method_3_code 73 = .ok (.ifCond .lt 17, 3) := by decide +kernel
theorem d5_76 : decode method_3_code 76 = .ok (.aload_n 0, 1) := by decide +kernel
theorem d5_77 : decode method_3_code 77 = .ok (.iconst 4, 1) := by decide +kernel
theorem d5_78 : decode method_3_code 78 = .ok (.laload, 1) := by decide +kernel
theorem d5_79 : decode method_3_code 79 = .ok (.ldc2_w 17, 3) := by decide +kernel
theorem d5_82 : decode method_3_code 82 = .ok (.lcmp, 1) := by decide +kernel
theorem d5_83 : decode method_3_code 83 = .ok (.ifCond .ge 7, 3) := by decide +kernel
theorem d5_86 : decode method_3_code 86 = .ok (.iconst 1, 1) := by decide +kernel
theorem d5_87 : decode method_3_code 87 = .ok (.goto 4, 3) := by decide +kernel
theorem ef3 (m : MethodId) (x0 : Addr) (x1 : Addr) (x2 : Int64) (x3 : Int64) (x4 : Int64) (x5 : Int64) (x6 : Int64) : entryFrame m #[(.ref x0), (.ref x1), (.long x2), (.long x3), (.long x4), (.long x5), (.long x6)] 24 = mkF m 0 #[.val (.ref x0), .val (.ref x1), .val (.long x2), .second, .val (.long x3), .second, .val (.long x4), .second, .val (.long x5), .second, .val (.long x6), .second, .unset, .unset, .unset, .unset, .unset, .unset, .unset, .unset, .unset, .unset, .unset, .unset] [] := by first | (simp [entryFrame, mkF, argsToLocals, Value.category]; done) | rfl
theorem pn3 : plainFor (⟨"org/subveil/Secp256r1Field", "subtractIfAtLeast", "([J[JJJJJJ)V"⟩ : MethodName) = true := plainFor_of_name (by first | (simp [plainName, overriddenIn]; done) | decide +kernel)
theorem d3_0 : decode prog_45_method_28_code 0 = .ok (.lload_n 2, 1) := by decide +kernel
theorem d3_1 : decode prog_45_method_28_code 1 = .ok (.aload_n 1, 1) := by decide +kernel
theorem d3_2 : decode prog_45_method_28_code 2 = .ok (.iconst 0, 1) := by decide +kernel
theorem d3_3 : decode prog_45_method_28_code 3 = .ok (.laload, 1) := by decide +kernel
theorem d3_4 : decode prog_45_method_28_code 4 = .ok (.lsub, 1) := by decide +kernel
theorem d3_5 : decode prog_45_method_28_code 5 = .ok (.lstore 12, 2) := by decide +kernel
theorem d3_7 : decode prog_45_method_28_code 7 = .ok (.lload 4, 2) := by decide +kernel
theorem d3_9 : decode prog_45_method_28_code 9 = .ok (.aload_n 1, 1) := by decide +kernel
theorem d3_10 : decode prog_45_method_28_code 10 = .ok (.iconst 1, 1) := by decide +kernel
theorem d3_11 : decode prog_45_method_28_code 11 = .ok (.laload, 1) := by decide +kernel
theorem d3_12 : decode prog_45_method_28_code 12 = .ok (.lsub, 1) := by decide +kernel
theorem d3_13 : decode prog_45_method_28_code 13 = .ok (.lload 12, 2) := by decide +kernel
theorem d3_15 : decode prog_45_method_28_code 15 = .ok (.bipush 52, 2) := by decide +kernel
theorem d3_17 : decode prog_45_method_28_code 17 = .ok (.lshr, 1) := by decide +kernel
theorem d3_18 : decode prog_45_method_28_code 18 = .ok (.ladd, 1) := by decide +kernel
theorem d3_19 : decode prog_45_method_28_code 19 = .ok (.lstore 14, 2) := by decide +kernel
theorem d3_21 : decode prog_45_method_28_code 21 = .ok (.lload 6, 2) := by decide +kernel
theorem d3_23 : decode prog_45_method_28_code 23 = .ok (.aload_n 1, 1) := by decide +kernel
theorem d3_24 : decode prog_45_method_28_code 24 = .ok (.iconst 2, 1) := by decide +kernel
theorem d3_25 : decode prog_45_method_28_code 25 = .ok (.laload, 1) := by decide +kernel
theorem d3_26 : decode prog_45_method_28_code 26 = .ok (.lsub, 1) := by decide +kernel
theorem d3_27 : decode prog_45_method_28_code 27 = .ok (.lload 14, 2) := by decide +kernel
theorem d3_29 : decode prog_45_method_28_code 29 = .ok (.bipush 52, 2) := by decide +kernel
theorem d3_31 : decode prog_45_method_28_code 31 = .ok (.lshr, 1) := by decide +kernel
theorem d3_32 : decode prog_45_method_28_code 32 = .ok (.ladd, 1) := by decide +kernel
theorem d3_33 : decode prog_45_method_28_code 33 = .ok (.lstore 16, 2) := by decide +kernel
theorem d3_35 : decode prog_45_method_28_code 35 = .ok (.lload 8, 2) := by decide +kernel
theorem d3_37 : decode prog_45_method_28_code 37 = .ok (.aload_n 1, 1) := by decide +kernel
theorem d3_38 : decode prog_45_method_28_code 38 = .ok (.iconst 3, 1) := by decide +kernel
theorem d3_39 : decode prog_45_method_28_code 39 = .ok (.laload, 1) := by decide +kernel
theorem d3_40 : decode prog_45_method_28_code 40 = .ok (.lsub, 1) := by decide +kernel
theorem d3_41 : decode prog_45_method_28_code 41 = .ok (.lload 16, 2) := by decide +kernel
theorem d3_43 : decode prog_45_method_28_code 43 = .ok (.bipush 52, 2) := by decide +kernel
theorem d3_45 : decode prog_45_method_28_code 45 = .ok (.lshr, 1) := by decide +kernel
theorem d3_46 : decode prog_45_method_28_code 46 = .ok (.ladd, 1) := by decide +kernel
theorem d3_47 : decode prog_45_method_28_code 47 = .ok (.lstore 18, 2) := by decide +kernel
theorem d3_49 : decode prog_45_method_28_code 49 = .ok (.lload 10, 2) := by decide +kernel
theorem d3_51 : decode prog_45_method_28_code 51 = .ok (.aload_n 1, 1) := by decide +kernel
theorem d3_52 : decode prog_45_method_28_code 52 = .ok (.iconst 4, 1) := by decide +kernel
theorem d3_53 : decode prog_45_method_28_code 53 = .ok (.laload, 1) := by decide +kernel
theorem d3_54 : decode prog_45_method_28_code 54 = .ok (.lsub, 1) := by decide +kernel
theorem d3_55 : decode prog_45_method_28_code 55 = .ok (.lload 18, 2) := by decide +kernel
theorem d3_57 : decode prog_45_method_28_code 57 = .ok (.bipush 52, 2) := by decide +kernel
theorem d3_59 : decode prog_45_method_28_code 59 = .ok (.lshr, 1) := by decide +kernel
theorem d3_60 : decode prog_45_method_28_code 60 = .ok (.ladd, 1) := by decide +kernel
theorem d3_61 : decode prog_45_method_28_code 61 = .ok (.lstore 20, 2) := by decide +kernel
theorem d3_63 : decode prog_45_method_28_code 63 = .ok (.lload 20, 2) := by decide +kernel
theorem d3_65 : decode prog_45_method_28_code 65 = .ok (.bipush 63, 2) := by decide +kernel
theorem d3_67 : decode prog_45_method_28_code 67 = .ok (.lshr, 1) := by decide +kernel
theorem d3_68 : decode prog_45_method_28_code 68 = .ok (.lstore 22, 2) := by decide +kernel
theorem d3_70 : decode prog_45_method_28_code 70 = .ok (.aload_n 0, 1) := by decide +kernel
theorem d3_71 : decode prog_45_method_28_code 71 = .ok (.iconst 0, 1) := by decide +kernel
theorem d3_72 : decode prog_45_method_28_code 72 = .ok (.lload_n 2, 1) := by decide +kernel
theorem d3_73 : decode prog_45_method_28_code 73 = .ok (.lload 22, 2) := by decide +kernel
theorem d3_75 : decode prog_45_method_28_code 75 = .ok (.land, 1) := by decide +kernel
theorem d3_76 : decode prog_45_method_28_code 76 = .ok (.lload 12, 2) := by decide +kernel
theorem d3_78 : decode prog_45_method_28_code 78 = .ok (.ldc2_w 25, 3) := by decide +kernel
theorem d3_81 : decode prog_45_method_28_code 81 = .ok (.land, 1) := by decide +kernel
theorem d3_82 : decode prog_45_method_28_code 82 = .ok (.lload 22, 2) := by decide +kernel
theorem d3_84 : decode prog_45_method_28_code 84 = .ok (.ldc2_w 143, 3) := by decide +kernel
theorem d3_87 : decode prog_45_method_28_code 87 = .ok (.lxor, 1) := by decide +kernel
theorem d3_88 : decode prog_45_method_28_code 88 = .ok (.land, 1) := by decide +kernel
theorem d3_89 : decode prog_45_method_28_code 89 = .ok (.lor, 1) := by decide +kernel
theorem d3_90 : decode prog_45_method_28_code 90 = .ok (.lastore, 1) := by decide +kernel
theorem d3_91 : decode prog_45_method_28_code 91 = .ok (.aload_n 0, 1) := by decide +kernel
theorem d3_92 : decode prog_45_method_28_code 92 = .ok (.iconst 1, 1) := by decide +kernel
theorem d3_93 : decode prog_45_method_28_code 93 = .ok (.lload 4, 2) := by decide +kernel
theorem d3_95 : decode prog_45_method_28_code 95 = .ok (.lload 22, 2) := by decide +kernel
theorem d3_97 : decode prog_45_method_28_code 97 = .ok (.land, 1) := by decide +kernel
theorem d3_98 : decode prog_45_method_28_code 98 = .ok (.lload 14, 2) := by decide +kernel
theorem d3_100 : decode prog_45_method_28_code 100 = .ok (.ldc2_w 25, 3) := by decide +kernel
theorem d3_103 : decode prog_45_method_28_code 103 = .ok (.land, 1) := by decide +kernel
theorem d3_104 : decode prog_45_method_28_code 104 = .ok (.lload 22, 2) := by decide +kernel
theorem d3_106 : decode prog_45_method_28_code 106 = .ok (.ldc2_w 143, 3) := by decide +kernel
theorem d3_109 : decode prog_45_method_28_code 109 = .ok (.lxor, 1) := by decide +kernel
theorem d3_110 : decode prog_45_method_28_code 110 = .ok (.land, 1) := by decide +kernel
theorem d3_111 : decode prog_45_method_28_code 111 = .ok (.lor, 1) := by decide +kernel
theorem d3_112 : decode prog_45_method_28_code 112 = .ok (.lastore, 1) := by decide +kernel
theorem d3_113 : decode prog_45_method_28_code 113 = .ok (.aload_n 0, 1) := by decide +kernel
theorem d3_114 : decode prog_45_method_28_code 114 = .ok (.iconst 2, 1) := by decide +kernel
theorem d3_115 : decode prog_45_method_28_code 115 = .ok (.lload 6, 2) := by decide +kernel
theorem d3_117 : decode prog_45_method_28_code 117 = .ok (.lload 22, 2) := by decide +kernel
theorem d3_119 : decode prog_45_method_28_code 119 = .ok (.land, 1) := by decide +kernel
theorem d3_120 : decode prog_45_method_28_code 120 = .ok (.lload 16, 2) := by decide +kernel
theorem d3_122 : decode prog_45_method_28_code 122 = .ok (.ldc2_w 25, 3) := by decide +kernel
theorem d3_125 : decode prog_45_method_28_code 125 = .ok (.land, 1) := by decide +kernel
theorem d3_126 : decode prog_45_method_28_code 126 = .ok (.lload 22, 2) := by decide +kernel
theorem d3_128 : decode prog_45_method_28_code 128 = .ok (.ldc2_w 143, 3) := by decide +kernel
theorem d3_131 : decode prog_45_method_28_code 131 = .ok (.lxor, 1) := by decide +kernel
theorem d3_132 : decode prog_45_method_28_code 132 = .ok (.land, 1) := by decide +kernel
theorem d3_133 : decode prog_45_method_28_code 133 = .ok (.lor, 1) := by decide +kernel
theorem d3_134 : decode prog_45_method_28_code 134 = .ok (.lastore, 1) := by decide +kernel
theorem d3_135 : decode prog_45_method_28_code 135 = .ok (.aload_n 0, 1) := by decide +kernel
theorem d3_136 : decode prog_45_method_28_code 136 = .ok (.iconst 3, 1) := by decide +kernel
theorem d3_137 : decode prog_45_method_28_code 137 = .ok (.lload 8, 2) := by decide +kernel
theorem d3_139 : decode prog_45_method_28_code 139 = .ok (.lload 22, 2) := by decide +kernel
theorem d3_141 : decode prog_45_method_28_code 141 = .ok (.land, 1) := by decide +kernel
theorem d3_142 : decode prog_45_method_28_code 142 = .ok (.lload 18, 2) := by decide +kernel
theorem d3_144 : decode prog_45_method_28_code 144 = .ok (.ldc2_w 25, 3) := by decide +kernel
theorem d3_147 : decode prog_45_method_28_code 147 = .ok (.land, 1) := by decide +kernel
theorem d3_148 : decode prog_45_method_28_code 148 = .ok (.lload 22, 2) := by decide +kernel
theorem d3_150 : decode prog_45_method_28_code 150 = .ok (.ldc2_w 143, 3) := by decide +kernel
theorem d3_153 : decode prog_45_method_28_code 153 = .ok (.lxor, 1) := by decide +kernel
theorem d3_154 : decode prog_45_method_28_code 154 = .ok (.land, 1) := by decide +kernel
theorem d3_155 : decode prog_45_method_28_code 155 = .ok (.lor, 1) := by decide +kernel
theorem d3_156 : decode prog_45_method_28_code 156 = .ok (.lastore, 1) := by decide +kernel
theorem d3_157 : decode prog_45_method_28_code 157 = .ok (.aload_n 0, 1) := by decide +kernel
theorem d3_158 : decode prog_45_method_28_code 158 = .ok (.iconst 4, 1) := by decide +kernel
theorem d3_159 : decode prog_45_method_28_code 159 = .ok (.lload 10, 2) := by decide +kernel
theorem d3_161 : decode prog_45_method_28_code 161 = .ok (.lload 22, 2) := by decide +kernel
theorem d3_163 : decode prog_45_method_28_code 163 = .ok (.land, 1) := by decide +kernel
theorem d3_164 : decode prog_45_method_28_code 164 = .ok (.lload 20, 2) := by decide +kernel
theorem d3_166 : decode prog_45_method_28_code 166 = .ok (.lload 22, 2) := by decide +kernel
theorem d3_168 : decode prog_45_method_28_code 168 = .ok (.ldc2_w 143, 3) := by decide +kernel
theorem d3_171 : decode prog_45_method_28_code 171 = .ok (.lxor, 1) := by decide +kernel
theorem d3_172 : decode prog_45_method_28_code 172 = .ok (.land, 1) := by decide +kernel
theorem d3_173 : decode prog_45_method_28_code 173 = .ok (.lor, 1) := by decide +kernel
theorem d3_174 : decode prog_45_method_28_code 174 = .ok (.lastore, 1) := by decide +kernel
theorem d3_175 : decode prog_45_method_28_code 175 = .ok (.return_, 1) := by decide +kernel
theorem ef2 (m : MethodId) (x0 : Addr) (x1 : Addr) (x2 : Addr) : entryFrame m #[(.ref x0), (.ref x1), (.ref x2)] 13 = mkF m 0 #[.val (.ref x0), .val (.ref x1), .val (.ref x2), .unset, .unset, .unset, .unset, .unset, .unset, .unset, .unset, .unset, .unset] [] := by first | (simp [entryFrame, mkF, argsToLocals, Value.category]; done) | rfl
theorem pn2 : plainFor (⟨"org/subveil/Secp256r1Field", "add", "([J[J[J)V"⟩ : MethodName) = true := plainFor_of_name (by first | (simp [plainName, overriddenIn]; done) | decide +kernel)
theorem d2_0 : decode prog_45_method_9_code 0 = .ok (.aload_n 1, 1) := by decide +kernel
theorem d2_1 : decode prog_45_method_9_code 1 = .ok (.iconst 0, 1) := by decide +kernel
theorem d2_2 : decode prog_45_method_9_code 2 = .ok (.laload, 1) := by decide +kernel
theorem d2_3 : decode prog_45_method_9_code 3 = .ok (.aload_n 2, 1) := by decide +kernel
theorem d2_4 : decode prog_45_method_9_code 4 = .ok (.iconst 0, 1) := by decide +kernel
theorem d2_5 : decode prog_45_method_9_code 5 = .ok (.laload, 1) := by decide +kernel
theorem d2_6 : decode prog_45_method_9_code 6 = .ok (.ladd, 1) := by decide +kernel
theorem d2_7 : decode prog_45_method_9_code 7 = .ok (.lstore_n 3, 1) := by decide +kernel
theorem d2_8 : decode prog_45_method_9_code 8 = .ok (.aload_n 1, 1) := by decide +kernel
theorem d2_9 : decode prog_45_method_9_code 9 = .ok (.iconst 1, 1) := by decide +kernel
theorem d2_10 : decode prog_45_method_9_code 10 = .ok (.laload, 1) := by decide +kernel
theorem d2_11 : decode prog_45_method_9_code 11 = .ok (.aload_n 2, 1) := by decide +kernel
theorem d2_12 : decode prog_45_method_9_code 12 = .ok (.iconst 1, 1) := by decide +kernel
theorem d2_13 : decode prog_45_method_9_code 13 = .ok (.laload, 1) := by decide +kernel
theorem d2_14 : decode prog_45_method_9_code 14 = .ok (.ladd, 1) := by decide +kernel
theorem d2_15 : decode prog_45_method_9_code 15 = .ok (.lload_n 3, 1) := by decide +kernel
theorem d2_16 : decode prog_45_method_9_code 16 = .ok (.bipush 52, 2) := by decide +kernel
theorem d2_18 : decode prog_45_method_9_code 18 = .ok (.lushr, 1) := by decide +kernel
theorem d2_19 : decode prog_45_method_9_code 19 = .ok (.ladd, 1) := by decide +kernel
theorem d2_20 : decode prog_45_method_9_code 20 = .ok (.lstore 5, 2) := by decide +kernel
theorem d2_22 : decode prog_45_method_9_code 22 = .ok (.aload_n 1, 1) := by decide +kernel
theorem d2_23 : decode prog_45_method_9_code 23 = .ok (.iconst 2, 1) := by decide +kernel
theorem d2_24 : decode prog_45_method_9_code 24 = .ok (.laload, 1) := by decide +kernel
theorem d2_25 : decode prog_45_method_9_code 25 = .ok (.aload_n 2, 1) := by decide +kernel
theorem d2_26 : decode prog_45_method_9_code 26 = .ok (.iconst 2, 1) := by decide +kernel
theorem d2_27 : decode prog_45_method_9_code 27 = .ok (.laload, 1) := by decide +kernel
theorem d2_28 : decode prog_45_method_9_code 28 = .ok (.ladd, 1) := by decide +kernel
theorem d2_29 : decode prog_45_method_9_code 29 = .ok (.lload 5, 2) := by decide +kernel
theorem d2_31 : decode prog_45_method_9_code 31 = .ok (.bipush 52, 2) := by decide +kernel
theorem d2_33 : decode prog_45_method_9_code 33 = .ok (.lushr, 1) := by decide +kernel
theorem d2_34 : decode prog_45_method_9_code 34 = .ok (.ladd, 1) := by decide +kernel
theorem d2_35 : decode prog_45_method_9_code 35 = .ok (.lstore 7, 2) := by decide +kernel
theorem d2_37 : decode prog_45_method_9_code 37 = .ok (.aload_n 1, 1) := by decide +kernel
theorem d2_38 : decode prog_45_method_9_code 38 = .ok (.iconst 3, 1) := by decide +kernel
theorem d2_39 : decode prog_45_method_9_code 39 = .ok (.laload, 1) := by decide +kernel
theorem d2_40 : decode prog_45_method_9_code 40 = .ok (.aload_n 2, 1) := by decide +kernel
theorem d2_41 : decode prog_45_method_9_code 41 = .ok (.iconst 3, 1) := by decide +kernel
theorem d2_42 : decode prog_45_method_9_code 42 = .ok (.laload, 1) := by decide +kernel
theorem d2_43 : decode prog_45_method_9_code 43 = .ok (.ladd, 1) := by decide +kernel
theorem d2_44 : decode prog_45_method_9_code 44 = .ok (.lload 7, 2) := by decide +kernel
theorem d2_46 : decode prog_45_method_9_code 46 = .ok (.bipush 52, 2) := by decide +kernel
theorem d2_48 : decode prog_45_method_9_code 48 = .ok (.lushr, 1) := by decide +kernel
theorem d2_49 : decode prog_45_method_9_code 49 = .ok (.ladd, 1) := by decide +kernel
theorem d2_50 : decode prog_45_method_9_code 50 = .ok (.lstore 9, 2) := by decide +kernel
theorem d2_52 : decode prog_45_method_9_code 52 = .ok (.aload_n 1, 1) := by decide +kernel
theorem d2_53 : decode prog_45_method_9_code 53 = .ok (.iconst 4, 1) := by decide +kernel
theorem d2_54 : decode prog_45_method_9_code 54 = .ok (.laload, 1) := by decide +kernel
theorem d2_55 : decode prog_45_method_9_code 55 = .ok (.aload_n 2, 1) := by decide +kernel
theorem d2_56 : decode prog_45_method_9_code 56 = .ok (.iconst 4, 1) := by decide +kernel
theorem d2_57 : decode prog_45_method_9_code 57 = .ok (.laload, 1) := by decide +kernel
theorem d2_58 : decode prog_45_method_9_code 58 = .ok (.ladd, 1) := by decide +kernel
theorem d2_59 : decode prog_45_method_9_code 59 = .ok (.lload 9, 2) := by decide +kernel
theorem d2_61 : decode prog_45_method_9_code 61 = .ok (.bipush 52, 2) := by decide +kernel
theorem d2_63 : decode prog_45_method_9_code 63 = .ok (.lushr, 1) := by decide +kernel
theorem d2_64 : decode prog_45_method_9_code 64 = .ok (.ladd, 1) := by decide +kernel
theorem d2_65 : decode prog_45_method_9_code 65 = .ok (.lstore 11, 2) := by decide +kernel
theorem d2_67 : decode prog_45_method_9_code 67 = .ok (.aload_n 0, 1) := by decide +kernel
theorem d2_68 : decode prog_45_method_9_code 68 = .ok (.getstatic 38, 3) := by decide +kernel
theorem d2_71 : decode prog_45_method_9_code 71 = .ok (.lload_n 3, 1) := by decide +kernel
theorem d2_72 : decode prog_45_method_9_code 72 = .ok (.ldc2_w 25, 3) := by decide +kernel
theorem d2_75 : decode prog_45_method_9_code 75 = .ok (.land, 1) := by decide +kernel
theorem d2_76 : decode prog_45_method_9_code 76 = .ok (.lload 5, 2) := by decide +kernel
theorem d2_78 : decode prog_45_method_9_code 78 = .ok (.ldc2_w 25, 3) := by decide +kernel
theorem d2_81 : decode prog_45_method_9_code 81 = .ok (.land, 1) := by decide +kernel
theorem d2_82 : decode prog_45_method_9_code 82 = .ok (.lload 7, 2) := by decide +kernel
theorem d2_84 : decode prog_45_method_9_code 84 = .ok (.ldc2_w 25, 3) := by decide +kernel
theorem d2_87 : decode prog_45_method_9_code 87 = .ok (.land, 1) := by decide +kernel
theorem d2_88 : decode prog_45_method_9_code 88 = .ok (.lload 9, 2) := by decide +kernel
theorem d2_90 : decode prog_45_method_9_code 90 = .ok (.ldc2_w 25, 3) := by decide +kernel
theorem d2_93 : decode prog_45_method_9_code 93 = .ok (.land, 1) := by decide +kernel
theorem d2_94 : decode prog_45_method_9_code 94 = .ok (.lload 11, 2) := by decide +kernel
theorem d2_96 : decode prog_45_method_9_code 96 = .ok (.invokestatic 41, 3) := by decide +kernel
theorem pd4 : parseMethodDescriptor "([J[JJJJJJ)V" = some ⟨[(.array .long), (.array .long), .long, .long, .long, .long, .long], none⟩ := by decide +kernel
theorem d2_99 : decode prog_45_method_9_code 99 = .ok (.return_, 1) := by decide +kernel
theorem ef4 (m : MethodId) (x0 : Addr) (x1 : Addr) (x2 : Int32) : entryFrame m #[(.ref x0), (.ref x1), (.int x2)] 15 = mkF m 0 #[.val (.ref x0), .val (.ref x1), .val (.int x2), .unset, .unset, .unset, .unset, .unset, .unset, .unset, .unset, .unset, .unset, .unset, .unset] [] := by first | (simp [entryFrame, mkF, argsToLocals, Value.category]; done) | rfl
theorem pn4 : plainFor (⟨"org/subveil/Secp256r1Field", "multiplySmall", "([J[JI)V"⟩ : MethodName) = true := plainFor_of_name (by first | (simp [plainName, overriddenIn]; done) | decide +kernel)
theorem d4_0 : decode prog_45_method_15_code 0 = .ok (.aload_n 1, 1) := by decide +kernel
theorem d4_1 : decode prog_45_method_15_code 1 = .ok (.iconst 0, 1) := by decide +kernel
theorem d4_2 : decode prog_45_method_15_code 2 = .ok (.laload, 1) := by decide +kernel
theorem d4_3 : decode prog_45_method_15_code 3 = .ok (.iload_n 2, 1) := by decide +kernel
theorem d4_4 : decode prog_45_method_15_code 4 = .ok (.i2l, 1) := by decide +kernel
theorem d4_5 : decode prog_45_method_15_code 5 = .ok (.lmul, 1) := by decide +kernel
theorem d4_6 : decode prog_45_method_15_code 6 = .ok (.lstore_n 3, 1) := by decide +kernel
theorem d4_7 : decode prog_45_method_15_code 7 = .ok (.aload_n 1, 1) := by decide +kernel
theorem d4_8 : decode prog_45_method_15_code 8 = .ok (.iconst 1, 1) := by decide +kernel
theorem d4_9 : decode prog_45_method_15_code 9 = .ok (.laload, 1) := by decide +kernel
theorem d4_10 : decode prog_45_method_15_code 10 = .ok (.iload_n 2, 1) := by decide +kernel
theorem d4_11 : decode prog_45_method_15_code 11 = .ok (.i2l, 1) := by decide +kernel
theorem d4_12 : decode prog_45_method_15_code 12 = .ok (.lmul, 1) := by decide +kernel
theorem d4_13 : decode prog_45_method_15_code 13 = .ok (.lload_n 3, 1) := by decide +kernel
theorem d4_14 : decode prog_45_method_15_code 14 = .ok (.bipush 52, 2) := by decide +kernel
theorem d4_16 : decode prog_45_method_15_code 16 = .ok (.lshr, 1) := by decide +kernel
theorem d4_17 : decode prog_45_method_15_code 17 = .ok (.ladd, 1) := by decide +kernel
theorem d4_18 : decode prog_45_method_15_code 18 = .ok (.lstore 5, 2) := by decide +kernel
theorem d4_20 : decode prog_45_method_15_code 20 = .ok (.aload_n 1, 1) := by decide +kernel
theorem d4_21 : decode prog_45_method_15_code 21 = .ok (.iconst 2, 1) := by decide +kernel
theorem d4_22 : decode prog_45_method_15_code 22 = .ok (.laload, 1) := by decide +kernel
theorem d4_23 : decode prog_45_method_15_code 23 = .ok (.iload_n 2, 1) := by decide +kernel
theorem d4_24 : decode prog_45_method_15_code 24 = .ok (.i2l, 1) := by decide +kernel
theorem d4_25 : decode prog_45_method_15_code 25 = .ok (.lmul, 1) := by decide +kernel
theorem d4_26 : decode prog_45_method_15_code 26 = .ok (.lload 5, 2) := by decide +kernel
theorem d4_28 : decode prog_45_method_15_code 28 = .ok (.bipush 52, 2) := by decide +kernel
theorem d4_30 : decode prog_45_method_15_code 30 = .ok (.lshr, 1) := by decide +kernel
theorem d4_31 : decode prog_45_method_15_code 31 = .ok (.ladd, 1) := by decide +kernel
theorem d4_32 : decode prog_45_method_15_code 32 = .ok (.lstore 7, 2) := by decide +kernel
theorem d4_34 : decode prog_45_method_15_code 34 = .ok (.aload_n 1, 1) := by decide +kernel
theorem d4_35 : decode prog_45_method_15_code 35 = .ok (.iconst 3, 1) := by decide +kernel
theorem d4_36 : decode prog_45_method_15_code 36 = .ok (.laload, 1) := by decide +kernel
theorem d4_37 : decode prog_45_method_15_code 37 = .ok (.iload_n 2, 1) := by decide +kernel
theorem d4_38 : decode prog_45_method_15_code 38 = .ok (.i2l, 1) := by decide +kernel
theorem d4_39 : decode prog_45_method_15_code 39 = .ok (.lmul, 1) := by decide +kernel
theorem d4_40 : decode prog_45_method_15_code 40 = .ok (.lload 7, 2) := by decide +kernel
theorem d4_42 : decode prog_45_method_15_code 42 = .ok (.bipush 52, 2) := by decide +kernel
theorem d4_44 : decode prog_45_method_15_code 44 = .ok (.lshr, 1) := by decide +kernel
theorem d4_45 : decode prog_45_method_15_code 45 = .ok (.ladd, 1) := by decide +kernel
theorem d4_46 : decode prog_45_method_15_code 46 = .ok (.lstore 9, 2) := by decide +kernel
theorem d4_48 : decode prog_45_method_15_code 48 = .ok (.aload_n 1, 1) := by decide +kernel
theorem d4_49 : decode prog_45_method_15_code 49 = .ok (.iconst 4, 1) := by decide +kernel
theorem d4_50 : decode prog_45_method_15_code 50 = .ok (.laload, 1) := by decide +kernel
theorem d4_51 : decode prog_45_method_15_code 51 = .ok (.iload_n 2, 1) := by decide +kernel
theorem d4_52 : decode prog_45_method_15_code 52 = .ok (.i2l, 1) := by decide +kernel
theorem d4_53 : decode prog_45_method_15_code 53 = .ok (.lmul, 1) := by decide +kernel
theorem d4_54 : decode prog_45_method_15_code 54 = .ok (.lload 9, 2) := by decide +kernel
theorem d4_56 : decode prog_45_method_15_code 56 = .ok (.bipush 52, 2) := by decide +kernel
theorem d4_58 : decode prog_45_method_15_code 58 = .ok (.lshr, 1) := by decide +kernel
theorem d4_59 : decode prog_45_method_15_code 59 = .ok (.ladd, 1) := by decide +kernel
theorem d4_60 : decode prog_45_method_15_code 60 = .ok (.lstore 11, 2) := by decide +kernel
theorem d4_62 : decode prog_45_method_15_code 62 = .ok (.lload 11, 2) := by decide +kernel
theorem d4_64 : decode prog_45_method_15_code 64 = .ok (.bipush 48, 2) := by decide +kernel
theorem d4_66 : decode prog_45_method_15_code 66 = .ok (.lshr, 1) := by decide +kernel
theorem d4_67 : decode prog_45_method_15_code 67 = .ok (.lstore 13, 2) := by decide +kernel
theorem d4_69 : decode prog_45_method_15_code 69 = .ok (.lload_n 3, 1) := by decide +kernel
theorem d4_70 : decode prog_45_method_15_code 70 = .ok (.ldc2_w 25, 3) := by decide +kernel
theorem d4_73 : decode prog_45_method_15_code 73 = .ok (.land, 1) := by decide +kernel
theorem d4_74 : decode prog_45_method_15_code 74 = .ok (.lload 13, 2) := by decide +kernel
theorem d4_76 : decode prog_45_method_15_code 76 = .ok (.ladd, 1) := by decide +kernel
theorem d4_77 : decode prog_45_method_15_code 77 = .ok (.lstore_n 3, 1) := by decide +kernel
theorem d4_78 : decode prog_45_method_15_code 78 = .ok (.lload 5, 2) := by decide +kernel
theorem d4_80 : decode prog_45_method_15_code 80 = .ok (.ldc2_w 25, 3) := by decide +kernel
theorem d4_83 : decode prog_45_method_15_code 83 = .ok (.land, 1) := by decide +kernel
theorem d4_84 : decode prog_45_method_15_code 84 = .ok (.lload 13, 2) := by decide +kernel
theorem d4_86 : decode prog_45_method_15_code 86 = .ok (.bipush 44, 2) := by decide +kernel
theorem d4_88 : decode prog_45_method_15_code 88 = .ok (.lshl, 1) := by decide +kernel
theorem d4_89 : decode prog_45_method_15_code 89 = .ok (.lsub, 1) := by decide +kernel
theorem d4_90 : decode prog_45_method_15_code 90 = .ok (.lstore 5, 2) := by decide +kernel
theorem d4_92 : decode prog_45_method_15_code 92 = .ok (.lload 9, 2) := by decide +kernel
theorem d4_94 : decode prog_45_method_15_code 94 = .ok (.ldc2_w 25, 3) := by decide +kernel
theorem d4_97 : decode prog_45_method_15_code 97 = .ok (.land, 1) := by decide +kernel
theorem d4_98 : decode prog_45_method_15_code 98 = .ok (.lload 13, 2) := by decide +kernel
theorem d4_100 : decode prog_45_method_15_code 100 = .ok (.bipush 36, 2) := by decide +kernel
theorem d4_102 : decode prog_45_method_15_code 102 = .ok (.lshl, 1) := by decide +kernel
theorem d4_103 : decode prog_45_method_15_code 103 = .ok (.lsub, 1) := by decide +kernel
theorem d4_104 : decode prog_45_method_15_code 104 = .ok (.lstore 9, 2) := by decide +kernel
theorem d4_106 : decode prog_45_method_15_code 106 = .ok (.lload 11, 2) := by decide +kernel
theorem d4_108 : decode prog_45_method_15_code 108 = .ok (.ldc2_w 60, 3) := by decide +kernel
theorem d4_111 : decode prog_45_method_15_code 111 = .ok (.land, 1) := by decide +kernel
theorem d4_112 : decode prog_45_method_15_code 112 = .ok (.lload 13, 2) := by decide +kernel
theorem d4_114 : decode prog_45_method_15_code 114 = .ok (.bipush 16, 2) := by decide +kernel
theorem d4_116 : decode prog_45_method_15_code 116 = .ok (.lshl, 1) := by decide +kernel
theorem d4_117 : decode prog_45_method_15_code 117 = .ok (.ladd, 1) := by decide +kernel
theorem d4_118 : decode prog_45_method_15_code 118 = .ok (.lstore 11, 2) := by decide +kernel
theorem d4_120 : decode prog_45_method_15_code 120 = .ok (.lload 5, 2) := by decide +kernel
theorem d4_122 : decode prog_45_method_15_code 122 = .ok (.lload_n 3, 1) := by decide +kernel
theorem d4_123 : decode prog_45_method_15_code 123 = .ok (.bipush 52, 2) := by decide +kernel
theorem d4_125 : decode prog_45_method_15_code 125 = .ok (.lshr, 1) := by decide +kernel
theorem d4_126 : decode prog_45_method_15_code 126 = .ok (.ladd, 1) := by decide +kernel
theorem d4_127 : decode prog_45_method_15_code 127 = .ok (.lstore 5, 2) := by decide +kernel
theorem d4_129 : decode prog_45_method_15_code 129 = .ok (.lload 7, 2) := by decide +kernel
theorem d4_131 : decode prog_45_method_15_code 131 = .ok (.ldc2_w 25, 3) := by decide +kernel
theorem d4_134 : decode prog_45_method_15_code 134 = .ok (.land, 1) := by decide +kernel
theorem d4_135 : decode prog_45_method_15_code 135 = .ok (.lload 5, 2) := by decide +kernel
theorem d4_137 : decode prog_45_method_15_code 137 = .ok (.bipush 52, 2) := by decide +kernel
theorem d4_139 : decode prog_45_method_15_code 139 = .ok (.lshr, 1) := by decide +kernel
theorem d4_140 : decode prog_45_method_15_code 140 = .ok (.ladd, 1) := by decide +kernel
theorem d4_141 : decode prog_45_method_15_code 141 = .ok (.lstore 7, 2) := by decide +kernel
theorem d4_143 : decode prog_45_method_15_code 143 = .ok (.lload 9, 2) := by decide +kernel
theorem d4_145 : decode prog_45_method_15_code 145 = .ok (.lload 7, 2) := by decide +kernel
theorem d4_147 : decode prog_45_method_15_code 147 = .ok (.bipush 52, 2) := by decide +kernel
theorem d4_149 : decode prog_45_method_15_code 149 = .ok (.lshr, 1) := by decide +kernel
theorem d4_150 : decode prog_45_method_15_code 150 = .ok (.ladd, 1) := by decide +kernel
theorem d4_151 : decode prog_45_method_15_code 151 = .ok (.lstore 9, 2) := by decide +kernel
theorem d4_153 : decode prog_45_method_15_code 153 = .ok (.aload_n 0, 1) := by decide +kernel
theorem d4_154 : decode prog_45_method_15_code 154 = .ok (.iconst 0, 1) := by decide +kernel
theorem d4_155 : decode prog_45_method_15_code 155 = .ok (.lload_n 3, 1) := by decide +kernel
theorem d4_156 : decode prog_45_method_15_code 156 = .ok (.ldc2_w 25, 3) := by decide +kernel
theorem d4_159 : decode prog_45_method_15_code 159 = .ok (.land, 1) := by decide +kernel
theorem d4_160 : decode prog_45_method_15_code 160 = .ok (.lastore, 1) := by decide +kernel
theorem d4_161 : decode prog_45_method_15_code 161 = .ok (.aload_n 0, 1) := by decide +kernel
theorem d4_162 : decode prog_45_method_15_code 162 = .ok (.iconst 1, 1) := by decide +kernel
theorem d4_163 : decode prog_45_method_15_code 163 = .ok (.lload 5, 2) := by decide +kernel
theorem d4_165 : decode prog_45_method_15_code 165 = .ok (.ldc2_w 25, 3) := by decide +kernel
theorem d4_168 : decode prog_45_method_15_code 168 = .ok (.land, 1) := by decide +kernel
theorem d4_169 : decode prog_45_method_15_code 169 = .ok (.lastore, 1) := by decide +kernel
theorem d4_170 : decode prog_45_method_15_code 170 = .ok (.aload_n 0, 1) := by decide +kernel
theorem d4_171 : decode prog_45_method_15_code 171 = .ok (.iconst 2, 1) := by decide +kernel
theorem d4_172 : decode prog_45_method_15_code 172 = .ok (.lload 7, 2) := by decide +kernel
theorem d4_174 : decode prog_45_method_15_code 174 = .ok (.ldc2_w 25, 3) := by decide +kernel
theorem d4_177 : decode prog_45_method_15_code 177 = .ok (.land, 1) := by decide +kernel
theorem d4_178 : decode prog_45_method_15_code 178 = .ok (.lastore, 1) := by decide +kernel
theorem d4_179 : decode prog_45_method_15_code 179 = .ok (.aload_n 0, 1) := by decide +kernel
theorem d4_180 : decode prog_45_method_15_code 180 = .ok (.iconst 3, 1) := by decide +kernel
theorem d4_181 : decode prog_45_method_15_code 181 = .ok (.lload 9, 2) := by decide +kernel
theorem d4_183 : decode prog_45_method_15_code 183 = .ok (.ldc2_w 25, 3) := by decide +kernel
theorem d4_186 : decode prog_45_method_15_code 186 = .ok (.land, 1) := by decide +kernel
theorem d4_187 : decode prog_45_method_15_code 187 = .ok (.lastore, 1) := by decide +kernel
theorem d4_188 : decode prog_45_method_15_code 188 = .ok (.aload_n 0, 1) := by decide +kernel
theorem d4_189 : decode prog_45_method_15_code 189 = .ok (.iconst 4, 1) := by decide +kernel
theorem d4_190 : decode prog_45_method_15_code 190 = .ok (.lload 11, 2) := by decide +kernel
theorem d4_192 : decode prog_45_method_15_code 192 = .ok (.lload 9, 2) := by decide +kernel
theorem d4_194 : decode prog_45_method_15_code 194 = .ok (.bipush 52, 2) := by decide +kernel
theorem d4_196 : decode prog_45_method_15_code 196 = .ok (.lshr, 1) := by decide +kernel
theorem d4_197 : decode prog_45_method_15_code 197 = .ok (.ladd, 1) := by decide +kernel
theorem d4_198 : decode prog_45_method_15_code 198 = .ok (.lastore, 1) := by decide +kernel
theorem d4_199 : decode prog_45_method_15_code 199 = .ok (.return_, 1) := by decide +kernel
theorem ef7 (m : MethodId) (x0 : Addr) : entryFrame m #[(.ref x0)] 2 = mkF m 0 #[.val (.ref x0), .unset] [] := by first | (simp [entryFrame, mkF, argsToLocals, Value.category]; done) | rfl
theorem pn7 : plainFor (⟨"org/subveil/Secp256r1Field", "canonical", "([J)[J"⟩ : MethodName) = true := plainFor_of_name (by first | (simp [plainName, overriddenIn]; done) | decide +kernel)
theorem d7_0 : decode prog_45_method_27_code 0 = .ok (.iconst 5, 1) := by decide +kernel
theorem d7_1 : decode prog_45_method_27_code 1 = .ok (.newarray .long, 2) := by decide +kernel
theorem d7_3 : decode prog_45_method_27_code 3 = .ok (.astore_n 1, 1) := by decide +kernel
theorem d7_4 : decode prog_45_method_27_code 4 = .ok (.aload_n 1, 1) := by decide +kernel
theorem d7_5 : decode prog_45_method_27_code 5 = .ok (.getstatic 140, 3) := by decide +kernel
theorem d7_8 : decode prog_45_method_27_code 8 = .ok (.aload_n 0, 1) := by decide +kernel
theorem d7_9 : decode prog_45_method_27_code 9 = .ok (.iconst 0, 1) := by decide +kernel
theorem d7_10 : decode prog_45_method_27_code 10 = .ok (.laload, 1) := by decide +kernel
theorem d7_11 : decode prog_45_method_27_code 11 = .ok (.aload_n 0, 1) := by decide +kernel
theorem d7_12 : decode prog_45_method_27_code 12 = .ok (.iconst 1, 1) := by decide +kernel
theorem d7_13 : decode prog_45_method_27_code 13 = .ok (.laload, 1) := by decide +kernel
theorem d7_14 : decode prog_45_method_27_code 14 = .ok (.aload_n 0, 1) := by decide +kernel
theorem d7_15 : decode prog_45_method_27_code 15 = .ok (.iconst 2, 1) := by decide +kernel
theorem d7_16 : decode prog_45_method_27_code 16 = .ok (.laload, 1) := by decide +kernel
theorem d7_17 : decode prog_45_method_27_code 17 = .ok (.aload_n 0, 1) := by decide +kernel
theorem d7_18 : decode prog_45_method_27_code 18 = .ok (.iconst 3, 1) := by decide +kernel
theorem d7_19 : decode prog_45_method_27_code 19 = .ok (.laload, 1) := by decide +kernel
theorem d7_20 : decode prog_45_method_27_code 20 = .ok (.aload_n 0, 1) := by decide +kernel
theorem d7_21 : decode prog_45_method_27_code 21 = .ok (.iconst 4, 1) := by decide +kernel
theorem d7_22 : decode prog_45_method_27_code 22 = .ok (.laload, 1) := by decide +kernel
theorem d7_23 : decode prog_45_method_27_code 23 = .ok (.invokestatic 41, 3) := by decide +kernel
theorem d7_26 : decode prog_45_method_27_code 26 = .ok (.aload_n 1, 1) := by decide +kernel
theorem d7_27 : decode prog_45_method_27_code 27 = .ok (.areturn, 1) := by decide +kernel
theorem ef6 (m : MethodId) (x0 : Addr) (x1 : Addr) : entryFrame m #[(.ref x0), (.ref x1)] 7 = mkF m 0 #[.val (.ref x0), .val (.ref x1), .unset, .unset, .unset, .unset, .unset] [] := by first | (simp [entryFrame, mkF, argsToLocals, Value.category]; done) | rfl
theorem pn6 : plainFor (⟨"org/subveil/Secp256r1Field", "equal", "([J[J)J"⟩ : MethodName) = true := plainFor_of_name (by first | (simp [plainName, overriddenIn]; done) | decide +kernel)
theorem d6_0 : decode prog_45_method_7_code 0 = .ok (.aload_n 0, 1) := by decide +kernel
theorem d6_1 : decode prog_45_method_7_code 1 = .ok (.invokestatic 45, 3) := by decide +kernel
theorem pd1 : parseMethodDescriptor "([J)[J" = some ⟨[(.array .long)], some (.array .long)⟩ := by decide +kernel
theorem d6_4 : decode prog_45_method_7_code 4 = .ok (.astore_n 2, 1) := by decide +kernel
theorem d6_5 : decode prog_45_method_7_code 5 = .ok (.aload_n 1, 1) := by decide +kernel
theorem d6_6 : decode prog_45_method_7_code 6 = .ok (.invokestatic 45, 3) := by decide +kernel
theorem d6_9 : decode prog_45_method_7_code 9 = .ok (.astore_n 3, 1) := by decide +kernel
theorem d6_10 : decode prog_45_method_7_code 10 = .ok (.lconst 0, 1) := by decide +kernel
theorem d6_11 : decode prog_45_method_7_code 11 = .ok (.lstore 4, 2) := by decide +kernel
theorem d6_13 : decode prog_45_method_7_code 13 = .ok (.iconst 0, 1) := by decide +kernel
theorem d6_14 : decode prog_45_method_7_code 14 = .ok (.istore 6, 2) := by decide +kernel
theorem d6_16 : decode prog_45_method_7_code 16 = .ok (.iload 6, 2) := by decide +kernel
theorem d6_18 : decode prog_45_method_7_code 18 = .ok (.iconst 5, 1) := by decide +kernel
theorem d6_19 : decode prog_45_method_7_code 19 = .ok (.if_icmp .ge 23, 3) := by decide +kernel
theorem d6_22 : decode prog_45_method_7_code 22 = .ok (.lload 4, 2) := by decide +kernel
theorem d6_24 : decode prog_45_method_7_code 24 = .ok (.aload_n 2, 1) := by decide +kernel
theorem d6_25 : decode prog_45_method_7_code 25 = .ok (.iload 6, 2) := by decide +kernel
theorem d6_27 : decode prog_45_method_7_code 27 = .ok (.laload, 1) := by decide +kernel
theorem d6_28 : decode prog_45_method_7_code 28 = .ok (.aload_n 3, 1) := by decide +kernel
theorem d6_29 : decode prog_45_method_7_code 29 = .ok (.iload 6, 2) := by decide +kernel
theorem d6_31 : decode prog_45_method_7_code 31 = .ok (.laload, 1) := by decide +kernel
theorem d6_32 : decode prog_45_method_7_code 32 = .ok (.lxor, 1) := by decide +kernel
theorem d6_33 : decode prog_45_method_7_code 33 = .ok (.lor, 1) := by decide +kernel
theorem d6_34 : decode prog_45_method_7_code 34 = .ok (.lstore 4, 2) := by decide +kernel
theorem d6_36 : decode prog_45_method_7_code 36 = .ok (.iinc 6 1, 3) := by decide +kernel
theorem d6_39 : decode prog_45_method_7_code 39 = .ok (.goto (-23), 3) := by decide +kernel
theorem d6_42 : decode prog_45_method_7_code 42 = .ok (.lload 4, 2) := by decide +kernel
theorem d6_44 : decode prog_45_method_7_code 44 = .ok (.lload 4, 2) := by decide +kernel
theorem d6_46 : decode prog_45_method_7_code 46 = .ok (.lneg, 1) := by decide +kernel
theorem d6_47 : decode prog_45_method_7_code 47 = .ok (.lor, 1) := by decide +kernel
theorem d6_48 : decode prog_45_method_7_code 48 = .ok (.bipush 63, 2) := by decide +kernel
theorem d6_50 : decode prog_45_method_7_code 50 = .ok (.lushr, 1) := by decide +kernel
theorem d6_51 : decode prog_45_method_7_code 51 = .ok (.lconst 1, 1) := by decide +kernel
theorem d6_52 : decode prog_45_method_7_code 52 = .ok (.lxor, 1) := by decide +kernel
theorem d6_53 : decode prog_45_method_7_code 53 = .ok (.lreturn, 1) := by decide +kernel
theorem ef0 (m : MethodId) (x0 : Int64) (x1 : Int64) (x2 : Int64) (x3 : Int64) (x4 : Int64) (x5 : Int32) : entryFrame m #[(.long x0), (.long x1), (.long x2), (.long x3), (.long x4), (.int x5)] maxLocals = mkF m 0 #[.val (.long x0), .second, .val (.long x1), .second, .val (.long x2), .second, .val (.long x3), .second, .val (.long x4), .second, .val (.int x5), .unset, .unset, .unset, .unset, .unset, .unset, .unset, .unset, .unset, .unset, .unset, .unset, .unset] [] := by first | (simp [entryFrame, mkF, argsToLocals, Value.category, maxLocals]; done) | rfl
theorem pn0 : plainFor (⟨"org/subveil/Secp256r1FieldMultiplySmallPinLaw", "law", "(JJJJJI)Z"⟩ : MethodName) = true := plainFor_of_name (by first | (simp [plainName, overriddenIn]; done) | decide +kernel)
theorem pd0 : parseMethodDescriptor "([J)Z" = some ⟨[(.array .long)], some .boolean⟩ := by decide +kernel
theorem pd5 : parseMethodDescriptor "([J[J[J)V" = some ⟨[(.array .long), (.array .long), (.array .long)], none⟩ := by decide +kernel
theorem pd3 : parseMethodDescriptor "([J[JI)V" = some ⟨[(.array .long), (.array .long), .int], none⟩ := by decide +kernel
theorem pd2 : parseMethodDescriptor "([J[J)J" = some ⟨[(.array .long), (.array .long)], some .long⟩ := by decide +kernel

def B52 : Int := 4503599627370496
def Nrm (a b c d e : Int64) (v : Int) : Prop := (0 ≤ a.toInt ∧ a.toInt < 4503599627370496) ∧ (0 ≤ b.toInt ∧ b.toInt < 4503599627370496) ∧ (0 ≤ c.toInt ∧ c.toInt < 4503599627370496) ∧ (0 ≤ d.toInt ∧ d.toInt < 4503599627370496) ∧ (0 ≤ e.toInt) ∧ v = a.toInt + 4503599627370496 * b.toInt + 20282409603651670423947251286016 * c.toInt + 91343852333181432387730302044767688728495783936 * d.toInt + 411376139330301510538742295639337626245683966408394965837152256 * e.toInt
theorem own_adl {a b : Int64} (h1 : -9223372036854775808 ≤ a.toInt + b.toInt) (h2 : a.toInt + b.toInt < 9223372036854775808) : (a + b).toInt = a.toInt + b.toInt := by
  have q := c_ladd a b
  have l1 := (a + b).toInt_lt
  have l2 := (a + b).le_toInt
  omega
theorem own_sbl {a b : Int64} (h1 : -9223372036854775808 ≤ a.toInt - b.toInt) (h2 : a.toInt - b.toInt < 9223372036854775808) : (a - b).toInt = a.toInt - b.toInt := by
  have q := c_lsub a b
  have l1 := (a - b).toInt_lt
  have l2 := (a - b).le_toInt
  omega
theorem own_sh (a : Int64) : (a >>> ((52 : Int32) &&& 0x3f).toInt64).toInt = a.toInt / 4503599627370496 := c_lshr a 52 52 (by decide)
theorem own_sh48 (a : Int64) : (a >>> ((48 : Int32) &&& 0x3f).toInt64).toInt = a.toInt / 281474976710656 := c_lshr a 48 48 (by decide)
theorem own_sh63 (a : Int64) : (a >>> ((63 : Int32) &&& 0x3f).toInt64).toInt = a.toInt / 9223372036854775808 := c_lshr a 63 63 (by decide)
theorem own_ush {a : Int64} (h : 0 ≤ a.toInt) : (a.toUInt64 >>> ((52 : Int32) &&& 0x3f).toInt64.toUInt64).toInt64.toInt = a.toInt / 4503599627370496 := by
  have q : (a.toUInt64 >>> ((52 : Int32) &&& 0x3f).toInt64.toUInt64).toInt64.toInt = (a.toInt % 18446744073709551616) / 4503599627370496 := c_lushr a 52 52 (by decide) (by decide)
  have l1 := a.toInt_lt
  rw [q]; omega
theorem own_mk (a : Int64) : (a &&& 4503599627370495).toInt = a.toInt % 4503599627370496 := c_maskL a 4503599627370495 52 (by decide) (by decide)
theorem own_mk48 (a : Int64) : (a &&& 281474976710655).toInt = a.toInt % 281474976710656 := c_maskL a 281474976710655 48 (by decide) (by decide)
theorem own_mk49 (a : Int64) : (a &&& 562949953421311).toInt = a.toInt % 562949953421312 := c_maskL a 562949953421311 49 (by decide) (by decide)
theorem own_sel0 (x d : Int64) : (x &&& 0) ||| (d &&& ((0 : Int64) ^^^ (-1 : Int64))) = d := by
  have e : ((0 : Int64) ^^^ (-1 : Int64)) = -1 := by decide
  rw [e]
  apply Int64.toBitVec_inj.mp
  simp
theorem own_sel1 (x d : Int64) : (x &&& (-1 : Int64)) ||| (d &&& ((-1 : Int64) ^^^ (-1 : Int64))) = x := by
  have e : ((-1 : Int64) ^^^ (-1 : Int64)) = 0 := by decide
  rw [e]
  apply Int64.toBitVec_inj.mp
  simp
theorem own_sub {x0 x1 x2 x3 x4 m0 m1 m2 m3 m4 d0 d1 d2 d3 d4 M : Int64} {vx vm : Int} (hx : Nrm x0 x1 x2 x3 x4 vx) (hm : Nrm m0 m1 m2 m3 m4 vm) (bx : x4.toInt < 2251799813685248) (bm : m4.toInt < 2251799813685248)
    (e0 : d0 = x0 - m0) (e1 : d1 = (x1 - m1) + (d0 >>> ((52 : Int32) &&& 0x3f).toInt64)) (e2 : d2 = (x2 - m2) + (d1 >>> ((52 : Int32) &&& 0x3f).toInt64)) (e3 : d3 = (x3 - m3) + (d2 >>> ((52 : Int32) &&& 0x3f).toInt64)) (e4 : d4 = (x4 - m4) + (d3 >>> ((52 : Int32) &&& 0x3f).toInt64)) (eM : M = d4 >>> ((63 : Int32) &&& 0x3f).toInt64) :
    ∃ v, Nrm ((x0 &&& M) ||| ((d0 &&& 4503599627370495) &&& (M ^^^ (-1 : Int64)))) ((x1 &&& M) ||| ((d1 &&& 4503599627370495) &&& (M ^^^ (-1 : Int64)))) ((x2 &&& M) ||| ((d2 &&& 4503599627370495) &&& (M ^^^ (-1 : Int64)))) ((x3 &&& M) ||| ((d3 &&& 4503599627370495) &&& (M ^^^ (-1 : Int64)))) ((x4 &&& M) ||| (d4 &&& (M ^^^ (-1 : Int64)))) v ∧ (vm ≤ vx ∧ v = vx - vm ∨ vx < vm ∧ v = vx) := by
  have hx0 := hx
  obtain ⟨⟨a0, b0⟩, ⟨a1, b1⟩, ⟨a2, b2⟩, ⟨a3, b3⟩, a4, hv⟩ := hx
  obtain ⟨⟨c0, f0⟩, ⟨c1, f1⟩, ⟨c2, f2⟩, ⟨c3, f3⟩, c4, hw⟩ := hm
  have i0 : d0.toInt = x0.toInt - m0.toInt := by rw [e0]; exact own_sbl (by omega) (by omega)
  have j1 : (x1 - m1).toInt = x1.toInt - m1.toInt := own_sbl (by omega) (by omega)
  have k0 := own_sh d0
  have i1 : d1.toInt = x1.toInt - m1.toInt + d0.toInt / 4503599627370496 := by rw [e1, own_adl (by rw [j1, k0]; omega) (by rw [j1, k0]; omega), j1, k0]
  have j2 : (x2 - m2).toInt = x2.toInt - m2.toInt := own_sbl (by omega) (by omega)
  have k1 := own_sh d1
  have i2 : d2.toInt = x2.toInt - m2.toInt + d1.toInt / 4503599627370496 := by rw [e2, own_adl (by rw [j2, k1]; omega) (by rw [j2, k1]; omega), j2, k1]
  have j3 : (x3 - m3).toInt = x3.toInt - m3.toInt := own_sbl (by omega) (by omega)
  have k2 := own_sh d2
  have i3 : d3.toInt = x3.toInt - m3.toInt + d2.toInt / 4503599627370496 := by rw [e3, own_adl (by rw [j3, k2]; omega) (by rw [j3, k2]; omega), j3, k2]
  have j4 : (x4 - m4).toInt = x4.toInt - m4.toInt := own_sbl (by omega) (by omega)
  have k3 := own_sh d3
  have i4 : d4.toInt = x4.toInt - m4.toInt + d3.toInt / 4503599627370496 := by rw [e4, own_adl (by rw [j4, k3]; omega) (by rw [j4, k3]; omega), j4, k3]
  have kM := own_sh63 d4
  rw [← eM] at kM
  have L := d4.toInt_lt
  have L' := d4.le_toInt
  by_cases hs : d4.toInt < 0
  · have q : M = -1 := by
      rw [← Int64.toInt_inj, kM]
      have t : (-1 : Int64).toInt = -1 := by decide
      rw [t]; omega
    subst q
    refine ⟨vx, ?_, Or.inr ⟨by omega, rfl⟩⟩
    rw [own_sel1, own_sel1, own_sel1, own_sel1, own_sel1]; exact hx0
  · have q : M = 0 := by
      rw [← Int64.toInt_inj, kM]
      have t : (0 : Int64).toInt = 0 := by decide
      rw [t]; omega
    subst q
    rw [own_sel0, own_sel0, own_sel0, own_sel0, own_sel0]
    refine ⟨vx - vm, ?_, Or.inl ⟨by omega, rfl⟩⟩
    unfold Nrm
    rw [own_mk, own_mk, own_mk, own_mk]
    omega

theorem own_zero : Nrm 0 0 0 0 0 0 := by
  have t : (0 : Int64).toInt = 0 := by decide
  unfold Nrm
  rw [t]; decide
theorem own_add {a0 a1 a2 a3 a4 b0 b1 b2 b3 b4 s0 s1 s2 s3 s4 : Int64} {va vb : Int} (ha : Nrm a0 a1 a2 a3 a4 va) (hb : Nrm b0 b1 b2 b3 b4 vb) (la : va < 231584178420712497525394893898815147060172286830580628391067262617734195707902) (lb : vb < 231584178420712497525394893898815147060172286830580628391067262617734195707902)
    (e0 : s0 = a0 + b0) (e1 : s1 = (a1 + b1) + (s0.toUInt64 >>> ((52 : Int32) &&& 0x3f).toInt64.toUInt64).toInt64) (e2 : s2 = (a2 + b2) + (s1.toUInt64 >>> ((52 : Int32) &&& 0x3f).toInt64.toUInt64).toInt64) (e3 : s3 = (a3 + b3) + (s2.toUInt64 >>> ((52 : Int32) &&& 0x3f).toInt64.toUInt64).toInt64) (e4 : s4 = (a4 + b4) + (s3.toUInt64 >>> ((52 : Int32) &&& 0x3f).toInt64.toUInt64).toInt64) :
    Nrm (s0 &&& 4503599627370495) (s1 &&& 4503599627370495) (s2 &&& 4503599627370495) (s3 &&& 4503599627370495) s4 (va + vb) ∧ s4.toInt < 2251799813685248 := by
  obtain ⟨⟨p0, q0⟩, ⟨p1, q1⟩, ⟨p2, q2⟩, ⟨p3, q3⟩, p4, hv⟩ := ha
  obtain ⟨⟨c0, f0⟩, ⟨c1, f1⟩, ⟨c2, f2⟩, ⟨c3, f3⟩, c4, hw⟩ := hb
  have q4 : a4.toInt < 562949953421312 := by omega
  have f4 : b4.toInt < 562949953421312 := by omega
  have i0 : s0.toInt = a0.toInt + b0.toInt := by rw [e0]; exact own_adl (by omega) (by omega)
  have j1 : (a1 + b1).toInt = a1.toInt + b1.toInt := own_adl (by omega) (by omega)
  have k0 := own_ush (a := s0) (by omega)
  have i1 : s1.toInt = a1.toInt + b1.toInt + s0.toInt / 4503599627370496 := by rw [e1, own_adl (by rw [j1, k0]; omega) (by rw [j1, k0]; omega), j1, k0]
  have j2 : (a2 + b2).toInt = a2.toInt + b2.toInt := own_adl (by omega) (by omega)
  have k1 := own_ush (a := s1) (by omega)
  have i2 : s2.toInt = a2.toInt + b2.toInt + s1.toInt / 4503599627370496 := by rw [e2, own_adl (by rw [j2, k1]; omega) (by rw [j2, k1]; omega), j2, k1]
  have j3 : (a3 + b3).toInt = a3.toInt + b3.toInt := own_adl (by omega) (by omega)
  have k2 := own_ush (a := s2) (by omega)
  have i3 : s3.toInt = a3.toInt + b3.toInt + s2.toInt / 4503599627370496 := by rw [e3, own_adl (by rw [j3, k2]; omega) (by rw [j3, k2]; omega), j3, k2]
  have j4 : (a4 + b4).toInt = a4.toInt + b4.toInt := own_adl (by omega) (by omega)
  have k3 := own_ush (a := s3) (by omega)
  have i4 : s4.toInt = a4.toInt + b4.toInt + s3.toInt / 4503599627370496 := by rw [e4, own_adl (by rw [j4, k3]; omega) (by rw [j4, k3]; omega), j4, k3]
  refine ⟨?_, by omega⟩
  unfold Nrm
  rw [own_mk, own_mk, own_mk, own_mk]
  omega

theorem own_mll {a f : Int64} {k : Int} (hf : f.toInt = k) (h0 : 0 ≤ a.toInt * k) (h1 : a.toInt * k < 9223372036854775808) : (a * f).toInt = a.toInt * k := by
  have q := c_lmul a f
  have l1 := (a * f).toInt_lt
  have l2 := (a * f).le_toInt
  rw [hf] at q
  omega
theorem own_shl {a : Int64} (q : Int32) (k : Nat) (hk : q.toBitVec.toNat % 64 = k) (h0 : 0 ≤ a.toInt * (2 ^ k : Nat)) (h1 : a.toInt * (2 ^ k : Nat) < 9223372036854775808) : (a <<< (q &&& 0x3f).toInt64).toInt = a.toInt * (2 ^ k : Nat) := by
  have t := c_lshl a q k hk
  have l1 := (a <<< (q &&& 0x3f).toInt64).toInt_lt
  have l2 := (a <<< (q &&& 0x3f).toInt64).le_toInt
  omega
theorem own_mul1 {a f s z : Int64} {k : Int} (hf : f.toInt = k) (h0 : 0 ≤ a.toInt * k) (h1 : a.toInt * k < 4611686018427387904) (hs : 0 ≤ s.toInt) (e : z = (a * f) + (s >>> ((52 : Int32) &&& 0x3f).toInt64)) : z.toInt = a.toInt * k + s.toInt / 4503599627370496 := by
  have j := own_mll hf h0 (by omega)
  have q := own_sh s
  have l1 := s.toInt_lt
  rw [e, own_adl (by rw [j, q]; omega) (by rw [j, q]; omega), j, q]

theorem own_ms1 {a0 a1 a2 a3 a4 f c0 c1 c2 c3 c4 hi g0 g1 g3 g4 w1 w2 w3 : Int64} {va : Int} (hf : f.toInt = 1) (ha : Nrm a0 a1 a2 a3 a4 va) (la : va < 231584178420712497525394893898815147060172286830580628391067262617734195707902)
    (e0 : c0 = a0 * f) (e1 : c1 = (a1 * f) + (c0 >>> ((52 : Int32) &&& 0x3f).toInt64)) (e2 : c2 = (a2 * f) + (c1 >>> ((52 : Int32) &&& 0x3f).toInt64)) (e3 : c3 = (a3 * f) + (c2 >>> ((52 : Int32) &&& 0x3f).toInt64)) (e4 : c4 = (a4 * f) + (c3 >>> ((52 : Int32) &&& 0x3f).toInt64))
    (eh : hi = c4 >>> ((48 : Int32) &&& 0x3f).toInt64) (t0 : g0 = (c0 &&& 4503599627370495) + hi) (t1 : g1 = (c1 &&& 4503599627370495) - (hi <<< ((44 : Int32) &&& 0x3f).toInt64)) (t3 : g3 = (c3 &&& 4503599627370495) - (hi <<< ((36 : Int32) &&& 0x3f).toInt64)) (t4 : g4 = (c4 &&& 281474976710655) + (hi <<< ((16 : Int32) &&& 0x3f).toInt64))
    (u1 : w1 = g1 + (g0 >>> ((52 : Int32) &&& 0x3f).toInt64)) (u2 : w2 = (c2 &&& 4503599627370495) + (w1 >>> ((52 : Int32) &&& 0x3f).toInt64)) (u3 : w3 = g3 + (w2 >>> ((52 : Int32) &&& 0x3f).toInt64)) :
    ∃ v n : Int, Nrm (g0 &&& 4503599627370495) (w1 &&& 4503599627370495) (w2 &&& 4503599627370495) (w3 &&& 4503599627370495) (g4 + (w3 >>> ((52 : Int32) &&& 0x3f).toInt64)) v ∧ v < 231584178420712497525394893898815147060172286830580628391067262617734195707902 ∧ v = 1 * va - n * 115792089210356248762697446949407573530086143415290314195533631308867097853951 := by
  obtain ⟨⟨p0, q0⟩, ⟨p1, q1⟩, ⟨p2, q2⟩, ⟨p3, q3⟩, p4, hv⟩ := ha
  have q4 : a4.toInt < 562949953421312 := by omega
  have i0 : c0.toInt = a0.toInt * 1 := by rw [e0]; exact own_mll hf (by omega) (by omega)
  have i1 := own_mul1 hf (by omega) (by omega) (by omega) e1
  have i2 := own_mul1 hf (by omega) (by omega) (by omega) e2
  have i3 := own_mul1 hf (by omega) (by omega) (by omega) e3
  have i4 := own_mul1 hf (by omega) (by omega) (by omega) e4
  have ih : hi.toInt = c4.toInt / 281474976710656 := by rw [eh]; exact own_sh48 c4
  clear e0 e1 e2 e3 e4 eh
  have hb : 0 ≤ hi.toInt ∧ hi.toInt ≤ 16 := by omega
  have y0 := own_mk c0
  have y1 := own_mk c1
  have y2 := own_mk c2
  have y3 := own_mk c3
  have y4 := own_mk48 c4
  have s44 : (hi <<< ((44 : Int32) &&& 0x3f).toInt64).toInt = hi.toInt * 17592186044416 := own_shl (a := hi) 44 44 (by decide) (by omega) (by omega)
  have s36 : (hi <<< ((36 : Int32) &&& 0x3f).toInt64).toInt = hi.toInt * 68719476736 := own_shl (a := hi) 36 36 (by decide) (by omega) (by omega)
  have s16 : (hi <<< ((16 : Int32) &&& 0x3f).toInt64).toInt = hi.toInt * 65536 := own_shl (a := hi) 16 16 (by decide) (by omega) (by omega)
  have v0 : g0.toInt = c0.toInt % 4503599627370496 + hi.toInt := by rw [t0, own_adl (by rw [y0]; omega) (by rw [y0]; omega), y0]
  have v1 : g1.toInt = c1.toInt % 4503599627370496 - hi.toInt * 17592186044416 := by rw [t1, own_sbl (by rw [y1, s44]; omega) (by rw [y1, s44]; omega), y1, s44]
  have v3 : g3.toInt = c3.toInt % 4503599627370496 - hi.toInt * 68719476736 := by rw [t3, own_sbl (by rw [y3, s36]; omega) (by rw [y3, s36]; omega), y3, s36]
  have v4 : g4.toInt = c4.toInt % 281474976710656 + hi.toInt * 65536 := by rw [t4, own_adl (by rw [y4, s16]; omega) (by rw [y4, s16]; omega), y4, s16]
  clear t0 t1 t3 t4 s44 s36 s16 y0 y1 y3 y4
  have z0 := own_sh g0
  have o1 : w1.toInt = g1.toInt + g0.toInt / 4503599627370496 := by rw [u1, own_adl (by rw [z0]; omega) (by rw [z0]; omega), z0]
  have z1 := own_sh w1
  have o2 : w2.toInt = c2.toInt % 4503599627370496 + w1.toInt / 4503599627370496 := by rw [u2, own_adl (by rw [y2, z1]; omega) (by rw [y2, z1]; omega), y2, z1]
  have z2 := own_sh w2
  have o3 : w3.toInt = g3.toInt + w2.toInt / 4503599627370496 := by rw [u3, own_adl (by rw [z2]; omega) (by rw [z2]; omega), z2]
  have z3 := own_sh w3
  have o4 : (g4 + (w3 >>> ((52 : Int32) &&& 0x3f).toInt64)).toInt = g4.toInt + w3.toInt / 4503599627370496 := by rw [own_adl (by rw [z3]; omega) (by rw [z3]; omega), z3]
  clear u1 u2 u3 z0 z1 z2 z3 y2
  refine ⟨1 * va - hi.toInt * 115792089210356248762697446949407573530086143415290314195533631308867097853951, hi.toInt, ?_, by omega, rfl⟩
  unfold Nrm
  rw [own_mk, own_mk, own_mk, own_mk, o4]
  omega

theorem own_ms2 {a0 a1 a2 a3 a4 f c0 c1 c2 c3 c4 hi g0 g1 g3 g4 w1 w2 w3 : Int64} {va : Int} (hf : f.toInt = 2) (ha : Nrm a0 a1 a2 a3 a4 va) (la : va < 231584178420712497525394893898815147060172286830580628391067262617734195707902)
    (e0 : c0 = a0 * f) (e1 : c1 = (a1 * f) + (c0 >>> ((52 : Int32) &&& 0x3f).toInt64)) (e2 : c2 = (a2 * f) + (c1 >>> ((52 : Int32) &&& 0x3f).toInt64)) (e3 : c3 = (a3 * f) + (c2 >>> ((52 : Int32) &&& 0x3f).toInt64)) (e4 : c4 = (a4 * f) + (c3 >>> ((52 : Int32) &&& 0x3f).toInt64))
    (eh : hi = c4 >>> ((48 : Int32) &&& 0x3f).toInt64) (t0 : g0 = (c0 &&& 4503599627370495) + hi) (t1 : g1 = (c1 &&& 4503599627370495) - (hi <<< ((44 : Int32) &&& 0x3f).toInt64)) (t3 : g3 = (c3 &&& 4503599627370495) - (hi <<< ((36 : Int32) &&& 0x3f).toInt64)) (t4 : g4 = (c4 &&& 281474976710655) + (hi <<< ((16 : Int32) &&& 0x3f).toInt64))
    (u1 : w1 = g1 + (g0 >>> ((52 : Int32) &&& 0x3f).toInt64)) (u2 : w2 = (c2 &&& 4503599627370495) + (w1 >>> ((52 : Int32) &&& 0x3f).toInt64)) (u3 : w3 = g3 + (w2 >>> ((52 : Int32) &&& 0x3f).toInt64)) :
    ∃ v n : Int, Nrm (g0 &&& 4503599627370495) (w1 &&& 4503599627370495) (w2 &&& 4503599627370495) (w3 &&& 4503599627370495) (g4 + (w3 >>> ((52 : Int32) &&& 0x3f).toInt64)) v ∧ v < 231584178420712497525394893898815147060172286830580628391067262617734195707902 ∧ v = 2 * va - n * 115792089210356248762697446949407573530086143415290314195533631308867097853951 := by
  obtain ⟨⟨p0, q0⟩, ⟨p1, q1⟩, ⟨p2, q2⟩, ⟨p3, q3⟩, p4, hv⟩ := ha
  have q4 : a4.toInt < 562949953421312 := by omega
  have i0 : c0.toInt = a0.toInt * 2 := by rw [e0]; exact own_mll hf (by omega) (by omega)
  have i1 := own_mul1 hf (by omega) (by omega) (by omega) e1
  have i2 := own_mul1 hf (by omega) (by omega) (by omega) e2
  have i3 := own_mul1 hf (by omega) (by omega) (by omega) e3
  have i4 := own_mul1 hf (by omega) (by omega) (by omega) e4
  have ih : hi.toInt = c4.toInt / 281474976710656 := by rw [eh]; exact own_sh48 c4
  clear e0 e1 e2 e3 e4 eh
  have hb : 0 ≤ hi.toInt ∧ hi.toInt ≤ 16 := by omega
  have y0 := own_mk c0
  have y1 := own_mk c1
  have y2 := own_mk c2
  have y3 := own_mk c3
  have y4 := own_mk48 c4
  have s44 : (hi <<< ((44 : Int32) &&& 0x3f).toInt64).toInt = hi.toInt * 17592186044416 := own_shl (a := hi) 44 44 (by decide) (by omega) (by omega)
  have s36 : (hi <<< ((36 : Int32) &&& 0x3f).toInt64).toInt = hi.toInt * 68719476736 := own_shl (a := hi) 36 36 (by decide) (by omega) (by omega)
  have s16 : (hi <<< ((16 : Int32) &&& 0x3f).toInt64).toInt = hi.toInt * 65536 := own_shl (a := hi) 16 16 (by decide) (by omega) (by omega)
  have v0 : g0.toInt = c0.toInt % 4503599627370496 + hi.toInt := by rw [t0, own_adl (by rw [y0]; omega) (by rw [y0]; omega), y0]
  have v1 : g1.toInt = c1.toInt % 4503599627370496 - hi.toInt * 17592186044416 := by rw [t1, own_sbl (by rw [y1, s44]; omega) (by rw [y1, s44]; omega), y1, s44]
  have v3 : g3.toInt = c3.toInt % 4503599627370496 - hi.toInt * 68719476736 := by rw [t3, own_sbl (by rw [y3, s36]; omega) (by rw [y3, s36]; omega), y3, s36]
  have v4 : g4.toInt = c4.toInt % 281474976710656 + hi.toInt * 65536 := by rw [t4, own_adl (by rw [y4, s16]; omega) (by rw [y4, s16]; omega), y4, s16]
  clear t0 t1 t3 t4 s44 s36 s16 y0 y1 y3 y4
  have z0 := own_sh g0
  have o1 : w1.toInt = g1.toInt + g0.toInt / 4503599627370496 := by rw [u1, own_adl (by rw [z0]; omega) (by rw [z0]; omega), z0]
  have z1 := own_sh w1
  have o2 : w2.toInt = c2.toInt % 4503599627370496 + w1.toInt / 4503599627370496 := by rw [u2, own_adl (by rw [y2, z1]; omega) (by rw [y2, z1]; omega), y2, z1]
  have z2 := own_sh w2
  have o3 : w3.toInt = g3.toInt + w2.toInt / 4503599627370496 := by rw [u3, own_adl (by rw [z2]; omega) (by rw [z2]; omega), z2]
  have z3 := own_sh w3
  have o4 : (g4 + (w3 >>> ((52 : Int32) &&& 0x3f).toInt64)).toInt = g4.toInt + w3.toInt / 4503599627370496 := by rw [own_adl (by rw [z3]; omega) (by rw [z3]; omega), z3]
  clear u1 u2 u3 z0 z1 z2 z3 y2
  refine ⟨2 * va - hi.toInt * 115792089210356248762697446949407573530086143415290314195533631308867097853951, hi.toInt, ?_, by omega, rfl⟩
  unfold Nrm
  rw [own_mk, own_mk, own_mk, own_mk, o4]
  omega

theorem own_ms3 {a0 a1 a2 a3 a4 f c0 c1 c2 c3 c4 hi g0 g1 g3 g4 w1 w2 w3 : Int64} {va : Int} (hf : f.toInt = 3) (ha : Nrm a0 a1 a2 a3 a4 va) (la : va < 231584178420712497525394893898815147060172286830580628391067262617734195707902)
    (e0 : c0 = a0 * f) (e1 : c1 = (a1 * f) + (c0 >>> ((52 : Int32) &&& 0x3f).toInt64)) (e2 : c2 = (a2 * f) + (c1 >>> ((52 : Int32) &&& 0x3f).toInt64)) (e3 : c3 = (a3 * f) + (c2 >>> ((52 : Int32) &&& 0x3f).toInt64)) (e4 : c4 = (a4 * f) + (c3 >>> ((52 : Int32) &&& 0x3f).toInt64))
    (eh : hi = c4 >>> ((48 : Int32) &&& 0x3f).toInt64) (t0 : g0 = (c0 &&& 4503599627370495) + hi) (t1 : g1 = (c1 &&& 4503599627370495) - (hi <<< ((44 : Int32) &&& 0x3f).toInt64)) (t3 : g3 = (c3 &&& 4503599627370495) - (hi <<< ((36 : Int32) &&& 0x3f).toInt64)) (t4 : g4 = (c4 &&& 281474976710655) + (hi <<< ((16 : Int32) &&& 0x3f).toInt64))
    (u1 : w1 = g1 + (g0 >>> ((52 : Int32) &&& 0x3f).toInt64)) (u2 : w2 = (c2 &&& 4503599627370495) + (w1 >>> ((52 : Int32) &&& 0x3f).toInt64)) (u3 : w3 = g3 + (w2 >>> ((52 : Int32) &&& 0x3f).toInt64)) :
    ∃ v n : Int, Nrm (g0 &&& 4503599627370495) (w1 &&& 4503599627370495) (w2 &&& 4503599627370495) (w3 &&& 4503599627370495) (g4 + (w3 >>> ((52 : Int32) &&& 0x3f).toInt64)) v ∧ v < 231584178420712497525394893898815147060172286830580628391067262617734195707902 ∧ v = 3 * va - n * 115792089210356248762697446949407573530086143415290314195533631308867097853951 := by
  obtain ⟨⟨p0, q0⟩, ⟨p1, q1⟩, ⟨p2, q2⟩, ⟨p3, q3⟩, p4, hv⟩ := ha
  have q4 : a4.toInt < 562949953421312 := by omega
  have i0 : c0.toInt = a0.toInt * 3 := by rw [e0]; exact own_mll hf (by omega) (by omega)
  have i1 := own_mul1 hf (by omega) (by omega) (by omega) e1
  have i2 := own_mul1 hf (by omega) (by omega) (by omega) e2
  have i3 := own_mul1 hf (by omega) (by omega) (by omega) e3
  have i4 := own_mul1 hf (by omega) (by omega) (by omega) e4
  have ih : hi.toInt = c4.toInt / 281474976710656 := by rw [eh]; exact own_sh48 c4
  clear e0 e1 e2 e3 e4 eh
  have hb : 0 ≤ hi.toInt ∧ hi.toInt ≤ 16 := by omega
  have y0 := own_mk c0
  have y1 := own_mk c1
  have y2 := own_mk c2
  have y3 := own_mk c3
  have y4 := own_mk48 c4
  have s44 : (hi <<< ((44 : Int32) &&& 0x3f).toInt64).toInt = hi.toInt * 17592186044416 := own_shl (a := hi) 44 44 (by decide) (by omega) (by omega)
  have s36 : (hi <<< ((36 : Int32) &&& 0x3f).toInt64).toInt = hi.toInt * 68719476736 := own_shl (a := hi) 36 36 (by decide) (by omega) (by omega)
  have s16 : (hi <<< ((16 : Int32) &&& 0x3f).toInt64).toInt = hi.toInt * 65536 := own_shl (a := hi) 16 16 (by decide) (by omega) (by omega)
  have v0 : g0.toInt = c0.toInt % 4503599627370496 + hi.toInt := by rw [t0, own_adl (by rw [y0]; omega) (by rw [y0]; omega), y0]
  have v1 : g1.toInt = c1.toInt % 4503599627370496 - hi.toInt * 17592186044416 := by rw [t1, own_sbl (by rw [y1, s44]; omega) (by rw [y1, s44]; omega), y1, s44]
  have v3 : g3.toInt = c3.toInt % 4503599627370496 - hi.toInt * 68719476736 := by rw [t3, own_sbl (by rw [y3, s36]; omega) (by rw [y3, s36]; omega), y3, s36]
  have v4 : g4.toInt = c4.toInt % 281474976710656 + hi.toInt * 65536 := by rw [t4, own_adl (by rw [y4, s16]; omega) (by rw [y4, s16]; omega), y4, s16]
  clear t0 t1 t3 t4 s44 s36 s16 y0 y1 y3 y4
  have z0 := own_sh g0
  have o1 : w1.toInt = g1.toInt + g0.toInt / 4503599627370496 := by rw [u1, own_adl (by rw [z0]; omega) (by rw [z0]; omega), z0]
  have z1 := own_sh w1
  have o2 : w2.toInt = c2.toInt % 4503599627370496 + w1.toInt / 4503599627370496 := by rw [u2, own_adl (by rw [y2, z1]; omega) (by rw [y2, z1]; omega), y2, z1]
  have z2 := own_sh w2
  have o3 : w3.toInt = g3.toInt + w2.toInt / 4503599627370496 := by rw [u3, own_adl (by rw [z2]; omega) (by rw [z2]; omega), z2]
  have z3 := own_sh w3
  have o4 : (g4 + (w3 >>> ((52 : Int32) &&& 0x3f).toInt64)).toInt = g4.toInt + w3.toInt / 4503599627370496 := by rw [own_adl (by rw [z3]; omega) (by rw [z3]; omega), z3]
  clear u1 u2 u3 z0 z1 z2 z3 y2
  refine ⟨3 * va - hi.toInt * 115792089210356248762697446949407573530086143415290314195533631308867097853951, hi.toInt, ?_, by omega, rfl⟩
  unfold Nrm
  rw [own_mk, own_mk, own_mk, own_mk, o4]
  omega

theorem own_ms4 {a0 a1 a2 a3 a4 f c0 c1 c2 c3 c4 hi g0 g1 g3 g4 w1 w2 w3 : Int64} {va : Int} (hf : f.toInt = 4) (ha : Nrm a0 a1 a2 a3 a4 va) (la : va < 231584178420712497525394893898815147060172286830580628391067262617734195707902)
    (e0 : c0 = a0 * f) (e1 : c1 = (a1 * f) + (c0 >>> ((52 : Int32) &&& 0x3f).toInt64)) (e2 : c2 = (a2 * f) + (c1 >>> ((52 : Int32) &&& 0x3f).toInt64)) (e3 : c3 = (a3 * f) + (c2 >>> ((52 : Int32) &&& 0x3f).toInt64)) (e4 : c4 = (a4 * f) + (c3 >>> ((52 : Int32) &&& 0x3f).toInt64))
    (eh : hi = c4 >>> ((48 : Int32) &&& 0x3f).toInt64) (t0 : g0 = (c0 &&& 4503599627370495) + hi) (t1 : g1 = (c1 &&& 4503599627370495) - (hi <<< ((44 : Int32) &&& 0x3f).toInt64)) (t3 : g3 = (c3 &&& 4503599627370495) - (hi <<< ((36 : Int32) &&& 0x3f).toInt64)) (t4 : g4 = (c4 &&& 281474976710655) + (hi <<< ((16 : Int32) &&& 0x3f).toInt64))
    (u1 : w1 = g1 + (g0 >>> ((52 : Int32) &&& 0x3f).toInt64)) (u2 : w2 = (c2 &&& 4503599627370495) + (w1 >>> ((52 : Int32) &&& 0x3f).toInt64)) (u3 : w3 = g3 + (w2 >>> ((52 : Int32) &&& 0x3f).toInt64)) :
    ∃ v n : Int, Nrm (g0 &&& 4503599627370495) (w1 &&& 4503599627370495) (w2 &&& 4503599627370495) (w3 &&& 4503599627370495) (g4 + (w3 >>> ((52 : Int32) &&& 0x3f).toInt64)) v ∧ v < 231584178420712497525394893898815147060172286830580628391067262617734195707902 ∧ v = 4 * va - n * 115792089210356248762697446949407573530086143415290314195533631308867097853951 := by
  obtain ⟨⟨p0, q0⟩, ⟨p1, q1⟩, ⟨p2, q2⟩, ⟨p3, q3⟩, p4, hv⟩ := ha
  have q4 : a4.toInt < 562949953421312 := by omega
  have i0 : c0.toInt = a0.toInt * 4 := by rw [e0]; exact own_mll hf (by omega) (by omega)
  have i1 := own_mul1 hf (by omega) (by omega) (by omega) e1
  have i2 := own_mul1 hf (by omega) (by omega) (by omega) e2
  have i3 := own_mul1 hf (by omega) (by omega) (by omega) e3
  have i4 := own_mul1 hf (by omega) (by omega) (by omega) e4
  have ih : hi.toInt = c4.toInt / 281474976710656 := by rw [eh]; exact own_sh48 c4
  clear e0 e1 e2 e3 e4 eh
  have hb : 0 ≤ hi.toInt ∧ hi.toInt ≤ 16 := by omega
  have y0 := own_mk c0
  have y1 := own_mk c1
  have y2 := own_mk c2
  have y3 := own_mk c3
  have y4 := own_mk48 c4
  have s44 : (hi <<< ((44 : Int32) &&& 0x3f).toInt64).toInt = hi.toInt * 17592186044416 := own_shl (a := hi) 44 44 (by decide) (by omega) (by omega)
  have s36 : (hi <<< ((36 : Int32) &&& 0x3f).toInt64).toInt = hi.toInt * 68719476736 := own_shl (a := hi) 36 36 (by decide) (by omega) (by omega)
  have s16 : (hi <<< ((16 : Int32) &&& 0x3f).toInt64).toInt = hi.toInt * 65536 := own_shl (a := hi) 16 16 (by decide) (by omega) (by omega)
  have v0 : g0.toInt = c0.toInt % 4503599627370496 + hi.toInt := by rw [t0, own_adl (by rw [y0]; omega) (by rw [y0]; omega), y0]
  have v1 : g1.toInt = c1.toInt % 4503599627370496 - hi.toInt * 17592186044416 := by rw [t1, own_sbl (by rw [y1, s44]; omega) (by rw [y1, s44]; omega), y1, s44]
  have v3 : g3.toInt = c3.toInt % 4503599627370496 - hi.toInt * 68719476736 := by rw [t3, own_sbl (by rw [y3, s36]; omega) (by rw [y3, s36]; omega), y3, s36]
  have v4 : g4.toInt = c4.toInt % 281474976710656 + hi.toInt * 65536 := by rw [t4, own_adl (by rw [y4, s16]; omega) (by rw [y4, s16]; omega), y4, s16]
  clear t0 t1 t3 t4 s44 s36 s16 y0 y1 y3 y4
  have z0 := own_sh g0
  have o1 : w1.toInt = g1.toInt + g0.toInt / 4503599627370496 := by rw [u1, own_adl (by rw [z0]; omega) (by rw [z0]; omega), z0]
  have z1 := own_sh w1
  have o2 : w2.toInt = c2.toInt % 4503599627370496 + w1.toInt / 4503599627370496 := by rw [u2, own_adl (by rw [y2, z1]; omega) (by rw [y2, z1]; omega), y2, z1]
  have z2 := own_sh w2
  have o3 : w3.toInt = g3.toInt + w2.toInt / 4503599627370496 := by rw [u3, own_adl (by rw [z2]; omega) (by rw [z2]; omega), z2]
  have z3 := own_sh w3
  have o4 : (g4 + (w3 >>> ((52 : Int32) &&& 0x3f).toInt64)).toInt = g4.toInt + w3.toInt / 4503599627370496 := by rw [own_adl (by rw [z3]; omega) (by rw [z3]; omega), z3]
  clear u1 u2 u3 z0 z1 z2 z3 y2
  refine ⟨4 * va - hi.toInt * 115792089210356248762697446949407573530086143415290314195533631308867097853951, hi.toInt, ?_, by omega, rfl⟩
  unfold Nrm
  rw [own_mk, own_mk, own_mk, own_mk, o4]
  omega

theorem own_ms5 {a0 a1 a2 a3 a4 f c0 c1 c2 c3 c4 hi g0 g1 g3 g4 w1 w2 w3 : Int64} {va : Int} (hf : f.toInt = 5) (ha : Nrm a0 a1 a2 a3 a4 va) (la : va < 231584178420712497525394893898815147060172286830580628391067262617734195707902)
    (e0 : c0 = a0 * f) (e1 : c1 = (a1 * f) + (c0 >>> ((52 : Int32) &&& 0x3f).toInt64)) (e2 : c2 = (a2 * f) + (c1 >>> ((52 : Int32) &&& 0x3f).toInt64)) (e3 : c3 = (a3 * f) + (c2 >>> ((52 : Int32) &&& 0x3f).toInt64)) (e4 : c4 = (a4 * f) + (c3 >>> ((52 : Int32) &&& 0x3f).toInt64))
    (eh : hi = c4 >>> ((48 : Int32) &&& 0x3f).toInt64) (t0 : g0 = (c0 &&& 4503599627370495) + hi) (t1 : g1 = (c1 &&& 4503599627370495) - (hi <<< ((44 : Int32) &&& 0x3f).toInt64)) (t3 : g3 = (c3 &&& 4503599627370495) - (hi <<< ((36 : Int32) &&& 0x3f).toInt64)) (t4 : g4 = (c4 &&& 281474976710655) + (hi <<< ((16 : Int32) &&& 0x3f).toInt64))
    (u1 : w1 = g1 + (g0 >>> ((52 : Int32) &&& 0x3f).toInt64)) (u2 : w2 = (c2 &&& 4503599627370495) + (w1 >>> ((52 : Int32) &&& 0x3f).toInt64)) (u3 : w3 = g3 + (w2 >>> ((52 : Int32) &&& 0x3f).toInt64)) :
    ∃ v n : Int, Nrm (g0 &&& 4503599627370495) (w1 &&& 4503599627370495) (w2 &&& 4503599627370495) (w3 &&& 4503599627370495) (g4 + (w3 >>> ((52 : Int32) &&& 0x3f).toInt64)) v ∧ v < 231584178420712497525394893898815147060172286830580628391067262617734195707902 ∧ v = 5 * va - n * 115792089210356248762697446949407573530086143415290314195533631308867097853951 := by
  obtain ⟨⟨p0, q0⟩, ⟨p1, q1⟩, ⟨p2, q2⟩, ⟨p3, q3⟩, p4, hv⟩ := ha
  have q4 : a4.toInt < 562949953421312 := by omega
  have i0 : c0.toInt = a0.toInt * 5 := by rw [e0]; exact own_mll hf (by omega) (by omega)
  have i1 := own_mul1 hf (by omega) (by omega) (by omega) e1
  have i2 := own_mul1 hf (by omega) (by omega) (by omega) e2
  have i3 := own_mul1 hf (by omega) (by omega) (by omega) e3
  have i4 := own_mul1 hf (by omega) (by omega) (by omega) e4
  have ih : hi.toInt = c4.toInt / 281474976710656 := by rw [eh]; exact own_sh48 c4
  clear e0 e1 e2 e3 e4 eh
  have hb : 0 ≤ hi.toInt ∧ hi.toInt ≤ 16 := by omega
  have y0 := own_mk c0
  have y1 := own_mk c1
  have y2 := own_mk c2
  have y3 := own_mk c3
  have y4 := own_mk48 c4
  have s44 : (hi <<< ((44 : Int32) &&& 0x3f).toInt64).toInt = hi.toInt * 17592186044416 := own_shl (a := hi) 44 44 (by decide) (by omega) (by omega)
  have s36 : (hi <<< ((36 : Int32) &&& 0x3f).toInt64).toInt = hi.toInt * 68719476736 := own_shl (a := hi) 36 36 (by decide) (by omega) (by omega)
  have s16 : (hi <<< ((16 : Int32) &&& 0x3f).toInt64).toInt = hi.toInt * 65536 := own_shl (a := hi) 16 16 (by decide) (by omega) (by omega)
  have v0 : g0.toInt = c0.toInt % 4503599627370496 + hi.toInt := by rw [t0, own_adl (by rw [y0]; omega) (by rw [y0]; omega), y0]
  have v1 : g1.toInt = c1.toInt % 4503599627370496 - hi.toInt * 17592186044416 := by rw [t1, own_sbl (by rw [y1, s44]; omega) (by rw [y1, s44]; omega), y1, s44]
  have v3 : g3.toInt = c3.toInt % 4503599627370496 - hi.toInt * 68719476736 := by rw [t3, own_sbl (by rw [y3, s36]; omega) (by rw [y3, s36]; omega), y3, s36]
  have v4 : g4.toInt = c4.toInt % 281474976710656 + hi.toInt * 65536 := by rw [t4, own_adl (by rw [y4, s16]; omega) (by rw [y4, s16]; omega), y4, s16]
  clear t0 t1 t3 t4 s44 s36 s16 y0 y1 y3 y4
  have z0 := own_sh g0
  have o1 : w1.toInt = g1.toInt + g0.toInt / 4503599627370496 := by rw [u1, own_adl (by rw [z0]; omega) (by rw [z0]; omega), z0]
  have z1 := own_sh w1
  have o2 : w2.toInt = c2.toInt % 4503599627370496 + w1.toInt / 4503599627370496 := by rw [u2, own_adl (by rw [y2, z1]; omega) (by rw [y2, z1]; omega), y2, z1]
  have z2 := own_sh w2
  have o3 : w3.toInt = g3.toInt + w2.toInt / 4503599627370496 := by rw [u3, own_adl (by rw [z2]; omega) (by rw [z2]; omega), z2]
  have z3 := own_sh w3
  have o4 : (g4 + (w3 >>> ((52 : Int32) &&& 0x3f).toInt64)).toInt = g4.toInt + w3.toInt / 4503599627370496 := by rw [own_adl (by rw [z3]; omega) (by rw [z3]; omega), z3]
  clear u1 u2 u3 z0 z1 z2 z3 y2
  refine ⟨5 * va - hi.toInt * 115792089210356248762697446949407573530086143415290314195533631308867097853951, hi.toInt, ?_, by omega, rfl⟩
  unfold Nrm
  rw [own_mk, own_mk, own_mk, own_mk, o4]
  omega

theorem own_ms6 {a0 a1 a2 a3 a4 f c0 c1 c2 c3 c4 hi g0 g1 g3 g4 w1 w2 w3 : Int64} {va : Int} (hf : f.toInt = 6) (ha : Nrm a0 a1 a2 a3 a4 va) (la : va < 231584178420712497525394893898815147060172286830580628391067262617734195707902)
    (e0 : c0 = a0 * f) (e1 : c1 = (a1 * f) + (c0 >>> ((52 : Int32) &&& 0x3f).toInt64)) (e2 : c2 = (a2 * f) + (c1 >>> ((52 : Int32) &&& 0x3f).toInt64)) (e3 : c3 = (a3 * f) + (c2 >>> ((52 : Int32) &&& 0x3f).toInt64)) (e4 : c4 = (a4 * f) + (c3 >>> ((52 : Int32) &&& 0x3f).toInt64))
    (eh : hi = c4 >>> ((48 : Int32) &&& 0x3f).toInt64) (t0 : g0 = (c0 &&& 4503599627370495) + hi) (t1 : g1 = (c1 &&& 4503599627370495) - (hi <<< ((44 : Int32) &&& 0x3f).toInt64)) (t3 : g3 = (c3 &&& 4503599627370495) - (hi <<< ((36 : Int32) &&& 0x3f).toInt64)) (t4 : g4 = (c4 &&& 281474976710655) + (hi <<< ((16 : Int32) &&& 0x3f).toInt64))
    (u1 : w1 = g1 + (g0 >>> ((52 : Int32) &&& 0x3f).toInt64)) (u2 : w2 = (c2 &&& 4503599627370495) + (w1 >>> ((52 : Int32) &&& 0x3f).toInt64)) (u3 : w3 = g3 + (w2 >>> ((52 : Int32) &&& 0x3f).toInt64)) :
    ∃ v n : Int, Nrm (g0 &&& 4503599627370495) (w1 &&& 4503599627370495) (w2 &&& 4503599627370495) (w3 &&& 4503599627370495) (g4 + (w3 >>> ((52 : Int32) &&& 0x3f).toInt64)) v ∧ v < 231584178420712497525394893898815147060172286830580628391067262617734195707902 ∧ v = 6 * va - n * 115792089210356248762697446949407573530086143415290314195533631308867097853951 := by
  obtain ⟨⟨p0, q0⟩, ⟨p1, q1⟩, ⟨p2, q2⟩, ⟨p3, q3⟩, p4, hv⟩ := ha
  have q4 : a4.toInt < 562949953421312 := by omega
  have i0 : c0.toInt = a0.toInt * 6 := by rw [e0]; exact own_mll hf (by omega) (by omega)
  have i1 := own_mul1 hf (by omega) (by omega) (by omega) e1
  have i2 := own_mul1 hf (by omega) (by omega) (by omega) e2
  have i3 := own_mul1 hf (by omega) (by omega) (by omega) e3
  have i4 := own_mul1 hf (by omega) (by omega) (by omega) e4
  have ih : hi.toInt = c4.toInt / 281474976710656 := by rw [eh]; exact own_sh48 c4
  clear e0 e1 e2 e3 e4 eh
  have hb : 0 ≤ hi.toInt ∧ hi.toInt ≤ 16 := by omega
  have y0 := own_mk c0
  have y1 := own_mk c1
  have y2 := own_mk c2
  have y3 := own_mk c3
  have y4 := own_mk48 c4
  have s44 : (hi <<< ((44 : Int32) &&& 0x3f).toInt64).toInt = hi.toInt * 17592186044416 := own_shl (a := hi) 44 44 (by decide) (by omega) (by omega)
  have s36 : (hi <<< ((36 : Int32) &&& 0x3f).toInt64).toInt = hi.toInt * 68719476736 := own_shl (a := hi) 36 36 (by decide) (by omega) (by omega)
  have s16 : (hi <<< ((16 : Int32) &&& 0x3f).toInt64).toInt = hi.toInt * 65536 := own_shl (a := hi) 16 16 (by decide) (by omega) (by omega)
  have v0 : g0.toInt = c0.toInt % 4503599627370496 + hi.toInt := by rw [t0, own_adl (by rw [y0]; omega) (by rw [y0]; omega), y0]
  have v1 : g1.toInt = c1.toInt % 4503599627370496 - hi.toInt * 17592186044416 := by rw [t1, own_sbl (by rw [y1, s44]; omega) (by rw [y1, s44]; omega), y1, s44]
  have v3 : g3.toInt = c3.toInt % 4503599627370496 - hi.toInt * 68719476736 := by rw [t3, own_sbl (by rw [y3, s36]; omega) (by rw [y3, s36]; omega), y3, s36]
  have v4 : g4.toInt = c4.toInt % 281474976710656 + hi.toInt * 65536 := by rw [t4, own_adl (by rw [y4, s16]; omega) (by rw [y4, s16]; omega), y4, s16]
  clear t0 t1 t3 t4 s44 s36 s16 y0 y1 y3 y4
  have z0 := own_sh g0
  have o1 : w1.toInt = g1.toInt + g0.toInt / 4503599627370496 := by rw [u1, own_adl (by rw [z0]; omega) (by rw [z0]; omega), z0]
  have z1 := own_sh w1
  have o2 : w2.toInt = c2.toInt % 4503599627370496 + w1.toInt / 4503599627370496 := by rw [u2, own_adl (by rw [y2, z1]; omega) (by rw [y2, z1]; omega), y2, z1]
  have z2 := own_sh w2
  have o3 : w3.toInt = g3.toInt + w2.toInt / 4503599627370496 := by rw [u3, own_adl (by rw [z2]; omega) (by rw [z2]; omega), z2]
  have z3 := own_sh w3
  have o4 : (g4 + (w3 >>> ((52 : Int32) &&& 0x3f).toInt64)).toInt = g4.toInt + w3.toInt / 4503599627370496 := by rw [own_adl (by rw [z3]; omega) (by rw [z3]; omega), z3]
  clear u1 u2 u3 z0 z1 z2 z3 y2
  refine ⟨6 * va - hi.toInt * 115792089210356248762697446949407573530086143415290314195533631308867097853951, hi.toInt, ?_, by omega, rfl⟩
  unfold Nrm
  rw [own_mk, own_mk, own_mk, own_mk, o4]
  omega

theorem own_ms7 {a0 a1 a2 a3 a4 f c0 c1 c2 c3 c4 hi g0 g1 g3 g4 w1 w2 w3 : Int64} {va : Int} (hf : f.toInt = 7) (ha : Nrm a0 a1 a2 a3 a4 va) (la : va < 231584178420712497525394893898815147060172286830580628391067262617734195707902)
    (e0 : c0 = a0 * f) (e1 : c1 = (a1 * f) + (c0 >>> ((52 : Int32) &&& 0x3f).toInt64)) (e2 : c2 = (a2 * f) + (c1 >>> ((52 : Int32) &&& 0x3f).toInt64)) (e3 : c3 = (a3 * f) + (c2 >>> ((52 : Int32) &&& 0x3f).toInt64)) (e4 : c4 = (a4 * f) + (c3 >>> ((52 : Int32) &&& 0x3f).toInt64))
    (eh : hi = c4 >>> ((48 : Int32) &&& 0x3f).toInt64) (t0 : g0 = (c0 &&& 4503599627370495) + hi) (t1 : g1 = (c1 &&& 4503599627370495) - (hi <<< ((44 : Int32) &&& 0x3f).toInt64)) (t3 : g3 = (c3 &&& 4503599627370495) - (hi <<< ((36 : Int32) &&& 0x3f).toInt64)) (t4 : g4 = (c4 &&& 281474976710655) + (hi <<< ((16 : Int32) &&& 0x3f).toInt64))
    (u1 : w1 = g1 + (g0 >>> ((52 : Int32) &&& 0x3f).toInt64)) (u2 : w2 = (c2 &&& 4503599627370495) + (w1 >>> ((52 : Int32) &&& 0x3f).toInt64)) (u3 : w3 = g3 + (w2 >>> ((52 : Int32) &&& 0x3f).toInt64)) :
    ∃ v n : Int, Nrm (g0 &&& 4503599627370495) (w1 &&& 4503599627370495) (w2 &&& 4503599627370495) (w3 &&& 4503599627370495) (g4 + (w3 >>> ((52 : Int32) &&& 0x3f).toInt64)) v ∧ v < 231584178420712497525394893898815147060172286830580628391067262617734195707902 ∧ v = 7 * va - n * 115792089210356248762697446949407573530086143415290314195533631308867097853951 := by
  obtain ⟨⟨p0, q0⟩, ⟨p1, q1⟩, ⟨p2, q2⟩, ⟨p3, q3⟩, p4, hv⟩ := ha
  have q4 : a4.toInt < 562949953421312 := by omega
  have i0 : c0.toInt = a0.toInt * 7 := by rw [e0]; exact own_mll hf (by omega) (by omega)
  have i1 := own_mul1 hf (by omega) (by omega) (by omega) e1
  have i2 := own_mul1 hf (by omega) (by omega) (by omega) e2
  have i3 := own_mul1 hf (by omega) (by omega) (by omega) e3
  have i4 := own_mul1 hf (by omega) (by omega) (by omega) e4
  have ih : hi.toInt = c4.toInt / 281474976710656 := by rw [eh]; exact own_sh48 c4
  clear e0 e1 e2 e3 e4 eh
  have hb : 0 ≤ hi.toInt ∧ hi.toInt ≤ 16 := by omega
  have y0 := own_mk c0
  have y1 := own_mk c1
  have y2 := own_mk c2
  have y3 := own_mk c3
  have y4 := own_mk48 c4
  have s44 : (hi <<< ((44 : Int32) &&& 0x3f).toInt64).toInt = hi.toInt * 17592186044416 := own_shl (a := hi) 44 44 (by decide) (by omega) (by omega)
  have s36 : (hi <<< ((36 : Int32) &&& 0x3f).toInt64).toInt = hi.toInt * 68719476736 := own_shl (a := hi) 36 36 (by decide) (by omega) (by omega)
  have s16 : (hi <<< ((16 : Int32) &&& 0x3f).toInt64).toInt = hi.toInt * 65536 := own_shl (a := hi) 16 16 (by decide) (by omega) (by omega)
  have v0 : g0.toInt = c0.toInt % 4503599627370496 + hi.toInt := by rw [t0, own_adl (by rw [y0]; omega) (by rw [y0]; omega), y0]
  have v1 : g1.toInt = c1.toInt % 4503599627370496 - hi.toInt * 17592186044416 := by rw [t1, own_sbl (by rw [y1, s44]; omega) (by rw [y1, s44]; omega), y1, s44]
  have v3 : g3.toInt = c3.toInt % 4503599627370496 - hi.toInt * 68719476736 := by rw [t3, own_sbl (by rw [y3, s36]; omega) (by rw [y3, s36]; omega), y3, s36]
  have v4 : g4.toInt = c4.toInt % 281474976710656 + hi.toInt * 65536 := by rw [t4, own_adl (by rw [y4, s16]; omega) (by rw [y4, s16]; omega), y4, s16]
  clear t0 t1 t3 t4 s44 s36 s16 y0 y1 y3 y4
  have z0 := own_sh g0
  have o1 : w1.toInt = g1.toInt + g0.toInt / 4503599627370496 := by rw [u1, own_adl (by rw [z0]; omega) (by rw [z0]; omega), z0]
  have z1 := own_sh w1
  have o2 : w2.toInt = c2.toInt % 4503599627370496 + w1.toInt / 4503599627370496 := by rw [u2, own_adl (by rw [y2, z1]; omega) (by rw [y2, z1]; omega), y2, z1]
  have z2 := own_sh w2
  have o3 : w3.toInt = g3.toInt + w2.toInt / 4503599627370496 := by rw [u3, own_adl (by rw [z2]; omega) (by rw [z2]; omega), z2]
  have z3 := own_sh w3
  have o4 : (g4 + (w3 >>> ((52 : Int32) &&& 0x3f).toInt64)).toInt = g4.toInt + w3.toInt / 4503599627370496 := by rw [own_adl (by rw [z3]; omega) (by rw [z3]; omega), z3]
  clear u1 u2 u3 z0 z1 z2 z3 y2
  refine ⟨7 * va - hi.toInt * 115792089210356248762697446949407573530086143415290314195533631308867097853951, hi.toInt, ?_, by omega, rfl⟩
  unfold Nrm
  rw [own_mk, own_mk, own_mk, own_mk, o4]
  omega

theorem own_ms8 {a0 a1 a2 a3 a4 f c0 c1 c2 c3 c4 hi g0 g1 g3 g4 w1 w2 w3 : Int64} {va : Int} (hf : f.toInt = 8) (ha : Nrm a0 a1 a2 a3 a4 va) (la : va < 231584178420712497525394893898815147060172286830580628391067262617734195707902)
    (e0 : c0 = a0 * f) (e1 : c1 = (a1 * f) + (c0 >>> ((52 : Int32) &&& 0x3f).toInt64)) (e2 : c2 = (a2 * f) + (c1 >>> ((52 : Int32) &&& 0x3f).toInt64)) (e3 : c3 = (a3 * f) + (c2 >>> ((52 : Int32) &&& 0x3f).toInt64)) (e4 : c4 = (a4 * f) + (c3 >>> ((52 : Int32) &&& 0x3f).toInt64))
    (eh : hi = c4 >>> ((48 : Int32) &&& 0x3f).toInt64) (t0 : g0 = (c0 &&& 4503599627370495) + hi) (t1 : g1 = (c1 &&& 4503599627370495) - (hi <<< ((44 : Int32) &&& 0x3f).toInt64)) (t3 : g3 = (c3 &&& 4503599627370495) - (hi <<< ((36 : Int32) &&& 0x3f).toInt64)) (t4 : g4 = (c4 &&& 281474976710655) + (hi <<< ((16 : Int32) &&& 0x3f).toInt64))
    (u1 : w1 = g1 + (g0 >>> ((52 : Int32) &&& 0x3f).toInt64)) (u2 : w2 = (c2 &&& 4503599627370495) + (w1 >>> ((52 : Int32) &&& 0x3f).toInt64)) (u3 : w3 = g3 + (w2 >>> ((52 : Int32) &&& 0x3f).toInt64)) :
    ∃ v n : Int, Nrm (g0 &&& 4503599627370495) (w1 &&& 4503599627370495) (w2 &&& 4503599627370495) (w3 &&& 4503599627370495) (g4 + (w3 >>> ((52 : Int32) &&& 0x3f).toInt64)) v ∧ v < 231584178420712497525394893898815147060172286830580628391067262617734195707902 ∧ v = 8 * va - n * 115792089210356248762697446949407573530086143415290314195533631308867097853951 := by
  obtain ⟨⟨p0, q0⟩, ⟨p1, q1⟩, ⟨p2, q2⟩, ⟨p3, q3⟩, p4, hv⟩ := ha
  have q4 : a4.toInt < 562949953421312 := by omega
  have i0 : c0.toInt = a0.toInt * 8 := by rw [e0]; exact own_mll hf (by omega) (by omega)
  have i1 := own_mul1 hf (by omega) (by omega) (by omega) e1
  have i2 := own_mul1 hf (by omega) (by omega) (by omega) e2
  have i3 := own_mul1 hf (by omega) (by omega) (by omega) e3
  have i4 := own_mul1 hf (by omega) (by omega) (by omega) e4
  have ih : hi.toInt = c4.toInt / 281474976710656 := by rw [eh]; exact own_sh48 c4
  clear e0 e1 e2 e3 e4 eh
  have hb : 0 ≤ hi.toInt ∧ hi.toInt ≤ 16 := by omega
  have y0 := own_mk c0
  have y1 := own_mk c1
  have y2 := own_mk c2
  have y3 := own_mk c3
  have y4 := own_mk48 c4
  have s44 : (hi <<< ((44 : Int32) &&& 0x3f).toInt64).toInt = hi.toInt * 17592186044416 := own_shl (a := hi) 44 44 (by decide) (by omega) (by omega)
  have s36 : (hi <<< ((36 : Int32) &&& 0x3f).toInt64).toInt = hi.toInt * 68719476736 := own_shl (a := hi) 36 36 (by decide) (by omega) (by omega)
  have s16 : (hi <<< ((16 : Int32) &&& 0x3f).toInt64).toInt = hi.toInt * 65536 := own_shl (a := hi) 16 16 (by decide) (by omega) (by omega)
  have v0 : g0.toInt = c0.toInt % 4503599627370496 + hi.toInt := by rw [t0, own_adl (by rw [y0]; omega) (by rw [y0]; omega), y0]
  have v1 : g1.toInt = c1.toInt % 4503599627370496 - hi.toInt * 17592186044416 := by rw [t1, own_sbl (by rw [y1, s44]; omega) (by rw [y1, s44]; omega), y1, s44]
  have v3 : g3.toInt = c3.toInt % 4503599627370496 - hi.toInt * 68719476736 := by rw [t3, own_sbl (by rw [y3, s36]; omega) (by rw [y3, s36]; omega), y3, s36]
  have v4 : g4.toInt = c4.toInt % 281474976710656 + hi.toInt * 65536 := by rw [t4, own_adl (by rw [y4, s16]; omega) (by rw [y4, s16]; omega), y4, s16]
  clear t0 t1 t3 t4 s44 s36 s16 y0 y1 y3 y4
  have z0 := own_sh g0
  have o1 : w1.toInt = g1.toInt + g0.toInt / 4503599627370496 := by rw [u1, own_adl (by rw [z0]; omega) (by rw [z0]; omega), z0]
  have z1 := own_sh w1
  have o2 : w2.toInt = c2.toInt % 4503599627370496 + w1.toInt / 4503599627370496 := by rw [u2, own_adl (by rw [y2, z1]; omega) (by rw [y2, z1]; omega), y2, z1]
  have z2 := own_sh w2
  have o3 : w3.toInt = g3.toInt + w2.toInt / 4503599627370496 := by rw [u3, own_adl (by rw [z2]; omega) (by rw [z2]; omega), z2]
  have z3 := own_sh w3
  have o4 : (g4 + (w3 >>> ((52 : Int32) &&& 0x3f).toInt64)).toInt = g4.toInt + w3.toInt / 4503599627370496 := by rw [own_adl (by rw [z3]; omega) (by rw [z3]; omega), z3]
  clear u1 u2 u3 z0 z1 z2 z3 y2
  refine ⟨8 * va - hi.toInt * 115792089210356248762697446949407573530086143415290314195533631308867097853951, hi.toInt, ?_, by omega, rfl⟩
  unfold Nrm
  rw [own_mk, own_mk, own_mk, own_mk, o4]
  omega

theorem own_top {a0 a1 a2 a3 a4 : Int64} {v : Int} (h : Nrm a0 a1 a2 a3 a4 v) (l : v < 231584178420712497525394893898815147060172286830580628391067262617734195707902) : a4.toInt < 2251799813685248 := by
  obtain ⟨⟨p0, q0⟩, ⟨p1, q1⟩, ⟨p2, q2⟩, ⟨p3, q3⟩, p4, hv⟩ := h
  omega
theorem own_nn {a0 a1 a2 a3 a4 : Int64} {v : Int} (h : Nrm a0 a1 a2 a3 a4 v) : 0 ≤ v := by
  obtain ⟨⟨p0, q0⟩, ⟨p1, q1⟩, ⟨p2, q2⟩, ⟨p3, q3⟩, p4, hv⟩ := h
  omega
theorem own_same {a0 a1 a2 a3 a4 b0 b1 b2 b3 b4 : Int64} {v w : Int} (h : Nrm a0 a1 a2 a3 a4 v) (h' : Nrm b0 b1 b2 b3 b4 w) (e : v = w) : a0 = b0 ∧ a1 = b1 ∧ a2 = b2 ∧ a3 = b3 ∧ a4 = b4 := by
  obtain ⟨⟨p0, q0⟩, ⟨p1, q1⟩, ⟨p2, q2⟩, ⟨p3, q3⟩, p4, hv⟩ := h
  obtain ⟨⟨c0, f0⟩, ⟨c1, f1⟩, ⟨c2, f2⟩, ⟨c3, f3⟩, c4, hw⟩ := h'
  simp only [← Int64.toInt_inj]
  have r0 : a0.toInt = b0.toInt := by omega
  have r1 : a1.toInt = b1.toInt := by omega
  have r2 : a2.toInt = b2.toInt := by omega
  have r3 : a3.toInt = b3.toInt := by omega
  exact ⟨r0, r1, r2, r3, by omega⟩
theorem own_xx (y : Int64) : (0 : Int64) ||| (y ^^^ y) = 0 := by
  apply Int64.toBitVec_inj.mp
  simp
def own_val (a b c d e : Int64) : Int := a.toInt + 4503599627370496 * b.toInt + 20282409603651670423947251286016 * c.toInt + 91343852333181432387730302044767688728495783936 * d.toInt + 411376139330301510538742295639337626245683966408394965837152256 * e.toInt
theorem own_msk5 {a b c d e a' b' c' d' e' : Int64} (ha : a = a' &&& 4503599627370495) (hb : b = b' &&& 4503599627370495) (hc : c = c' &&& 4503599627370495) (hd : d = d' &&& 4503599627370495) (he : e = e' &&& 562949953421311) : Nrm a b c d e (own_val a b c d e) := by
  have k0 := own_mk a'
  have k1 := own_mk b'
  have k2 := own_mk c'
  have k3 := own_mk d'
  have k4 := own_mk49 e'
  subst ha hb hc hd he
  unfold Nrm own_val
  refine ⟨by omega, by omega, by omega, by omega, by omega, rfl⟩
theorem own_f8 {x f : Int32} (h : f = (x &&& 7) + 1) : f = 1 ∨ f = 2 ∨ f = 3 ∨ f = 4 ∨ f = 5 ∨ f = 6 ∨ f = 7 ∨ f = 8 := by
  have e : (x &&& 7).toInt = x.toInt % (2 ^ 3 : Nat) := c_mask x 7 3 (by decide) (by decide)
  have q := c_iadd (x &&& 7) 1
  have t : (1 : Int32).toInt = 1 := by decide
  rw [← h, t] at q
  have l1 := f.toInt_lt
  have l2 := f.le_toInt
  simp only [← Int32.toInt_inj]
  have k2 : (2 : Int32).toInt = 2 := by decide
  have k3 : (3 : Int32).toInt = 3 := by decide
  have k4 : (4 : Int32).toInt = 4 := by decide
  have k5 : (5 : Int32).toInt = 5 := by decide
  have k6 : (6 : Int32).toInt = 6 := by decide
  have k7 : (7 : Int32).toInt = 7 := by decide
  have k8 : (8 : Int32).toInt = 8 := by decide
  rw [t, k2, k3, k4, k5, k6, k7, k8]; omega

theorem own_red2 {vx v : Int} (h : 231584178420712497525394893898815147060172286830580628391067262617734195707902 ≤ vx ∧ v = vx - 231584178420712497525394893898815147060172286830580628391067262617734195707902 ∨ vx < 231584178420712497525394893898815147060172286830580628391067262617734195707902 ∧ v = vx) (l : vx < 463168356841424995050789787797630294120344573661161256782134525235468391415804) : v < 231584178420712497525394893898815147060172286830580628391067262617734195707902 ∧ ∃ j : Int, v = vx - j * 231584178420712497525394893898815147060172286830580628391067262617734195707902 := by
  refine ⟨by omega, ?_⟩
  rcases h with ⟨_, h⟩ | ⟨_, h⟩
  · exact ⟨1, by omega⟩
  · exact ⟨0, by omega⟩
theorem own_red1 {vx v : Int} (h : 115792089210356248762697446949407573530086143415290314195533631308867097853951 ≤ vx ∧ v = vx - 115792089210356248762697446949407573530086143415290314195533631308867097853951 ∨ vx < 115792089210356248762697446949407573530086143415290314195533631308867097853951 ∧ v = vx) (l : vx < 231584178420712497525394893898815147060172286830580628391067262617734195707902) : v < 115792089210356248762697446949407573530086143415290314195533631308867097853951 ∧ ∃ j : Int, v = vx - j * 115792089210356248762697446949407573530086143415290314195533631308867097853951 := by
  refine ⟨by omega, ?_⟩
  rcases h with ⟨_, h⟩ | ⟨_, h⟩
  · exact ⟨1, by omega⟩
  · exact ⟨0, by omega⟩
theorem own_lt4 {a b : Int} (la : a < 231584178420712497525394893898815147060172286830580628391067262617734195707902) (lb : b < 231584178420712497525394893898815147060172286830580628391067262617734195707902) : a + b < 463168356841424995050789787797630294120344573661161256782134525235468391415804 := by omega
theorem own_eqv {va vb wa wb : Int} (h : (va - vb) % 115792089210356248762697446949407573530086143415290314195533631308867097853951 = 0) (a0 : 0 ≤ wa) (b0 : 0 ≤ wb) (a1 : wa < 115792089210356248762697446949407573530086143415290314195533631308867097853951) (b1 : wb < 115792089210356248762697446949407573530086143415290314195533631308867097853951) (ja : ∃ j : Int, wa = va - j * 115792089210356248762697446949407573530086143415290314195533631308867097853951) (jb : ∃ j : Int, wb = vb - j * 115792089210356248762697446949407573530086143415290314195533631308867097853951) : wa = wb := by
  obtain ⟨j, ja⟩ := ja
  obtain ⟨k, jb⟩ := jb
  omega

theorem own_hab1 {v d2 d4 d8 e1 e2 e3 r : Int} (h1 : ∃ j : Int, d2 = (v + v) - j * 231584178420712497525394893898815147060172286830580628391067262617734195707902) (h2 : ∃ j : Int, d4 = (d2 + d2) - j * 231584178420712497525394893898815147060172286830580628391067262617734195707902) (h3 : ∃ j : Int, d8 = (d4 + d4) - j * 231584178420712497525394893898815147060172286830580628391067262617734195707902) (h4 : ∃ j : Int, e1 = (v + 0) - j * 231584178420712497525394893898815147060172286830580628391067262617734195707902) (h5 : ∃ j : Int, e2 = (e1 + 0) - j * 231584178420712497525394893898815147060172286830580628391067262617734195707902) (h6 : ∃ j : Int, e3 = (e2 + 0) - j * 231584178420712497525394893898815147060172286830580628391067262617734195707902) (h7 : ∃ j : Int, r = 1 * v - j * 115792089210356248762697446949407573530086143415290314195533631308867097853951) : (r - e3) % 115792089210356248762697446949407573530086143415290314195533631308867097853951 = 0 := by
  obtain ⟨j1, h1⟩ := h1
  obtain ⟨j2, h2⟩ := h2
  obtain ⟨j3, h3⟩ := h3
  obtain ⟨j4, h4⟩ := h4
  obtain ⟨j5, h5⟩ := h5
  obtain ⟨j6, h6⟩ := h6
  obtain ⟨j7, h7⟩ := h7
  omega

theorem own_hab2 {v d2 d4 d8 e1 e2 e3 r : Int} (h1 : ∃ j : Int, d2 = (v + v) - j * 231584178420712497525394893898815147060172286830580628391067262617734195707902) (h2 : ∃ j : Int, d4 = (d2 + d2) - j * 231584178420712497525394893898815147060172286830580628391067262617734195707902) (h3 : ∃ j : Int, d8 = (d4 + d4) - j * 231584178420712497525394893898815147060172286830580628391067262617734195707902) (h4 : ∃ j : Int, e1 = (0 + d2) - j * 231584178420712497525394893898815147060172286830580628391067262617734195707902) (h5 : ∃ j : Int, e2 = (e1 + 0) - j * 231584178420712497525394893898815147060172286830580628391067262617734195707902) (h6 : ∃ j : Int, e3 = (e2 + 0) - j * 231584178420712497525394893898815147060172286830580628391067262617734195707902) (h7 : ∃ j : Int, r = 2 * v - j * 115792089210356248762697446949407573530086143415290314195533631308867097853951) : (r - e3) % 115792089210356248762697446949407573530086143415290314195533631308867097853951 = 0 := by
  obtain ⟨j1, h1⟩ := h1
  obtain ⟨j2, h2⟩ := h2
  obtain ⟨j3, h3⟩ := h3
  obtain ⟨j4, h4⟩ := h4
  obtain ⟨j5, h5⟩ := h5
  obtain ⟨j6, h6⟩ := h6
  obtain ⟨j7, h7⟩ := h7
  omega

theorem own_hab3 {v d2 d4 d8 e1 e2 e3 r : Int} (h1 : ∃ j : Int, d2 = (v + v) - j * 231584178420712497525394893898815147060172286830580628391067262617734195707902) (h2 : ∃ j : Int, d4 = (d2 + d2) - j * 231584178420712497525394893898815147060172286830580628391067262617734195707902) (h3 : ∃ j : Int, d8 = (d4 + d4) - j * 231584178420712497525394893898815147060172286830580628391067262617734195707902) (h4 : ∃ j : Int, e1 = (v + d2) - j * 231584178420712497525394893898815147060172286830580628391067262617734195707902) (h5 : ∃ j : Int, e2 = (e1 + 0) - j * 231584178420712497525394893898815147060172286830580628391067262617734195707902) (h6 : ∃ j : Int, e3 = (e2 + 0) - j * 231584178420712497525394893898815147060172286830580628391067262617734195707902) (h7 : ∃ j : Int, r = 3 * v - j * 115792089210356248762697446949407573530086143415290314195533631308867097853951) : (r - e3) % 115792089210356248762697446949407573530086143415290314195533631308867097853951 = 0 := by
  obtain ⟨j1, h1⟩ := h1
  obtain ⟨j2, h2⟩ := h2
  obtain ⟨j3, h3⟩ := h3
  obtain ⟨j4, h4⟩ := h4
  obtain ⟨j5, h5⟩ := h5
  obtain ⟨j6, h6⟩ := h6
  obtain ⟨j7, h7⟩ := h7
  omega

theorem own_hab4 {v d2 d4 d8 e1 e2 e3 r : Int} (h1 : ∃ j : Int, d2 = (v + v) - j * 231584178420712497525394893898815147060172286830580628391067262617734195707902) (h2 : ∃ j : Int, d4 = (d2 + d2) - j * 231584178420712497525394893898815147060172286830580628391067262617734195707902) (h3 : ∃ j : Int, d8 = (d4 + d4) - j * 231584178420712497525394893898815147060172286830580628391067262617734195707902) (h4 : ∃ j : Int, e1 = (0 + 0) - j * 231584178420712497525394893898815147060172286830580628391067262617734195707902) (h5 : ∃ j : Int, e2 = (e1 + d4) - j * 231584178420712497525394893898815147060172286830580628391067262617734195707902) (h6 : ∃ j : Int, e3 = (e2 + 0) - j * 231584178420712497525394893898815147060172286830580628391067262617734195707902) (h7 : ∃ j : Int, r = 4 * v - j * 115792089210356248762697446949407573530086143415290314195533631308867097853951) : (r - e3) % 115792089210356248762697446949407573530086143415290314195533631308867097853951 = 0 := by
  obtain ⟨j1, h1⟩ := h1
  obtain ⟨j2, h2⟩ := h2
  obtain ⟨j3, h3⟩ := h3
  obtain ⟨j4, h4⟩ := h4
  obtain ⟨j5, h5⟩ := h5
  obtain ⟨j6, h6⟩ := h6
  obtain ⟨j7, h7⟩ := h7
  omega

theorem own_hab5 {v d2 d4 d8 e1 e2 e3 r : Int} (h1 : ∃ j : Int, d2 = (v + v) - j * 231584178420712497525394893898815147060172286830580628391067262617734195707902) (h2 : ∃ j : Int, d4 = (d2 + d2) - j * 231584178420712497525394893898815147060172286830580628391067262617734195707902) (h3 : ∃ j : Int, d8 = (d4 + d4) - j * 231584178420712497525394893898815147060172286830580628391067262617734195707902) (h4 : ∃ j : Int, e1 = (v + 0) - j * 231584178420712497525394893898815147060172286830580628391067262617734195707902) (h5 : ∃ j : Int, e2 = (e1 + d4) - j * 231584178420712497525394893898815147060172286830580628391067262617734195707902) (h6 : ∃ j : Int, e3 = (e2 + 0) - j * 231584178420712497525394893898815147060172286830580628391067262617734195707902) (h7 : ∃ j : Int, r = 5 * v - j * 115792089210356248762697446949407573530086143415290314195533631308867097853951) : (r - e3) % 115792089210356248762697446949407573530086143415290314195533631308867097853951 = 0 := by
  obtain ⟨j1, h1⟩ := h1
  obtain ⟨j2, h2⟩ := h2
  obtain ⟨j3, h3⟩ := h3
  obtain ⟨j4, h4⟩ := h4
  obtain ⟨j5, h5⟩ := h5
  obtain ⟨j6, h6⟩ := h6
  obtain ⟨j7, h7⟩ := h7
  omega

theorem own_hab6 {v d2 d4 d8 e1 e2 e3 r : Int} (h1 : ∃ j : Int, d2 = (v + v) - j * 231584178420712497525394893898815147060172286830580628391067262617734195707902) (h2 : ∃ j : Int, d4 = (d2 + d2) - j * 231584178420712497525394893898815147060172286830580628391067262617734195707902) (h3 : ∃ j : Int, d8 = (d4 + d4) - j * 231584178420712497525394893898815147060172286830580628391067262617734195707902) (h4 : ∃ j : Int, e1 = (0 + d2) - j * 231584178420712497525394893898815147060172286830580628391067262617734195707902) (h5 : ∃ j : Int, e2 = (e1 + d4) - j * 231584178420712497525394893898815147060172286830580628391067262617734195707902) (h6 : ∃ j : Int, e3 = (e2 + 0) - j * 231584178420712497525394893898815147060172286830580628391067262617734195707902) (h7 : ∃ j : Int, r = 6 * v - j * 115792089210356248762697446949407573530086143415290314195533631308867097853951) : (r - e3) % 115792089210356248762697446949407573530086143415290314195533631308867097853951 = 0 := by
  obtain ⟨j1, h1⟩ := h1
  obtain ⟨j2, h2⟩ := h2
  obtain ⟨j3, h3⟩ := h3
  obtain ⟨j4, h4⟩ := h4
  obtain ⟨j5, h5⟩ := h5
  obtain ⟨j6, h6⟩ := h6
  obtain ⟨j7, h7⟩ := h7
  omega

theorem own_hab7 {v d2 d4 d8 e1 e2 e3 r : Int} (h1 : ∃ j : Int, d2 = (v + v) - j * 231584178420712497525394893898815147060172286830580628391067262617734195707902) (h2 : ∃ j : Int, d4 = (d2 + d2) - j * 231584178420712497525394893898815147060172286830580628391067262617734195707902) (h3 : ∃ j : Int, d8 = (d4 + d4) - j * 231584178420712497525394893898815147060172286830580628391067262617734195707902) (h4 : ∃ j : Int, e1 = (v + d2) - j * 231584178420712497525394893898815147060172286830580628391067262617734195707902) (h5 : ∃ j : Int, e2 = (e1 + d4) - j * 231584178420712497525394893898815147060172286830580628391067262617734195707902) (h6 : ∃ j : Int, e3 = (e2 + 0) - j * 231584178420712497525394893898815147060172286830580628391067262617734195707902) (h7 : ∃ j : Int, r = 7 * v - j * 115792089210356248762697446949407573530086143415290314195533631308867097853951) : (r - e3) % 115792089210356248762697446949407573530086143415290314195533631308867097853951 = 0 := by
  obtain ⟨j1, h1⟩ := h1
  obtain ⟨j2, h2⟩ := h2
  obtain ⟨j3, h3⟩ := h3
  obtain ⟨j4, h4⟩ := h4
  obtain ⟨j5, h5⟩ := h5
  obtain ⟨j6, h6⟩ := h6
  obtain ⟨j7, h7⟩ := h7
  omega

theorem own_hab8 {v d2 d4 d8 e1 e2 e3 r : Int} (h1 : ∃ j : Int, d2 = (v + v) - j * 231584178420712497525394893898815147060172286830580628391067262617734195707902) (h2 : ∃ j : Int, d4 = (d2 + d2) - j * 231584178420712497525394893898815147060172286830580628391067262617734195707902) (h3 : ∃ j : Int, d8 = (d4 + d4) - j * 231584178420712497525394893898815147060172286830580628391067262617734195707902) (h4 : ∃ j : Int, e1 = (0 + 0) - j * 231584178420712497525394893898815147060172286830580628391067262617734195707902) (h5 : ∃ j : Int, e2 = (e1 + 0) - j * 231584178420712497525394893898815147060172286830580628391067262617734195707902) (h6 : ∃ j : Int, e3 = (e2 + d8) - j * 231584178420712497525394893898815147060172286830580628391067262617734195707902) (h7 : ∃ j : Int, r = 8 * v - j * 115792089210356248762697446949407573530086143415290314195533631308867097853951) : (r - e3) % 115792089210356248762697446949407573530086143415290314195533631308867097853951 = 0 := by
  obtain ⟨j1, h1⟩ := h1
  obtain ⟨j2, h2⟩ := h2
  obtain ⟨j3, h3⟩ := h3
  obtain ⟨j4, h4⟩ := h4
  obtain ⟨j5, h5⟩ := h5
  obtain ⟨j6, h6⟩ := h6
  obtain ⟨j7, h7⟩ := h7
  omega

def f_blw  (x1_0 : Int64) (x1_1 : Int64) (x1_2 : Int64) (x1_3 : Int64) (x1_4 : Int64) : Int32 := if x1_4 = (562949953290240 : Int64) then (if x1_3 = (137438953472 : Int64) then (if x1_2 = (0 : Int64) then (if x1_1 = (35184372088831 : Int64) then (if x1_0 < (4503599627370494 : Int64) then (1 : Int32) else (0 : Int32)) else (if x1_1 < (35184372088831 : Int64) then (1 : Int32) else (0 : Int32))) else (if x1_2 < (0 : Int64) then (1 : Int32) else (0 : Int32))) else (if x1_3 < (137438953472 : Int64) then (1 : Int32) else (0 : Int32))) else (if x1_4 < (562949953290240 : Int64) then (1 : Int32) else (0 : Int32))
set_option maxRecDepth 65536 in
set_option maxHeartbeats 40000000 in
theorem c_blw (l : Launch) (Z : State) (a0 : Array Value) (hw : Hw a0 Z) (x1 : Addr)  (x1_0 : Int64) (x1_1 : Int64) (x1_2 : Int64) (x1_3 : Int64) (x1_4 : Int64) (h0 : Heap) (n0 : Nat) (Z0 : n0 ≤ h0.size) (V_x1 : Av Z h0 x1 .long [(.long x1_0), (.long x1_1), (.long x1_2), (.long x1_3), (.long x1_4)])  :
    Met l Z (⟨"org/subveil/Secp256r1FieldMultiplySmallPinLaw", "belowTwoP", "([J)Z"⟩ : MethodName) method_2_code 11 (some .boolean) [] ({ frames := 0, cells := 0, slots := 0, locals := 0 } : Room) #[(.ref x1)] h0 n0 (RetI (fun z h => z = f_blw  x1_0 x1_1 x1_2 x1_3 x1_4 ∧ h0 = h)) := by
  refine Met.intro pn1 (own := "org/subveil/Secp256r1FieldMultiplySmallPinLaw") rfl (nm := "belowTwoP") rfl (fun m => ef1 m x1) ?_
  intro p e s m below meth c C
  refine s_ldc2 C d1_0 (pc' := 3) rfl (w7 hw) ?_
  refine s_lstoreNP C d1_3 (pc' := 4) rfl #[.val (.ref x1), .val (.long (4503599627370494 : Int64)), .second, .unset, .unset, .unset, .unset, .unset, .unset, .unset, .unset] rfl ?_
  refine s_ldc2 C d1_4 (pc' := 7) rfl (w8 hw) ?_
  refine s_lstoreNP C d1_7 (pc' := 8) rfl #[.val (.ref x1), .val (.long (4503599627370494 : Int64)), .second, .val (.long (35184372088831 : Int64)), .second, .unset, .unset, .unset, .unset, .unset, .unset] rfl ?_
  refine s_lconst C d1_8 (pc' := 9) rfl (0 : Int64) rfl ?_
  refine s_lstoreP C d1_9 (pc' := 11) rfl #[.val (.ref x1), .val (.long (4503599627370494 : Int64)), .second, .val (.long (35184372088831 : Int64)), .second, .val (.long (0 : Int64)), .second, .unset, .unset, .unset, .unset] rfl ?_
  refine s_ldc2 C d1_11 (pc' := 14) rfl (w9 hw) ?_
  refine s_lstoreP C d1_14 (pc' := 16) rfl #[.val (.ref x1), .val (.long (4503599627370494 : Int64)), .second, .val (.long (35184372088831 : Int64)), .second, .val (.long (0 : Int64)), .second, .val (.long (137438953472 : Int64)), .second, .unset, .unset] rfl ?_
  refine s_ldc2 C d1_16 (pc' := 19) rfl (w10 hw) ?_
  refine s_lstoreP C d1_19 (pc' := 21) rfl #[.val (.ref x1), .val (.long (4503599627370494 : Int64)), .second, .val (.long (35184372088831 : Int64)), .second, .val (.long (0 : Int64)), .second, .val (.long (137438953472 : Int64)), .second, .val (.long (562949953290240 : Int64)), .second] rfl ?_
  refine s_aloadN C d1_21 (pc' := 22) rfl rfl rfl ?_
  refine s_iconst C d1_22 (pc' := 23) rfl (4 : Int32) rfl ?_
  refine s_laload C d1_23 (pc' := 24) rfl V_x1 4 (by decide) rfl ?_
  refine s_lload C d1_24 (pc' := 26) rfl rfl ?_
  refine s_lc_eq C d1_26 (pc1 := 27) rfl d1_27 (pc' := 30) rfl (pcY := 45) rfl (fun c1 => ?_) (fun c1 => ?_)
  · skip
    refine s_aloadN C d1_45 (pc' := 46) rfl rfl rfl ?_
    refine s_iconst C d1_46 (pc' := 47) rfl (3 : Int32) rfl ?_
    refine s_laload C d1_47 (pc' := 48) rfl V_x1 3 (by decide) rfl ?_
    refine s_lload C d1_48 (pc' := 50) rfl rfl ?_
    refine s_lc_eq C d1_50 (pc1 := 51) rfl d1_51 (pc' := 54) rfl (pcY := 69) rfl (fun c2 => ?_) (fun c2 => ?_)
    · skip
      refine s_aloadN C d1_69 (pc' := 70) rfl rfl rfl ?_
      refine s_iconst C d1_70 (pc' := 71) rfl (2 : Int32) rfl ?_
      refine s_laload C d1_71 (pc' := 72) rfl V_x1 2 (by decide) rfl ?_
      refine s_lload C d1_72 (pc' := 74) rfl rfl ?_
      refine s_lc_eq C d1_74 (pc1 := 75) rfl d1_75 (pc' := 78) rfl (pcY := 93) rfl (fun c3 => ?_) (fun c3 => ?_)
      · skip
        refine s_aloadN C d1_93 (pc' := 94) rfl rfl rfl ?_
        refine s_iconst C d1_94 (pc' := 95) rfl (1 : Int32) rfl ?_
        refine s_laload C d1_95 (pc' := 96) rfl V_x1 1 (by decide) rfl ?_
        refine s_lloadN C d1_96 (pc' := 97) rfl rfl ?_
        refine s_lc_eq C d1_97 (pc1 := 98) rfl d1_98 (pc' := 101) rfl (pcY := 115) rfl (fun c4 => ?_) (fun c4 => ?_)
        · skip
          refine s_aloadN C d1_115 (pc' := 116) rfl rfl rfl ?_
          refine s_iconst C d1_116 (pc' := 117) rfl (0 : Int32) rfl ?_
          refine s_laload C d1_117 (pc' := 118) rfl V_x1 0 (by decide) rfl ?_
          refine s_lloadN C d1_118 (pc' := 119) rfl rfl ?_
          refine s_lc_ge C d1_119 (pc1 := 120) rfl d1_120 (pc' := 123) rfl (pcY := 127) rfl (fun c5 => ?_) (fun c5 => ?_)
          · skip
            refine s_iconst C d1_127 (pc' := 128) rfl (0 : Int32) rfl ?_
            exact s_retN C (by simp) d1_128 (by decide) (by decide) (by have e : f_blw  x1_0 x1_1 x1_2 x1_3 x1_4 = (0 : Int32) := (by unfold f_blw; rw [if_pos c1, if_pos c2, if_pos c3, if_pos c4, if_neg c5]); exact ⟨e.symm, rfl⟩)
          · skip
            refine s_iconst C d1_123 (pc' := 124) rfl (1 : Int32) rfl ?_
            refine s_goto C d1_124 (pc' := 128) rfl ?_
            exact s_retN C (by simp) d1_128 (by decide) (by decide) (by have e : f_blw  x1_0 x1_1 x1_2 x1_3 x1_4 = (1 : Int32) := (by unfold f_blw; rw [if_pos c1, if_pos c2, if_pos c3, if_pos c4, if_pos c5]); exact ⟨e.symm, rfl⟩)
        · skip
          refine s_aloadN C d1_101 (pc' := 102) rfl rfl rfl ?_
          refine s_iconst C d1_102 (pc' := 103) rfl (1 : Int32) rfl ?_
          refine s_laload C d1_103 (pc' := 104) rfl V_x1 1 (by decide) rfl ?_
          refine s_lloadN C d1_104 (pc' := 105) rfl rfl ?_
          refine s_lc_ge C d1_105 (pc1 := 106) rfl d1_106 (pc' := 109) rfl (pcY := 113) rfl (fun c6 => ?_) (fun c6 => ?_)
          · skip
            refine s_iconst C d1_113 (pc' := 114) rfl (0 : Int32) rfl ?_
            exact s_retN C (by simp) d1_114 (by decide) (by decide) (by have e : f_blw  x1_0 x1_1 x1_2 x1_3 x1_4 = (0 : Int32) := (by unfold f_blw; rw [if_pos c1, if_pos c2, if_pos c3, if_neg c4, if_neg c6]); exact ⟨e.symm, rfl⟩)
          · skip
            refine s_iconst C d1_109 (pc' := 110) rfl (1 : Int32) rfl ?_
            refine s_goto C d1_110 (pc' := 114) rfl ?_
            exact s_retN C (by simp) d1_114 (by decide) (by decide) (by have e : f_blw  x1_0 x1_1 x1_2 x1_3 x1_4 = (1 : Int32) := (by unfold f_blw; rw [if_pos c1, if_pos c2, if_pos c3, if_neg c4, if_pos c6]); exact ⟨e.symm, rfl⟩)
      · skip
        refine s_aloadN C d1_78 (pc' := 79) rfl rfl rfl ?_
        refine s_iconst C d1_79 (pc' := 80) rfl (2 : Int32) rfl ?_
        refine s_laload C d1_80 (pc' := 81) rfl V_x1 2 (by decide) rfl ?_
        refine s_lload C d1_81 (pc' := 83) rfl rfl ?_
        refine s_lc_ge C d1_83 (pc1 := 84) rfl d1_84 (pc' := 87) rfl (pcY := 91) rfl (fun c7 => ?_) (fun c7 => ?_)
        · skip
          refine s_iconst C d1_91 (pc' := 92) rfl (0 : Int32) rfl ?_
          exact s_retN C (by simp) d1_92 (by decide) (by decide) (by have e : f_blw  x1_0 x1_1 x1_2 x1_3 x1_4 = (0 : Int32) := (by unfold f_blw; rw [if_pos c1, if_pos c2, if_neg c3, if_neg c7]); exact ⟨e.symm, rfl⟩)
        · skip
          refine s_iconst C d1_87 (pc' := 88) rfl (1 : Int32) rfl ?_
          refine s_goto C d1_88 (pc' := 92) rfl ?_
          exact s_retN C (by simp) d1_92 (by decide) (by decide) (by have e : f_blw  x1_0 x1_1 x1_2 x1_3 x1_4 = (1 : Int32) := (by unfold f_blw; rw [if_pos c1, if_pos c2, if_neg c3, if_pos c7]); exact ⟨e.symm, rfl⟩)
    · skip
      refine s_aloadN C d1_54 (pc' := 55) rfl rfl rfl ?_
      refine s_iconst C d1_55 (pc' := 56) rfl (3 : Int32) rfl ?_
      refine s_laload C d1_56 (pc' := 57) rfl V_x1 3 (by decide) rfl ?_
      refine s_lload C d1_57 (pc' := 59) rfl rfl ?_
      refine s_lc_ge C d1_59 (pc1 := 60) rfl d1_60 (pc' := 63) rfl (pcY := 67) rfl (fun c8 => ?_) (fun c8 => ?_)
      · skip
        refine s_iconst C d1_67 (pc' := 68) rfl (0 : Int32) rfl ?_
        exact s_retN C (by simp) d1_68 (by decide) (by decide) (by have e : f_blw  x1_0 x1_1 x1_2 x1_3 x1_4 = (0 : Int32) := (by unfold f_blw; rw [if_pos c1, if_neg c2, if_neg c8]); exact ⟨e.symm, rfl⟩)
      · skip
        refine s_iconst C d1_63 (pc' := 64) rfl (1 : Int32) rfl ?_
        refine s_goto C d1_64 (pc' := 68) rfl ?_
        exact s_retN C (by simp) d1_68 (by decide) (by decide) (by have e : f_blw  x1_0 x1_1 x1_2 x1_3 x1_4 = (1 : Int32) := (by unfold f_blw; rw [if_pos c1, if_neg c2, if_pos c8]); exact ⟨e.symm, rfl⟩)
  · skip
    refine s_aloadN C d1_30 (pc' := 31) rfl rfl rfl ?_
    refine s_iconst C d1_31 (pc' := 32) rfl (4 : Int32) rfl ?_
    refine s_laload C d1_32 (pc' := 33) rfl V_x1 4 (by decide) rfl ?_
    refine s_lload C d1_33 (pc' := 35) rfl rfl ?_
    refine s_lc_ge C d1_35 (pc1 := 36) rfl d1_36 (pc' := 39) rfl (pcY := 43) rfl (fun c9 => ?_) (fun c9 => ?_)
    · skip
      refine s_iconst C d1_43 (pc' := 44) rfl (0 : Int32) rfl ?_
      exact s_retN C (by simp) d1_44 (by decide) (by decide) (by have e : f_blw  x1_0 x1_1 x1_2 x1_3 x1_4 = (0 : Int32) := (by unfold f_blw; rw [if_neg c1, if_neg c9]); exact ⟨e.symm, rfl⟩)
    · skip
      refine s_iconst C d1_39 (pc' := 40) rfl (1 : Int32) rfl ?_
      refine s_goto C d1_40 (pc' := 44) rfl ?_
      exact s_retN C (by simp) d1_44 (by decide) (by decide) (by have e : f_blw  x1_0 x1_1 x1_2 x1_3 x1_4 = (1 : Int32) := (by unfold f_blw; rw [if_neg c1, if_pos c9]); exact ⟨e.symm, rfl⟩)
def f_nmz  (x1_0 : Int64) (x1_1 : Int64) (x1_2 : Int64) (x1_3 : Int64) (x1_4 : Int64) : Int32 := if x1_0 < (0 : Int64) then (0 : Int32) else (if x1_0 < (4503599627370496 : Int64) then (if x1_1 < (0 : Int64) then (0 : Int32) else (if x1_1 < (4503599627370496 : Int64) then (if x1_2 < (0 : Int64) then (0 : Int32) else (if x1_2 < (4503599627370496 : Int64) then (if x1_3 < (0 : Int64) then (0 : Int32) else (if x1_3 < (4503599627370496 : Int64) then (if x1_4 < (0 : Int64) then (0 : Int32) else (if x1_4 < (562949953421312 : Int64) then (1 : Int32) else (0 : Int32))) else (0 : Int32))) else (0 : Int32))) else (0 : Int32))) else (0 : Int32))
set_option maxRecDepth 65536 in
set_option maxHeartbeats 40000000 in
theorem c_nmz (l : Launch) (Z : State) (a0 : Array Value) (hw : Hw a0 Z) (x1 : Addr)  (x1_0 : Int64) (x1_1 : Int64) (x1_2 : Int64) (x1_3 : Int64) (x1_4 : Int64) (h0 : Heap) (n0 : Nat) (Z0 : n0 ≤ h0.size) (V_x1 : Av Z h0 x1 .long [(.long x1_0), (.long x1_1), (.long x1_2), (.long x1_3), (.long x1_4)])  :
    Met l Z (⟨"org/subveil/Secp256r1FieldMultiplySmallPinLaw", "normalized", "([J)Z"⟩ : MethodName) method_3_code 3 (some .boolean) [] ({ frames := 0, cells := 0, slots := 0, locals := 0 } : Room) #[(.ref x1)] h0 n0 (RetI (fun z h => z = f_nmz  x1_0 x1_1 x1_2 x1_3 x1_4 ∧ h0 = h)) := by
  refine Met.intro pn5 (own := "org/subveil/Secp256r1FieldMultiplySmallPinLaw") rfl (nm := "normalized") rfl (fun m => ef5 m x1) ?_
  intro p e s m below meth c C
  refine s_ldc2 C d5_0 (pc' := 3) rfl (w29 hw) ?_
  refine s_lstoreNP C d5_3 (pc' := 4) rfl #[.val (.ref x1), .val (.long (4503599627370496 : Int64)), .second] rfl ?_
  refine s_aloadN C d5_4 (pc' := 5) rfl rfl rfl ?_
  refine s_iconst C d5_5 (pc' := 6) rfl (0 : Int32) rfl ?_
  refine s_laload C d5_6 (pc' := 7) rfl V_x1 0 (by decide) rfl ?_
  refine s_lconst C d5_7 (pc' := 8) rfl (0 : Int64) rfl ?_
  refine s_lc_lt C d5_8 (pc1 := 9) rfl d5_9 (pc' := 12) rfl (pcY := 90) rfl (fun c1 => ?_) (fun c1 => ?_)
  · skip
    refine s_iconst C d5_90 (pc' := 91) rfl (0 : Int32) rfl ?_
    exact s_retN C (by simp) d5_91 (by decide) (by decide) (by have e : f_nmz  x1_0 x1_1 x1_2 x1_3 x1_4 = (0 : Int32) := (by unfold f_nmz; rw [if_pos c1]); exact ⟨e.symm, rfl⟩)
  · skip
    refine s_aloadN C d5_12 (pc' := 13) rfl rfl rfl ?_
    refine s_iconst C d5_13 (pc' := 14) rfl (0 : Int32) rfl ?_
    refine s_laload C d5_14 (pc' := 15) rfl V_x1 0 (by decide) rfl ?_
    refine s_lloadN C d5_15 (pc' := 16) rfl rfl ?_
    refine s_lc_ge C d5_16 (pc1 := 17) rfl d5_17 (pc' := 20) rfl (pcY := 90) rfl (fun c2 => ?_) (fun c2 => ?_)
    · skip
      refine s_iconst C d5_90 (pc' := 91) rfl (0 : Int32) rfl ?_
      exact s_retN C (by simp) d5_91 (by decide) (by decide) (by have e : f_nmz  x1_0 x1_1 x1_2 x1_3 x1_4 = (0 : Int32) := (by unfold f_nmz; rw [if_neg c1, if_neg c2]); exact ⟨e.symm, rfl⟩)
    · skip
      refine s_aloadN C d5_20 (pc' := 21) rfl rfl rfl ?_
      refine s_iconst C d5_21 (pc' := 22) rfl (1 : Int32) rfl ?_
      refine s_laload C d5_22 (pc' := 23) rfl V_x1 1 (by decide) rfl ?_
      refine s_lconst C d5_23 (pc' := 24) rfl (0 : Int64) rfl ?_
      refine s_lc_lt C d5_24 (pc1 := 25) rfl d5_25 (pc' := 28) rfl (pcY := 90) rfl (fun c3 => ?_) (fun c3 => ?_)
      · skip
        refine s_iconst C d5_90 (pc' := 91) rfl (0 : Int32) rfl ?_
        exact s_retN C (by simp) d5_91 (by decide) (by decide) (by have e : f_nmz  x1_0 x1_1 x1_2 x1_3 x1_4 = (0 : Int32) := (by unfold f_nmz; rw [if_neg c1, if_pos c2, if_pos c3]); exact ⟨e.symm, rfl⟩)
      · skip
        refine s_aloadN C d5_28 (pc' := 29) rfl rfl rfl ?_
        refine s_iconst C d5_29 (pc' := 30) rfl (1 : Int32) rfl ?_
        refine s_laload C d5_30 (pc' := 31) rfl V_x1 1 (by decide) rfl ?_
        refine s_lloadN C d5_31 (pc' := 32) rfl rfl ?_
        refine s_lc_ge C d5_32 (pc1 := 33) rfl d5_33 (pc' := 36) rfl (pcY := 90) rfl (fun c4 => ?_) (fun c4 => ?_)
        · skip
          refine s_iconst C d5_90 (pc' := 91) rfl (0 : Int32) rfl ?_
          exact s_retN C (by simp) d5_91 (by decide) (by decide) (by have e : f_nmz  x1_0 x1_1 x1_2 x1_3 x1_4 = (0 : Int32) := (by unfold f_nmz; rw [if_neg c1, if_pos c2, if_neg c3, if_neg c4]); exact ⟨e.symm, rfl⟩)
        · skip
          refine s_aloadN C d5_36 (pc' := 37) rfl rfl rfl ?_
          refine s_iconst C d5_37 (pc' := 38) rfl (2 : Int32) rfl ?_
          refine s_laload C d5_38 (pc' := 39) rfl V_x1 2 (by decide) rfl ?_
          refine s_lconst C d5_39 (pc' := 40) rfl (0 : Int64) rfl ?_
          refine s_lc_lt C d5_40 (pc1 := 41) rfl d5_41 (pc' := 44) rfl (pcY := 90) rfl (fun c5 => ?_) (fun c5 => ?_)
          · skip
            refine s_iconst C d5_90 (pc' := 91) rfl (0 : Int32) rfl ?_
            exact s_retN C (by simp) d5_91 (by decide) (by decide) (by have e : f_nmz  x1_0 x1_1 x1_2 x1_3 x1_4 = (0 : Int32) := (by unfold f_nmz; rw [if_neg c1, if_pos c2, if_neg c3, if_pos c4, if_pos c5]); exact ⟨e.symm, rfl⟩)
          · skip
            refine s_aloadN C d5_44 (pc' := 45) rfl rfl rfl ?_
            refine s_iconst C d5_45 (pc' := 46) rfl (2 : Int32) rfl ?_
            refine s_laload C d5_46 (pc' := 47) rfl V_x1 2 (by decide) rfl ?_
            refine s_lloadN C d5_47 (pc' := 48) rfl rfl ?_
            refine s_lc_ge C d5_48 (pc1 := 49) rfl d5_49 (pc' := 52) rfl (pcY := 90) rfl (fun c6 => ?_) (fun c6 => ?_)
            · skip
              refine s_iconst C d5_90 (pc' := 91) rfl (0 : Int32) rfl ?_
              exact s_retN C (by simp) d5_91 (by decide) (by decide) (by have e : f_nmz  x1_0 x1_1 x1_2 x1_3 x1_4 = (0 : Int32) := (by unfold f_nmz; rw [if_neg c1, if_pos c2, if_neg c3, if_pos c4, if_neg c5, if_neg c6]); exact ⟨e.symm, rfl⟩)
            · skip
              refine s_aloadN C d5_52 (pc' := 53) rfl rfl rfl ?_
              refine s_iconst C d5_53 (pc' := 54) rfl (3 : Int32) rfl ?_
              refine s_laload C d5_54 (pc' := 55) rfl V_x1 3 (by decide) rfl ?_
              refine s_lconst C d5_55 (pc' := 56) rfl (0 : Int64) rfl ?_
              refine s_lc_lt C d5_56 (pc1 := 57) rfl d5_57 (pc' := 60) rfl (pcY := 90) rfl (fun c7 => ?_) (fun c7 => ?_)
              · skip
                refine s_iconst C d5_90 (pc' := 91) rfl (0 : Int32) rfl ?_
                exact s_retN C (by simp) d5_91 (by decide) (by decide) (by have e : f_nmz  x1_0 x1_1 x1_2 x1_3 x1_4 = (0 : Int32) := (by unfold f_nmz; rw [if_neg c1, if_pos c2, if_neg c3, if_pos c4, if_neg c5, if_pos c6, if_pos c7]); exact ⟨e.symm, rfl⟩)
              · skip
                refine s_aloadN C d5_60 (pc' := 61) rfl rfl rfl ?_
                refine s_iconst C d5_61 (pc' := 62) rfl (3 : Int32) rfl ?_
                refine s_laload C d5_62 (pc' := 63) rfl V_x1 3 (by decide) rfl ?_
                refine s_lloadN C d5_63 (pc' := 64) rfl rfl ?_
                refine s_lc_ge C d5_64 (pc1 := 65) rfl d5_65 (pc' := 68) rfl (pcY := 90) rfl (fun c8 => ?_) (fun c8 => ?_)
                · skip
                  refine s_iconst C d5_90 (pc' := 91) rfl (0 : Int32) rfl ?_
                  exact s_retN C (by simp) d5_91 (by decide) (by decide) (by have e : f_nmz  x1_0 x1_1 x1_2 x1_3 x1_4 = (0 : Int32) := (by unfold f_nmz; rw [if_neg c1, if_pos c2, if_neg c3, if_pos c4, if_neg c5, if_pos c6, if_neg c7, if_neg c8]); exact ⟨e.symm, rfl⟩)
                · skip
                  refine s_aloadN C d5_68 (pc' := 69) rfl rfl rfl ?_
                  refine s_iconst C d5_69 (pc' := 70) rfl (4 : Int32) rfl ?_
                  refine s_laload C d5_70 (pc' := 71) rfl V_x1 4 (by decide) rfl ?_
                  refine s_lconst C d5_71 (pc' := 72) rfl (0 : Int64) rfl ?_
                  refine s_lc_lt C d5_72 (pc1 := 73) rfl d5_73 (pc' := 76) rfl (pcY := 90) rfl (fun c9 => ?_) (fun c9 => ?_)
                  · skip
                    refine s_iconst C d5_90 (pc' := 91) rfl (0 : Int32) rfl ?_
                    exact s_retN C (by simp) d5_91 (by decide) (by decide) (by have e : f_nmz  x1_0 x1_1 x1_2 x1_3 x1_4 = (0 : Int32) := (by unfold f_nmz; rw [if_neg c1, if_pos c2, if_neg c3, if_pos c4, if_neg c5, if_pos c6, if_neg c7, if_pos c8, if_pos c9]); exact ⟨e.symm, rfl⟩)
                  · skip
                    refine s_aloadN C d5_76 (pc' := 77) rfl rfl rfl ?_
                    refine s_iconst C d5_77 (pc' := 78) rfl (4 : Int32) rfl ?_
                    refine s_laload C d5_78 (pc' := 79) rfl V_x1 4 (by decide) rfl ?_
                    refine s_ldc2 C d5_79 (pc' := 82) rfl (w30 hw) ?_
                    refine s_lc_ge C d5_82 (pc1 := 83) rfl d5_83 (pc' := 86) rfl (pcY := 90) rfl (fun c10 => ?_) (fun c10 => ?_)
                    · skip
                      refine s_iconst C d5_90 (pc' := 91) rfl (0 : Int32) rfl ?_
                      exact s_retN C (by simp) d5_91 (by decide) (by decide) (by have e : f_nmz  x1_0 x1_1 x1_2 x1_3 x1_4 = (0 : Int32) := (by unfold f_nmz; rw [if_neg c1, if_pos c2, if_neg c3, if_pos c4, if_neg c5, if_pos c6, if_neg c7, if_pos c8, if_neg c9, if_neg c10]); exact ⟨e.symm, rfl⟩)
                    · skip
                      refine s_iconst C d5_86 (pc' := 87) rfl (1 : Int32) rfl ?_
                      refine s_goto C d5_87 (pc' := 91) rfl ?_
                      exact s_retN C (by simp) d5_91 (by decide) (by decide) (by have e : f_nmz  x1_0 x1_1 x1_2 x1_3 x1_4 = (1 : Int32) := (by unfold f_nmz; rw [if_neg c1, if_pos c2, if_neg c3, if_pos c4, if_neg c5, if_pos c6, if_neg c7, if_pos c8, if_neg c9, if_pos c10]); exact ⟨e.symm, rfl⟩)

theorem own_TWO : Nrm (4503599627370494 : Int64) (35184372088831 : Int64) (0 : Int64) (137438953472 : Int64) (562949953290240 : Int64) 231584178420712497525394893898815147060172286830580628391067262617734195707902 := by unfold Nrm; decide
theorem own_PL : Nrm (4503599627370495 : Int64) (17592186044415 : Int64) (0 : Int64) (68719476736 : Int64) (281474976645120 : Int64) 115792089210356248762697446949407573530086143415290314195533631308867097853951 := by unfold Nrm; decide
theorem own_blw {a b c d e : Int64} {v : Int} (h : Nrm a b c d e v) : (v < 231584178420712497525394893898815147060172286830580628391067262617734195707902 → f_blw a b c d e = 1) ∧ (f_blw a b c d e = 1 ∨ f_blw a b c d e = 0) ∧ (f_blw a b c d e ≠ 0 → v < 231584178420712497525394893898815147060172286830580628391067262617734195707902) := by
  obtain ⟨⟨p0, q0⟩, ⟨p1, q1⟩, ⟨p2, q2⟩, ⟨p3, q3⟩, p4, hv⟩ := h
  unfold f_blw
  simp only [Int64.lt_iff_toInt_lt, ← Int64.toInt_inj]
  have k0 : (4503599627370494 : Int64).toInt = 4503599627370494 := by decide
  have k1 : (35184372088831 : Int64).toInt = 35184372088831 := by decide
  have k2 : (0 : Int64).toInt = 0 := by decide
  have k3 : (137438953472 : Int64).toInt = 137438953472 := by decide
  have k4 : (562949953290240 : Int64).toInt = 562949953290240 := by decide
  rw [k0, k1, k2, k3, k4]
  refine ⟨fun l => ?_, ?_, ?_⟩
  · (repeat' split) <;> first | rfl | (exfalso; omega)
  · (repeat' split) <;> first | exact Or.inl rfl | exact Or.inr rfl
  · (repeat' split) <;> intro n <;> first | exact absurd rfl n | omega
theorem own_nmz {a b c d e : Int64} {v : Int} (h : Nrm a b c d e v) (l : v < 231584178420712497525394893898815147060172286830580628391067262617734195707902) : f_nmz a b c d e = 1 := by
  obtain ⟨⟨p0, q0⟩, ⟨p1, q1⟩, ⟨p2, q2⟩, ⟨p3, q3⟩, p4, hv⟩ := h
  unfold f_nmz
  simp only [Int64.lt_iff_toInt_lt, ← Int64.toInt_inj]
  have k0 : (0 : Int64).toInt = 0 := by decide
  have k1 : (4503599627370496 : Int64).toInt = 4503599627370496 := by decide
  have k2 : (562949953421312 : Int64).toInt = 562949953421312 := by decide
  rw [k0, k1, k2]
  (repeat' split) <;> first | rfl | (exfalso; omega)

set_option maxRecDepth 65536 in
set_option maxHeartbeats 40000000 in
theorem c_sub (l : Launch) (Z : State) (a0 : Array Value) (hw : Hw a0 Z) (r md : Addr) (x0 x1 x2 x3 x4 r0 r1 r2 r3 r4 m0 m1 m2 m3 m4 : Int64) (vx vm : Int) (h0 : Heap) (n0 : Nat) (Z0 : n0 ≤ h0.size) (g_r : n0 ≤ r) (V_r : Av Z h0 r .long [(.long r0), (.long r1), (.long r2), (.long r3), (.long r4)]) (V_m : Av Z h0 md .long [(.long m0), (.long m1), (.long m2), (.long m3), (.long m4)]) (hx : Nrm x0 x1 x2 x3 x4 vx) (hm : Nrm m0 m1 m2 m3 m4 vm) (bx : x4.toInt < 2251799813685248) (bm : m4.toInt < 2251799813685248) :
    Met l Z (⟨"org/subveil/Secp256r1Field", "subtractIfAtLeast", "([J[JJJJJJ)V"⟩ : MethodName) prog_45_method_28_code 24 none [] ({ frames := 0, cells := 0, slots := 0, locals := 0 } : Room) #[(.ref r), (.ref md), (.long x0), (.long x1), (.long x2), (.long x3), (.long x4)] h0 n0 (Ret0 (fun h => Keep h0 h [r] ∧ ∃ (z0 z1 z2 z3 z4 : Int64) (v : Int), Av Z h r .long [.long z0, .long z1, .long z2, .long z3, .long z4] ∧ Nrm z0 z1 z2 z3 z4 v ∧ (vm ≤ vx ∧ v = vx - vm ∨ vx < vm ∧ v = vx))) := by
  refine Met.intro pn3 (own := "org/subveil/Secp256r1Field") rfl (nm := "subtractIfAtLeast") rfl (fun m => ef3 m r md x0 x1 x2 x3 x4) ?_
  intro p e s m below meth c C
  refine s_lloadN C d3_0 (pc' := 1) rfl rfl ?_
  refine s_aloadN C d3_1 (pc' := 2) rfl rfl rfl ?_
  refine s_iconst C d3_2 (pc' := 3) rfl (0 : Int32) rfl ?_
  refine s_laload C d3_3 (pc' := 4) rfl V_m 0 (by decide) rfl ?_
  refine s_lsub C d3_4 (pc' := 5) rfl ?_
  refine s_lstore C d3_5 (pc' := 7) rfl (fun y => #[.val (.ref r), .val (.ref md), .val (.long x0), .second, .val (.long x1), .second, .val (.long x2), .second, .val (.long x3), .second, .val (.long x4), .second, .val (.long y), .second, .unset, .unset, .unset, .unset, .unset, .unset, .unset, .unset, .unset, .unset]) (fun _ => rfl) (fun v1 hv1 => ?_)
  refine s_lload C d3_7 (pc' := 9) rfl rfl ?_
  refine s_aloadN C d3_9 (pc' := 10) rfl rfl rfl ?_
  refine s_iconst C d3_10 (pc' := 11) rfl (1 : Int32) rfl ?_
  refine s_laload C d3_11 (pc' := 12) rfl V_m 1 (by decide) rfl ?_
  refine s_lsub C d3_12 (pc' := 13) rfl ?_
  refine s_lload C d3_13 (pc' := 15) rfl rfl ?_
  refine s_bipush C d3_15 (pc' := 17) rfl (52 : Int32) rfl ?_
  refine s_lshr C d3_17 (pc' := 18) rfl ?_
  refine s_ladd C d3_18 (pc' := 19) rfl ?_
  refine s_lstore C d3_19 (pc' := 21) rfl (fun y => #[.val (.ref r), .val (.ref md), .val (.long x0), .second, .val (.long x1), .second, .val (.long x2), .second, .val (.long x3), .second, .val (.long x4), .second, .val (.long v1), .second, .val (.long y), .second, .unset, .unset, .unset, .unset, .unset, .unset, .unset, .unset]) (fun _ => rfl) (fun v2 hv2 => ?_)
  refine s_lload C d3_21 (pc' := 23) rfl rfl ?_
  refine s_aloadN C d3_23 (pc' := 24) rfl rfl rfl ?_
  refine s_iconst C d3_24 (pc' := 25) rfl (2 : Int32) rfl ?_
  refine s_laload C d3_25 (pc' := 26) rfl V_m 2 (by decide) rfl ?_
  refine s_lsub C d3_26 (pc' := 27) rfl ?_
  refine s_lload C d3_27 (pc' := 29) rfl rfl ?_
  refine s_bipush C d3_29 (pc' := 31) rfl (52 : Int32) rfl ?_
  refine s_lshr C d3_31 (pc' := 32) rfl ?_
  refine s_ladd C d3_32 (pc' := 33) rfl ?_
  refine s_lstore C d3_33 (pc' := 35) rfl (fun y => #[.val (.ref r), .val (.ref md), .val (.long x0), .second, .val (.long x1), .second, .val (.long x2), .second, .val (.long x3), .second, .val (.long x4), .second, .val (.long v1), .second, .val (.long v2), .second, .val (.long y), .second, .unset, .unset, .unset, .unset, .unset, .unset]) (fun _ => rfl) (fun v3 hv3 => ?_)
  refine s_lload C d3_35 (pc' := 37) rfl rfl ?_
  refine s_aloadN C d3_37 (pc' := 38) rfl rfl rfl ?_
  refine s_iconst C d3_38 (pc' := 39) rfl (3 : Int32) rfl ?_
  refine s_laload C d3_39 (pc' := 40) rfl V_m 3 (by decide) rfl ?_
  refine s_lsub C d3_40 (pc' := 41) rfl ?_
  refine s_lload C d3_41 (pc' := 43) rfl rfl ?_
  refine s_bipush C d3_43 (pc' := 45) rfl (52 : Int32) rfl ?_
  refine s_lshr C d3_45 (pc' := 46) rfl ?_
  refine s_ladd C d3_46 (pc' := 47) rfl ?_
  refine s_lstore C d3_47 (pc' := 49) rfl (fun y => #[.val (.ref r), .val (.ref md), .val (.long x0), .second, .val (.long x1), .second, .val (.long x2), .second, .val (.long x3), .second, .val (.long x4), .second, .val (.long v1), .second, .val (.long v2), .second, .val (.long v3), .second, .val (.long y), .second, .unset, .unset, .unset, .unset]) (fun _ => rfl) (fun v4 hv4 => ?_)
  refine s_lload C d3_49 (pc' := 51) rfl rfl ?_
  refine s_aloadN C d3_51 (pc' := 52) rfl rfl rfl ?_
  refine s_iconst C d3_52 (pc' := 53) rfl (4 : Int32) rfl ?_
  refine s_laload C d3_53 (pc' := 54) rfl V_m 4 (by decide) rfl ?_
  refine s_lsub C d3_54 (pc' := 55) rfl ?_
  refine s_lload C d3_55 (pc' := 57) rfl rfl ?_
  refine s_bipush C d3_57 (pc' := 59) rfl (52 : Int32) rfl ?_
  refine s_lshr C d3_59 (pc' := 60) rfl ?_
  refine s_ladd C d3_60 (pc' := 61) rfl ?_
  refine s_lstore C d3_61 (pc' := 63) rfl (fun y => #[.val (.ref r), .val (.ref md), .val (.long x0), .second, .val (.long x1), .second, .val (.long x2), .second, .val (.long x3), .second, .val (.long x4), .second, .val (.long v1), .second, .val (.long v2), .second, .val (.long v3), .second, .val (.long v4), .second, .val (.long y), .second, .unset, .unset]) (fun _ => rfl) (fun v5 hv5 => ?_)
  refine s_lload C d3_63 (pc' := 65) rfl rfl ?_
  refine s_bipush C d3_65 (pc' := 67) rfl (63 : Int32) rfl ?_
  refine s_lshr C d3_67 (pc' := 68) rfl ?_
  refine s_lstore C d3_68 (pc' := 70) rfl (fun y => #[.val (.ref r), .val (.ref md), .val (.long x0), .second, .val (.long x1), .second, .val (.long x2), .second, .val (.long x3), .second, .val (.long x4), .second, .val (.long v1), .second, .val (.long v2), .second, .val (.long v3), .second, .val (.long v4), .second, .val (.long v5), .second, .val (.long y), .second]) (fun _ => rfl) (fun v6 hv6 => ?_)
  refine s_aloadN C d3_70 (pc' := 71) rfl rfl rfl ?_
  refine s_iconst C d3_71 (pc' := 72) rfl (0 : Int32) rfl ?_
  refine s_lloadN C d3_72 (pc' := 73) rfl rfl ?_
  refine s_lload C d3_73 (pc' := 75) rfl rfl ?_
  refine s_land C d3_75 (pc' := 76) rfl ?_
  refine s_lload C d3_76 (pc' := 78) rfl rfl ?_
  refine s_ldc2 C d3_78 (pc' := 81) rfl (w17 hw) ?_
  refine s_land C d3_81 (pc' := 82) rfl ?_
  refine s_lload C d3_82 (pc' := 84) rfl rfl ?_
  refine s_ldc2 C d3_84 (pc' := 87) rfl (w21 hw) ?_
  refine s_lxor C d3_87 (pc' := 88) rfl ?_
  refine s_land C d3_88 (pc' := 89) rfl ?_
  refine s_lor C d3_89 (pc' := 90) rfl ?_
  refine s_lastore C d3_90 (pc' := 91) rfl V_r 0 (by decide) (Nat.le_of_ble_eq_true rfl) g_r [(.long ((x0 &&& v6) ||| ((v1 &&& (4503599627370495 : Int64)) &&& (v6 ^^^ (-1 : Int64))))), (.long r1), (.long r2), (.long r3), (.long r4)] rfl (fun h7 W7 A7 => ?_)
  have sz8 : n0 ≤ h7.size := (Nat.le_trans Z0 (Nat.le_of_eq W7.size.symm))
  have Kp9 : Keep h0 h7 [r] := (Keep.refl h0 [r]).wr W7 (Or.inl (List.mem_of_getElem? (i := 0) rfl))
  refine s_aloadN C d3_91 (pc' := 92) rfl rfl rfl ?_
  refine s_iconst C d3_92 (pc' := 93) rfl (1 : Int32) rfl ?_
  refine s_lload C d3_93 (pc' := 95) rfl rfl ?_
  refine s_lload C d3_95 (pc' := 97) rfl rfl ?_
  refine s_land C d3_97 (pc' := 98) rfl ?_
  refine s_lload C d3_98 (pc' := 100) rfl rfl ?_
  refine s_ldc2 C d3_100 (pc' := 103) rfl (w17 hw) ?_
  refine s_land C d3_103 (pc' := 104) rfl ?_
  refine s_lload C d3_104 (pc' := 106) rfl rfl ?_
  refine s_ldc2 C d3_106 (pc' := 109) rfl (w21 hw) ?_
  refine s_lxor C d3_109 (pc' := 110) rfl ?_
  refine s_land C d3_110 (pc' := 111) rfl ?_
  refine s_lor C d3_111 (pc' := 112) rfl ?_
  refine s_lastore C d3_112 (pc' := 113) rfl A7 1 (by decide) (Nat.le_of_ble_eq_true rfl) g_r [(.long ((x0 &&& v6) ||| ((v1 &&& (4503599627370495 : Int64)) &&& (v6 ^^^ (-1 : Int64))))), (.long ((x1 &&& v6) ||| ((v2 &&& (4503599627370495 : Int64)) &&& (v6 ^^^ (-1 : Int64))))), (.long r2), (.long r3), (.long r4)] rfl (fun h10 W10 A10 => ?_)
  have sz11 : n0 ≤ h10.size := (Nat.le_trans sz8 (Nat.le_of_eq W10.size.symm))
  have Kp12 : Keep h0 h10 [r] := Kp9.wr W10 (Or.inl (List.mem_of_getElem? (i := 0) rfl))
  refine s_aloadN C d3_113 (pc' := 114) rfl rfl rfl ?_
  refine s_iconst C d3_114 (pc' := 115) rfl (2 : Int32) rfl ?_
  refine s_lload C d3_115 (pc' := 117) rfl rfl ?_
  refine s_lload C d3_117 (pc' := 119) rfl rfl ?_
  refine s_land C d3_119 (pc' := 120) rfl ?_
  refine s_lload C d3_120 (pc' := 122) rfl rfl ?_
  refine s_ldc2 C d3_122 (pc' := 125) rfl (w17 hw) ?_
  refine s_land C d3_125 (pc' := 126) rfl ?_
  refine s_lload C d3_126 (pc' := 128) rfl rfl ?_
  refine s_ldc2 C d3_128 (pc' := 131) rfl (w21 hw) ?_
  refine s_lxor C d3_131 (pc' := 132) rfl ?_
  refine s_land C d3_132 (pc' := 133) rfl ?_
  refine s_lor C d3_133 (pc' := 134) rfl ?_
  refine s_lastore C d3_134 (pc' := 135) rfl A10 2 (by decide) (Nat.le_of_ble_eq_true rfl) g_r [(.long ((x0 &&& v6) ||| ((v1 &&& (4503599627370495 : Int64)) &&& (v6 ^^^ (-1 : Int64))))), (.long ((x1 &&& v6) ||| ((v2 &&& (4503599627370495 : Int64)) &&& (v6 ^^^ (-1 : Int64))))), (.long ((x2 &&& v6) ||| ((v3 &&& (4503599627370495 : Int64)) &&& (v6 ^^^ (-1 : Int64))))), (.long r3), (.long r4)] rfl (fun h13 W13 A13 => ?_)
  have sz14 : n0 ≤ h13.size := (Nat.le_trans sz11 (Nat.le_of_eq W13.size.symm))
  have Kp15 : Keep h0 h13 [r] := Kp12.wr W13 (Or.inl (List.mem_of_getElem? (i := 0) rfl))
  refine s_aloadN C d3_135 (pc' := 136) rfl rfl rfl ?_
  refine s_iconst C d3_136 (pc' := 137) rfl (3 : Int32) rfl ?_
  refine s_lload C d3_137 (pc' := 139) rfl rfl ?_
  refine s_lload C d3_139 (pc' := 141) rfl rfl ?_
  refine s_land C d3_141 (pc' := 142) rfl ?_
  refine s_lload C d3_142 (pc' := 144) rfl rfl ?_
  refine s_ldc2 C d3_144 (pc' := 147) rfl (w17 hw) ?_
  refine s_land C d3_147 (pc' := 148) rfl ?_
  refine s_lload C d3_148 (pc' := 150) rfl rfl ?_
  refine s_ldc2 C d3_150 (pc' := 153) rfl (w21 hw) ?_
  refine s_lxor C d3_153 (pc' := 154) rfl ?_
  refine s_land C d3_154 (pc' := 155) rfl ?_
  refine s_lor C d3_155 (pc' := 156) rfl ?_
  refine s_lastore C d3_156 (pc' := 157) rfl A13 3 (by decide) (Nat.le_of_ble_eq_true rfl) g_r [(.long ((x0 &&& v6) ||| ((v1 &&& (4503599627370495 : Int64)) &&& (v6 ^^^ (-1 : Int64))))), (.long ((x1 &&& v6) ||| ((v2 &&& (4503599627370495 : Int64)) &&& (v6 ^^^ (-1 : Int64))))), (.long ((x2 &&& v6) ||| ((v3 &&& (4503599627370495 : Int64)) &&& (v6 ^^^ (-1 : Int64))))), (.long ((x3 &&& v6) ||| ((v4 &&& (4503599627370495 : Int64)) &&& (v6 ^^^ (-1 : Int64))))), (.long r4)] rfl (fun h16 W16 A16 => ?_)
  have sz17 : n0 ≤ h16.size := (Nat.le_trans sz14 (Nat.le_of_eq W16.size.symm))
  have Kp18 : Keep h0 h16 [r] := Kp15.wr W16 (Or.inl (List.mem_of_getElem? (i := 0) rfl))
  refine s_aloadN C d3_157 (pc' := 158) rfl rfl rfl ?_
  refine s_iconst C d3_158 (pc' := 159) rfl (4 : Int32) rfl ?_
  refine s_lload C d3_159 (pc' := 161) rfl rfl ?_
  refine s_lload C d3_161 (pc' := 163) rfl rfl ?_
  refine s_land C d3_163 (pc' := 164) rfl ?_
  refine s_lload C d3_164 (pc' := 166) rfl rfl ?_
  refine s_lload C d3_166 (pc' := 168) rfl rfl ?_
  refine s_ldc2 C d3_168 (pc' := 171) rfl (w21 hw) ?_
  refine s_lxor C d3_171 (pc' := 172) rfl ?_
  refine s_land C d3_172 (pc' := 173) rfl ?_
  refine s_lor C d3_173 (pc' := 174) rfl ?_
  refine s_lastore C d3_174 (pc' := 175) rfl A16 4 (by decide) (Nat.le_of_ble_eq_true rfl) g_r [(.long ((x0 &&& v6) ||| ((v1 &&& (4503599627370495 : Int64)) &&& (v6 ^^^ (-1 : Int64))))), (.long ((x1 &&& v6) ||| ((v2 &&& (4503599627370495 : Int64)) &&& (v6 ^^^ (-1 : Int64))))), (.long ((x2 &&& v6) ||| ((v3 &&& (4503599627370495 : Int64)) &&& (v6 ^^^ (-1 : Int64))))), (.long ((x3 &&& v6) ||| ((v4 &&& (4503599627370495 : Int64)) &&& (v6 ^^^ (-1 : Int64))))), (.long ((x4 &&& v6) ||| (v5 &&& (v6 ^^^ (-1 : Int64)))))] rfl (fun h19 W19 A19 => ?_)
  have sz20 : n0 ≤ h19.size := (Nat.le_trans sz17 (Nat.le_of_eq W19.size.symm))
  have Kp21 : Keep h0 h19 [r] := Kp18.wr W19 (Or.inl (List.mem_of_getElem? (i := 0) rfl))
  obtain ⟨vv, nn, cc⟩ := own_sub hx hm bx bm hv1 hv2 hv3 hv4 hv5 hv6
  exact s_ret0 C d3_175 (by decide) (by decide) ⟨Kp21, _, _, _, _, _, _, A19, nn, cc⟩
set_option maxRecDepth 65536 in
set_option maxHeartbeats 40000000 in
theorem c_add (l : Launch) (Z : State) (a0 : Array Value) (hw : Hw a0 Z) (t p_ r a b : Addr) (r0 r1 r2 r3 r4 ua0 ua1 ua2 ua3 ua4 ub0 ub1 ub2 ub3 ub4 : Int64) (va vb : Int) (h0 : Heap) (n0 : Nat) (Z0 : n0 ≤ h0.size) (O0 : Old Z n0 h0) (S_t : Sta Z Z.heap "org/subveil/Secp256r1Field" "TWO_P" "[J" (.ref t)) (S_p : Sta Z Z.heap "org/subveil/Secp256r1Field" "P_LIMBS" "[J" (.ref p_)) (V_t : Av Z h0 t .long [(.long (4503599627370494 : Int64)), (.long (35184372088831 : Int64)), (.long (0 : Int64)), (.long (137438953472 : Int64)), (.long (562949953290240 : Int64))]) (V_p : Av Z h0 p_ .long [(.long (4503599627370495 : Int64)), (.long (17592186044415 : Int64)), (.long (0 : Int64)), (.long (68719476736 : Int64)), (.long (281474976645120 : Int64))]) (g_r : n0 ≤ r) (V_r : Av Z h0 r .long [(.long r0), (.long r1), (.long r2), (.long r3), (.long r4)]) (V_a : Av Z h0 a .long [(.long ua0), (.long ua1), (.long ua2), (.long ua3), (.long ua4)]) (V_b : Av Z h0 b .long [(.long ub0), (.long ub1), (.long ub2), (.long ub3), (.long ub4)]) (ha : Nrm ua0 ua1 ua2 ua3 ua4 va) (hb : Nrm ub0 ub1 ub2 ub3 ub4 vb) (la : va < 231584178420712497525394893898815147060172286830580628391067262617734195707902) (lb : vb < 231584178420712497525394893898815147060172286830580628391067262617734195707902) :
    Met l Z (⟨"org/subveil/Secp256r1Field", "add", "([J[J[J)V"⟩ : MethodName) prog_45_method_9_code 13 none [] ({ frames := 1, cells := 0, slots := 0, locals := 60 } : Room) #[(.ref r), (.ref a), (.ref b)] h0 n0 (Ret0 (fun h => Keep h0 h [r] ∧ ∃ (z0 z1 z2 z3 z4 : Int64) (v : Int), Av Z h r .long [.long z0, .long z1, .long z2, .long z3, .long z4] ∧ Nrm z0 z1 z2 z3 z4 v ∧ v < 231584178420712497525394893898815147060172286830580628391067262617734195707902 ∧ ∃ j : Int, v = (va + vb) - j * 231584178420712497525394893898815147060172286830580628391067262617734195707902)) := by
  refine Met.intro pn2 (own := "org/subveil/Secp256r1Field") rfl (nm := "add") rfl (fun m => ef2 m r a b) ?_
  intro p e s m below meth c C
  refine s_aloadN C d2_0 (pc' := 1) rfl rfl rfl ?_
  refine s_iconst C d2_1 (pc' := 2) rfl (0 : Int32) rfl ?_
  refine s_laload C d2_2 (pc' := 3) rfl V_a 0 (by decide) rfl ?_
  refine s_aloadN C d2_3 (pc' := 4) rfl rfl rfl ?_
  refine s_iconst C d2_4 (pc' := 5) rfl (0 : Int32) rfl ?_
  refine s_laload C d2_5 (pc' := 6) rfl V_b 0 (by decide) rfl ?_
  refine s_ladd C d2_6 (pc' := 7) rfl ?_
  refine s_lstoreN C d2_7 (pc' := 8) rfl (fun y => #[.val (.ref r), .val (.ref a), .val (.ref b), .val (.long y), .second, .unset, .unset, .unset, .unset, .unset, .unset, .unset, .unset]) (fun _ => rfl) (fun v1 hv1 => ?_)
  refine s_aloadN C d2_8 (pc' := 9) rfl rfl rfl ?_
  refine s_iconst C d2_9 (pc' := 10) rfl (1 : Int32) rfl ?_
  refine s_laload C d2_10 (pc' := 11) rfl V_a 1 (by decide) rfl ?_
  refine s_aloadN C d2_11 (pc' := 12) rfl rfl rfl ?_
  refine s_iconst C d2_12 (pc' := 13) rfl (1 : Int32) rfl ?_
  refine s_laload C d2_13 (pc' := 14) rfl V_b 1 (by decide) rfl ?_
  refine s_ladd C d2_14 (pc' := 15) rfl ?_
  refine s_lloadN C d2_15 (pc' := 16) rfl rfl ?_
  refine s_bipush C d2_16 (pc' := 18) rfl (52 : Int32) rfl ?_
  refine s_lushr C d2_18 (pc' := 19) rfl ?_
  refine s_ladd C d2_19 (pc' := 20) rfl ?_
  refine s_lstore C d2_20 (pc' := 22) rfl (fun y => #[.val (.ref r), .val (.ref a), .val (.ref b), .val (.long v1), .second, .val (.long y), .second, .unset, .unset, .unset, .unset, .unset, .unset]) (fun _ => rfl) (fun v2 hv2 => ?_)
  refine s_aloadN C d2_22 (pc' := 23) rfl rfl rfl ?_
  refine s_iconst C d2_23 (pc' := 24) rfl (2 : Int32) rfl ?_
  refine s_laload C d2_24 (pc' := 25) rfl V_a 2 (by decide) rfl ?_
  refine s_aloadN C d2_25 (pc' := 26) rfl rfl rfl ?_
  refine s_iconst C d2_26 (pc' := 27) rfl (2 : Int32) rfl ?_
  refine s_laload C d2_27 (pc' := 28) rfl V_b 2 (by decide) rfl ?_
  refine s_ladd C d2_28 (pc' := 29) rfl ?_
  refine s_lload C d2_29 (pc' := 31) rfl rfl ?_
  refine s_bipush C d2_31 (pc' := 33) rfl (52 : Int32) rfl ?_
  refine s_lushr C d2_33 (pc' := 34) rfl ?_
  refine s_ladd C d2_34 (pc' := 35) rfl ?_
  refine s_lstore C d2_35 (pc' := 37) rfl (fun y => #[.val (.ref r), .val (.ref a), .val (.ref b), .val (.long v1), .second, .val (.long v2), .second, .val (.long y), .second, .unset, .unset, .unset, .unset]) (fun _ => rfl) (fun v3 hv3 => ?_)
  refine s_aloadN C d2_37 (pc' := 38) rfl rfl rfl ?_
  refine s_iconst C d2_38 (pc' := 39) rfl (3 : Int32) rfl ?_
  refine s_laload C d2_39 (pc' := 40) rfl V_a 3 (by decide) rfl ?_
  refine s_aloadN C d2_40 (pc' := 41) rfl rfl rfl ?_
  refine s_iconst C d2_41 (pc' := 42) rfl (3 : Int32) rfl ?_
  refine s_laload C d2_42 (pc' := 43) rfl V_b 3 (by decide) rfl ?_
  refine s_ladd C d2_43 (pc' := 44) rfl ?_
  refine s_lload C d2_44 (pc' := 46) rfl rfl ?_
  refine s_bipush C d2_46 (pc' := 48) rfl (52 : Int32) rfl ?_
  refine s_lushr C d2_48 (pc' := 49) rfl ?_
  refine s_ladd C d2_49 (pc' := 50) rfl ?_
  refine s_lstore C d2_50 (pc' := 52) rfl (fun y => #[.val (.ref r), .val (.ref a), .val (.ref b), .val (.long v1), .second, .val (.long v2), .second, .val (.long v3), .second, .val (.long y), .second, .unset, .unset]) (fun _ => rfl) (fun v4 hv4 => ?_)
  refine s_aloadN C d2_52 (pc' := 53) rfl rfl rfl ?_
  refine s_iconst C d2_53 (pc' := 54) rfl (4 : Int32) rfl ?_
  refine s_laload C d2_54 (pc' := 55) rfl V_a 4 (by decide) rfl ?_
  refine s_aloadN C d2_55 (pc' := 56) rfl rfl rfl ?_
  refine s_iconst C d2_56 (pc' := 57) rfl (4 : Int32) rfl ?_
  refine s_laload C d2_57 (pc' := 58) rfl V_b 4 (by decide) rfl ?_
  refine s_ladd C d2_58 (pc' := 59) rfl ?_
  refine s_lload C d2_59 (pc' := 61) rfl rfl ?_
  refine s_bipush C d2_61 (pc' := 63) rfl (52 : Int32) rfl ?_
  refine s_lushr C d2_63 (pc' := 64) rfl ?_
  refine s_ladd C d2_64 (pc' := 65) rfl ?_
  refine s_lstore C d2_65 (pc' := 67) rfl (fun y => #[.val (.ref r), .val (.ref a), .val (.ref b), .val (.long v1), .second, .val (.long v2), .second, .val (.long v3), .second, .val (.long v4), .second, .val (.long y), .second]) (fun _ => rfl) (fun v5 hv5 => ?_)
  refine s_aloadN C d2_67 (pc' := 68) rfl rfl rfl ?_
  refine s_getS C d2_68 (pc' := 71) rfl (w15 hw) (S_t.ext O0.2) ?_
  refine s_lloadN C d2_71 (pc' := 72) rfl rfl ?_
  refine s_ldc2 C d2_72 (pc' := 75) rfl (w17 hw) ?_
  refine s_land C d2_75 (pc' := 76) rfl ?_
  refine s_lload C d2_76 (pc' := 78) rfl rfl ?_
  refine s_ldc2 C d2_78 (pc' := 81) rfl (w17 hw) ?_
  refine s_land C d2_81 (pc' := 82) rfl ?_
  refine s_lload C d2_82 (pc' := 84) rfl rfl ?_
  refine s_ldc2 C d2_84 (pc' := 87) rfl (w17 hw) ?_
  refine s_land C d2_87 (pc' := 88) rfl ?_
  refine s_lload C d2_88 (pc' := 90) rfl rfl ?_
  refine s_ldc2 C d2_90 (pc' := 93) rfl (w17 hw) ?_
  refine s_land C d2_93 (pc' := 94) rfl ?_
  refine s_lload C d2_94 (pc' := 96) rfl rfl ?_
  have ad := own_add ha hb la lb hv1 hv2 hv3 hv4 hv5
  refine s_callS0 C d2_96 (pc' := 99) rfl (w18 hw) (w19 hw) (w13 hw) (w20 hw) (by decide) [(.ref r), (.ref t), (.long (v1 &&& (4503599627370495 : Int64))), (.long (v2 &&& (4503599627370495 : Int64))), (.long (v3 &&& (4503599627370495 : Int64))), (.long (v4 &&& (4503599627370495 : Int64))), (.long v5)] [] pd4 rfl rfl (c_sub l Z a0 hw r t (v1 &&& (4503599627370495 : Int64)) (v2 &&& (4503599627370495 : Int64)) (v3 &&& (4503599627370495 : Int64)) (v4 &&& (4503599627370495 : Int64)) v5 r0 r1 r2 r3 r4 (4503599627370494 : Int64) (35184372088831 : Int64) (0 : Int64) (137438953472 : Int64) (562949953290240 : Int64) (va + vb) 231584178420712497525394893898815147060172286830580628391067262617734195707902 h0 n0 Z0 g_r V_r V_t ad.1 own_TWO ad.2 (by decide)) rfl (W := 0) rfl (by decide) (by decide) (k' := 0) rfl (by decide) (n' := 0) rfl (by decide) (fun h6 q6 => ?_)
  obtain ⟨K6, z6_0, z6_1, z6_2, z6_3, z6_4, v6, V6, N6, C6⟩ := q6
  have sz7 : n0 ≤ h6.size := (Nat.le_trans Z0 K6.1)
  have Kp8 : Keep h0 h6 [r] := (Keep.refl h0 [r]).trans K6 (allS (Or.inl (List.mem_of_getElem? (i := 0) rfl)) all0)
  have Od9 : Old Z n0 h6 := O0.keep K6 (allS g_r all0)
  exact s_ret0 C d2_99 (by decide) (by decide) ⟨Kp8, z6_0, z6_1, z6_2, z6_3, z6_4, v6, V6, N6, own_red2 C6 (own_lt4 la lb)⟩
set_option maxRecDepth 65536 in
set_option maxHeartbeats 40000000 in
theorem c_ms1 (l : Launch) (Z : State) (a0 : Array Value) (hw : Hw a0 Z) (r a : Addr) (r0 r1 r2 r3 r4 ua0 ua1 ua2 ua3 ua4 : Int64) (va : Int) (h0 : Heap) (n0 : Nat) (Z0 : n0 ≤ h0.size) (g_r : n0 ≤ r) (V_r : Av Z h0 r .long [(.long r0), (.long r1), (.long r2), (.long r3), (.long r4)]) (V_a : Av Z h0 a .long [(.long ua0), (.long ua1), (.long ua2), (.long ua3), (.long ua4)]) (ha : Nrm ua0 ua1 ua2 ua3 ua4 va) (la : va < 231584178420712497525394893898815147060172286830580628391067262617734195707902) :
    Met l Z (⟨"org/subveil/Secp256r1Field", "multiplySmall", "([J[JI)V"⟩ : MethodName) prog_45_method_15_code 15 none [] ({ frames := 0, cells := 0, slots := 0, locals := 0 } : Room) #[(.ref r), (.ref a), (.int (1 : Int32))] h0 n0 (Ret0 (fun h => Keep h0 h [r] ∧ ∃ (z0 z1 z2 z3 z4 : Int64) (v : Int), Av Z h r .long [.long z0, .long z1, .long z2, .long z3, .long z4] ∧ Nrm z0 z1 z2 z3 z4 v ∧ v < 231584178420712497525394893898815147060172286830580628391067262617734195707902 ∧ ∃ n : Int, v = 1 * va - n * 115792089210356248762697446949407573530086143415290314195533631308867097853951)) := by
  refine Met.intro pn4 (own := "org/subveil/Secp256r1Field") rfl (nm := "multiplySmall") rfl (fun m => ef4 m r a (1 : Int32)) ?_
  intro p e s m below meth c C
  refine s_aloadN C d4_0 (pc' := 1) rfl rfl rfl ?_
  refine s_iconst C d4_1 (pc' := 2) rfl (0 : Int32) rfl ?_
  refine s_laload C d4_2 (pc' := 3) rfl V_a 0 (by decide) rfl ?_
  refine s_iloadN C d4_3 (pc' := 4) rfl rfl ?_
  refine s_i2l C d4_4 (pc' := 5) rfl ?_
  refine s_foldL C (y := (1 : Int64)) (by decide) ?_
  refine s_lmul C d4_5 (pc' := 6) rfl ?_
  refine s_lstoreN C d4_6 (pc' := 7) rfl (fun y => #[.val (.ref r), .val (.ref a), .val (.int (1 : Int32)), .val (.long y), .second, .unset, .unset, .unset, .unset, .unset, .unset, .unset, .unset, .unset, .unset]) (fun _ => rfl) (fun v1 hv1 => ?_)
  refine s_aloadN C d4_7 (pc' := 8) rfl rfl rfl ?_
  refine s_iconst C d4_8 (pc' := 9) rfl (1 : Int32) rfl ?_
  refine s_laload C d4_9 (pc' := 10) rfl V_a 1 (by decide) rfl ?_
  refine s_iloadN C d4_10 (pc' := 11) rfl rfl ?_
  refine s_i2l C d4_11 (pc' := 12) rfl ?_
  refine s_foldL C (y := (1 : Int64)) (by decide) ?_
  refine s_lmul C d4_12 (pc' := 13) rfl ?_
  refine s_lloadN C d4_13 (pc' := 14) rfl rfl ?_
  refine s_bipush C d4_14 (pc' := 16) rfl (52 : Int32) rfl ?_
  refine s_lshr C d4_16 (pc' := 17) rfl ?_
  refine s_ladd C d4_17 (pc' := 18) rfl ?_
  refine s_lstore C d4_18 (pc' := 20) rfl (fun y => #[.val (.ref r), .val (.ref a), .val (.int (1 : Int32)), .val (.long v1), .second, .val (.long y), .second, .unset, .unset, .unset, .unset, .unset, .unset, .unset, .unset]) (fun _ => rfl) (fun v2 hv2 => ?_)
  refine s_aloadN C d4_20 (pc' := 21) rfl rfl rfl ?_
  refine s_iconst C d4_21 (pc' := 22) rfl (2 : Int32) rfl ?_
  refine s_laload C d4_22 (pc' := 23) rfl V_a 2 (by decide) rfl ?_
  refine s_iloadN C d4_23 (pc' := 24) rfl rfl ?_
  refine s_i2l C d4_24 (pc' := 25) rfl ?_
  refine s_foldL C (y := (1 : Int64)) (by decide) ?_
  refine s_lmul C d4_25 (pc' := 26) rfl ?_
  refine s_lload C d4_26 (pc' := 28) rfl rfl ?_
  refine s_bipush C d4_28 (pc' := 30) rfl (52 : Int32) rfl ?_
  refine s_lshr C d4_30 (pc' := 31) rfl ?_
  refine s_ladd C d4_31 (pc' := 32) rfl ?_
  refine s_lstore C d4_32 (pc' := 34) rfl (fun y => #[.val (.ref r), .val (.ref a), .val (.int (1 : Int32)), .val (.long v1), .second, .val (.long v2), .second, .val (.long y), .second, .unset, .unset, .unset, .unset, .unset, .unset]) (fun _ => rfl) (fun v3 hv3 => ?_)
  refine s_aloadN C d4_34 (pc' := 35) rfl rfl rfl ?_
  refine s_iconst C d4_35 (pc' := 36) rfl (3 : Int32) rfl ?_
  refine s_laload C d4_36 (pc' := 37) rfl V_a 3 (by decide) rfl ?_
  refine s_iloadN C d4_37 (pc' := 38) rfl rfl ?_
  refine s_i2l C d4_38 (pc' := 39) rfl ?_
  refine s_foldL C (y := (1 : Int64)) (by decide) ?_
  refine s_lmul C d4_39 (pc' := 40) rfl ?_
  refine s_lload C d4_40 (pc' := 42) rfl rfl ?_
  refine s_bipush C d4_42 (pc' := 44) rfl (52 : Int32) rfl ?_
  refine s_lshr C d4_44 (pc' := 45) rfl ?_
  refine s_ladd C d4_45 (pc' := 46) rfl ?_
  refine s_lstore C d4_46 (pc' := 48) rfl (fun y => #[.val (.ref r), .val (.ref a), .val (.int (1 : Int32)), .val (.long v1), .second, .val (.long v2), .second, .val (.long v3), .second, .val (.long y), .second, .unset, .unset, .unset, .unset]) (fun _ => rfl) (fun v4 hv4 => ?_)
  refine s_aloadN C d4_48 (pc' := 49) rfl rfl rfl ?_
  refine s_iconst C d4_49 (pc' := 50) rfl (4 : Int32) rfl ?_
  refine s_laload C d4_50 (pc' := 51) rfl V_a 4 (by decide) rfl ?_
  refine s_iloadN C d4_51 (pc' := 52) rfl rfl ?_
  refine s_i2l C d4_52 (pc' := 53) rfl ?_
  refine s_foldL C (y := (1 : Int64)) (by decide) ?_
  refine s_lmul C d4_53 (pc' := 54) rfl ?_
  refine s_lload C d4_54 (pc' := 56) rfl rfl ?_
  refine s_bipush C d4_56 (pc' := 58) rfl (52 : Int32) rfl ?_
  refine s_lshr C d4_58 (pc' := 59) rfl ?_
  refine s_ladd C d4_59 (pc' := 60) rfl ?_
  refine s_lstore C d4_60 (pc' := 62) rfl (fun y => #[.val (.ref r), .val (.ref a), .val (.int (1 : Int32)), .val (.long v1), .second, .val (.long v2), .second, .val (.long v3), .second, .val (.long v4), .second, .val (.long y), .second, .unset, .unset]) (fun _ => rfl) (fun v5 hv5 => ?_)
  refine s_lload C d4_62 (pc' := 64) rfl rfl ?_
  refine s_bipush C d4_64 (pc' := 66) rfl (48 : Int32) rfl ?_
  refine s_lshr C d4_66 (pc' := 67) rfl ?_
  refine s_lstore C d4_67 (pc' := 69) rfl (fun y => #[.val (.ref r), .val (.ref a), .val (.int (1 : Int32)), .val (.long v1), .second, .val (.long v2), .second, .val (.long v3), .second, .val (.long v4), .second, .val (.long v5), .second, .val (.long y), .second]) (fun _ => rfl) (fun v6 hv6 => ?_)
  refine s_lloadN C d4_69 (pc' := 70) rfl rfl ?_
  refine s_ldc2 C d4_70 (pc' := 73) rfl (w17 hw) ?_
  refine s_land C d4_73 (pc' := 74) rfl ?_
  refine s_lload C d4_74 (pc' := 76) rfl rfl ?_
  refine s_ladd C d4_76 (pc' := 77) rfl ?_
  refine s_lstoreN C d4_77 (pc' := 78) rfl (fun y => #[.val (.ref r), .val (.ref a), .val (.int (1 : Int32)), .val (.long y), .second, .val (.long v2), .second, .val (.long v3), .second, .val (.long v4), .second, .val (.long v5), .second, .val (.long v6), .second]) (fun _ => rfl) (fun v7 hv7 => ?_)
  refine s_lload C d4_78 (pc' := 80) rfl rfl ?_
  refine s_ldc2 C d4_80 (pc' := 83) rfl (w17 hw) ?_
  refine s_land C d4_83 (pc' := 84) rfl ?_
  refine s_lload C d4_84 (pc' := 86) rfl rfl ?_
  refine s_bipush C d4_86 (pc' := 88) rfl (44 : Int32) rfl ?_
  refine s_lshl C d4_88 (pc' := 89) rfl ?_
  refine s_lsub C d4_89 (pc' := 90) rfl ?_
  refine s_lstore C d4_90 (pc' := 92) rfl (fun y => #[.val (.ref r), .val (.ref a), .val (.int (1 : Int32)), .val (.long v7), .second, .val (.long y), .second, .val (.long v3), .second, .val (.long v4), .second, .val (.long v5), .second, .val (.long v6), .second]) (fun _ => rfl) (fun v8 hv8 => ?_)
  refine s_lload C d4_92 (pc' := 94) rfl rfl ?_
  refine s_ldc2 C d4_94 (pc' := 97) rfl (w17 hw) ?_
  refine s_land C d4_97 (pc' := 98) rfl ?_
  refine s_lload C d4_98 (pc' := 100) rfl rfl ?_
  refine s_bipush C d4_100 (pc' := 102) rfl (36 : Int32) rfl ?_
  refine s_lshl C d4_102 (pc' := 103) rfl ?_
  refine s_lsub C d4_103 (pc' := 104) rfl ?_
  refine s_lstore C d4_104 (pc' := 106) rfl (fun y => #[.val (.ref r), .val (.ref a), .val (.int (1 : Int32)), .val (.long v7), .second, .val (.long v8), .second, .val (.long v3), .second, .val (.long y), .second, .val (.long v5), .second, .val (.long v6), .second]) (fun _ => rfl) (fun v9 hv9 => ?_)
  refine s_lload C d4_106 (pc' := 108) rfl rfl ?_
  refine s_ldc2 C d4_108 (pc' := 111) rfl (w25 hw) ?_
  refine s_land C d4_111 (pc' := 112) rfl ?_
  refine s_lload C d4_112 (pc' := 114) rfl rfl ?_
  refine s_bipush C d4_114 (pc' := 116) rfl (16 : Int32) rfl ?_
  refine s_lshl C d4_116 (pc' := 117) rfl ?_
  refine s_ladd C d4_117 (pc' := 118) rfl ?_
  refine s_lstore C d4_118 (pc' := 120) rfl (fun y => #[.val (.ref r), .val (.ref a), .val (.int (1 : Int32)), .val (.long v7), .second, .val (.long v8), .second, .val (.long v3), .second, .val (.long v9), .second, .val (.long y), .second, .val (.long v6), .second]) (fun _ => rfl) (fun v10 hv10 => ?_)
  refine s_lload C d4_120 (pc' := 122) rfl rfl ?_
  refine s_lloadN C d4_122 (pc' := 123) rfl rfl ?_
  refine s_bipush C d4_123 (pc' := 125) rfl (52 : Int32) rfl ?_
  refine s_lshr C d4_125 (pc' := 126) rfl ?_
  refine s_ladd C d4_126 (pc' := 127) rfl ?_
  refine s_lstore C d4_127 (pc' := 129) rfl (fun y => #[.val (.ref r), .val (.ref a), .val (.int (1 : Int32)), .val (.long v7), .second, .val (.long y), .second, .val (.long v3), .second, .val (.long v9), .second, .val (.long v10), .second, .val (.long v6), .second]) (fun _ => rfl) (fun v11 hv11 => ?_)
  refine s_lload C d4_129 (pc' := 131) rfl rfl ?_
  refine s_ldc2 C d4_131 (pc' := 134) rfl (w17 hw) ?_
  refine s_land C d4_134 (pc' := 135) rfl ?_
  refine s_lload C d4_135 (pc' := 137) rfl rfl ?_
  refine s_bipush C d4_137 (pc' := 139) rfl (52 : Int32) rfl ?_
  refine s_lshr C d4_139 (pc' := 140) rfl ?_
  refine s_ladd C d4_140 (pc' := 141) rfl ?_
  refine s_lstore C d4_141 (pc' := 143) rfl (fun y => #[.val (.ref r), .val (.ref a), .val (.int (1 : Int32)), .val (.long v7), .second, .val (.long v11), .second, .val (.long y), .second, .val (.long v9), .second, .val (.long v10), .second, .val (.long v6), .second]) (fun _ => rfl) (fun v12 hv12 => ?_)
  refine s_lload C d4_143 (pc' := 145) rfl rfl ?_
  refine s_lload C d4_145 (pc' := 147) rfl rfl ?_
  refine s_bipush C d4_147 (pc' := 149) rfl (52 : Int32) rfl ?_
  refine s_lshr C d4_149 (pc' := 150) rfl ?_
  refine s_ladd C d4_150 (pc' := 151) rfl ?_
  refine s_lstore C d4_151 (pc' := 153) rfl (fun y => #[.val (.ref r), .val (.ref a), .val (.int (1 : Int32)), .val (.long v7), .second, .val (.long v11), .second, .val (.long v12), .second, .val (.long y), .second, .val (.long v10), .second, .val (.long v6), .second]) (fun _ => rfl) (fun v13 hv13 => ?_)
  refine s_aloadN C d4_153 (pc' := 154) rfl rfl rfl ?_
  refine s_iconst C d4_154 (pc' := 155) rfl (0 : Int32) rfl ?_
  refine s_lloadN C d4_155 (pc' := 156) rfl rfl ?_
  refine s_ldc2 C d4_156 (pc' := 159) rfl (w17 hw) ?_
  refine s_land C d4_159 (pc' := 160) rfl ?_
  refine s_lastore C d4_160 (pc' := 161) rfl V_r 0 (by decide) (Nat.le_of_ble_eq_true rfl) g_r [(.long (v7 &&& (4503599627370495 : Int64))), (.long r1), (.long r2), (.long r3), (.long r4)] rfl (fun h14 W14 A14 => ?_)
  have sz15 : n0 ≤ h14.size := (Nat.le_trans Z0 (Nat.le_of_eq W14.size.symm))
  have Kp16 : Keep h0 h14 [r] := (Keep.refl h0 [r]).wr W14 (Or.inl (List.mem_of_getElem? (i := 0) rfl))
  refine s_aloadN C d4_161 (pc' := 162) rfl rfl rfl ?_
  refine s_iconst C d4_162 (pc' := 163) rfl (1 : Int32) rfl ?_
  refine s_lload C d4_163 (pc' := 165) rfl rfl ?_
  refine s_ldc2 C d4_165 (pc' := 168) rfl (w17 hw) ?_
  refine s_land C d4_168 (pc' := 169) rfl ?_
  refine s_lastore C d4_169 (pc' := 170) rfl A14 1 (by decide) (Nat.le_of_ble_eq_true rfl) g_r [(.long (v7 &&& (4503599627370495 : Int64))), (.long (v11 &&& (4503599627370495 : Int64))), (.long r2), (.long r3), (.long r4)] rfl (fun h17 W17 A17 => ?_)
  have sz18 : n0 ≤ h17.size := (Nat.le_trans sz15 (Nat.le_of_eq W17.size.symm))
  have Kp19 : Keep h0 h17 [r] := Kp16.wr W17 (Or.inl (List.mem_of_getElem? (i := 0) rfl))
  refine s_aloadN C d4_170 (pc' := 171) rfl rfl rfl ?_
  refine s_iconst C d4_171 (pc' := 172) rfl (2 : Int32) rfl ?_
  refine s_lload C d4_172 (pc' := 174) rfl rfl ?_
  refine s_ldc2 C d4_174 (pc' := 177) rfl (w17 hw) ?_
  refine s_land C d4_177 (pc' := 178) rfl ?_
  refine s_lastore C d4_178 (pc' := 179) rfl A17 2 (by decide) (Nat.le_of_ble_eq_true rfl) g_r [(.long (v7 &&& (4503599627370495 : Int64))), (.long (v11 &&& (4503599627370495 : Int64))), (.long (v12 &&& (4503599627370495 : Int64))), (.long r3), (.long r4)] rfl (fun h20 W20 A20 => ?_)
  have sz21 : n0 ≤ h20.size := (Nat.le_trans sz18 (Nat.le_of_eq W20.size.symm))
  have Kp22 : Keep h0 h20 [r] := Kp19.wr W20 (Or.inl (List.mem_of_getElem? (i := 0) rfl))
  refine s_aloadN C d4_179 (pc' := 180) rfl rfl rfl ?_
  refine s_iconst C d4_180 (pc' := 181) rfl (3 : Int32) rfl ?_
  refine s_lload C d4_181 (pc' := 183) rfl rfl ?_
  refine s_ldc2 C d4_183 (pc' := 186) rfl (w17 hw) ?_
  refine s_land C d4_186 (pc' := 187) rfl ?_
  refine s_lastore C d4_187 (pc' := 188) rfl A20 3 (by decide) (Nat.le_of_ble_eq_true rfl) g_r [(.long (v7 &&& (4503599627370495 : Int64))), (.long (v11 &&& (4503599627370495 : Int64))), (.long (v12 &&& (4503599627370495 : Int64))), (.long (v13 &&& (4503599627370495 : Int64))), (.long r4)] rfl (fun h23 W23 A23 => ?_)
  have sz24 : n0 ≤ h23.size := (Nat.le_trans sz21 (Nat.le_of_eq W23.size.symm))
  have Kp25 : Keep h0 h23 [r] := Kp22.wr W23 (Or.inl (List.mem_of_getElem? (i := 0) rfl))
  refine s_aloadN C d4_188 (pc' := 189) rfl rfl rfl ?_
  refine s_iconst C d4_189 (pc' := 190) rfl (4 : Int32) rfl ?_
  refine s_lload C d4_190 (pc' := 192) rfl rfl ?_
  refine s_lload C d4_192 (pc' := 194) rfl rfl ?_
  refine s_bipush C d4_194 (pc' := 196) rfl (52 : Int32) rfl ?_
  refine s_lshr C d4_196 (pc' := 197) rfl ?_
  refine s_ladd C d4_197 (pc' := 198) rfl ?_
  refine s_lastore C d4_198 (pc' := 199) rfl A23 4 (by decide) (Nat.le_of_ble_eq_true rfl) g_r [(.long (v7 &&& (4503599627370495 : Int64))), (.long (v11 &&& (4503599627370495 : Int64))), (.long (v12 &&& (4503599627370495 : Int64))), (.long (v13 &&& (4503599627370495 : Int64))), (.long (v10 + (v13 >>> ((52 : Int32) &&& 0x3f).toInt64)))] rfl (fun h26 W26 A26 => ?_)
  have sz27 : n0 ≤ h26.size := (Nat.le_trans sz24 (Nat.le_of_eq W26.size.symm))
  have Kp28 : Keep h0 h26 [r] := Kp25.wr W26 (Or.inl (List.mem_of_getElem? (i := 0) rfl))
  obtain ⟨vv, nn, h1, h2, h3⟩ := own_ms1 (f := (1 : Int64)) (by decide) ha la hv1 hv2 hv3 hv4 hv5 hv6 hv7 hv8 hv9 hv10 hv11 hv12 hv13
  exact s_ret0 C d4_199 (by decide) (by decide) ⟨Kp28, _, _, _, _, _, _, A26, h1, h2, nn, h3⟩
set_option maxRecDepth 65536 in
set_option maxHeartbeats 40000000 in
theorem c_ms2 (l : Launch) (Z : State) (a0 : Array Value) (hw : Hw a0 Z) (r a : Addr) (r0 r1 r2 r3 r4 ua0 ua1 ua2 ua3 ua4 : Int64) (va : Int) (h0 : Heap) (n0 : Nat) (Z0 : n0 ≤ h0.size) (g_r : n0 ≤ r) (V_r : Av Z h0 r .long [(.long r0), (.long r1), (.long r2), (.long r3), (.long r4)]) (V_a : Av Z h0 a .long [(.long ua0), (.long ua1), (.long ua2), (.long ua3), (.long ua4)]) (ha : Nrm ua0 ua1 ua2 ua3 ua4 va) (la : va < 231584178420712497525394893898815147060172286830580628391067262617734195707902) :
    Met l Z (⟨"org/subveil/Secp256r1Field", "multiplySmall", "([J[JI)V"⟩ : MethodName) prog_45_method_15_code 15 none [] ({ frames := 0, cells := 0, slots := 0, locals := 0 } : Room) #[(.ref r), (.ref a), (.int (2 : Int32))] h0 n0 (Ret0 (fun h => Keep h0 h [r] ∧ ∃ (z0 z1 z2 z3 z4 : Int64) (v : Int), Av Z h r .long [.long z0, .long z1, .long z2, .long z3, .long z4] ∧ Nrm z0 z1 z2 z3 z4 v ∧ v < 231584178420712497525394893898815147060172286830580628391067262617734195707902 ∧ ∃ n : Int, v = 2 * va - n * 115792089210356248762697446949407573530086143415290314195533631308867097853951)) := by
  refine Met.intro pn4 (own := "org/subveil/Secp256r1Field") rfl (nm := "multiplySmall") rfl (fun m => ef4 m r a (2 : Int32)) ?_
  intro p e s m below meth c C
  refine s_aloadN C d4_0 (pc' := 1) rfl rfl rfl ?_
  refine s_iconst C d4_1 (pc' := 2) rfl (0 : Int32) rfl ?_
  refine s_laload C d4_2 (pc' := 3) rfl V_a 0 (by decide) rfl ?_
  refine s_iloadN C d4_3 (pc' := 4) rfl rfl ?_
  refine s_i2l C d4_4 (pc' := 5) rfl ?_
  refine s_foldL C (y := (2 : Int64)) (by decide) ?_
  refine s_lmul C d4_5 (pc' := 6) rfl ?_
  refine s_lstoreN C d4_6 (pc' := 7) rfl (fun y => #[.val (.ref r), .val (.ref a), .val (.int (2 : Int32)), .val (.long y), .second, .unset, .unset, .unset, .unset, .unset, .unset, .unset, .unset, .unset, .unset]) (fun _ => rfl) (fun v1 hv1 => ?_)
  refine s_aloadN C d4_7 (pc' := 8) rfl rfl rfl ?_
  refine s_iconst C d4_8 (pc' := 9) rfl (1 : Int32) rfl ?_
  refine s_laload C d4_9 (pc' := 10) rfl V_a 1 (by decide) rfl ?_
  refine s_iloadN C d4_10 (pc' := 11) rfl rfl ?_
  refine s_i2l C d4_11 (pc' := 12) rfl ?_
  refine s_foldL C (y := (2 : Int64)) (by decide) ?_
  refine s_lmul C d4_12 (pc' := 13) rfl ?_
  refine s_lloadN C d4_13 (pc' := 14) rfl rfl ?_
  refine s_bipush C d4_14 (pc' := 16) rfl (52 : Int32) rfl ?_
  refine s_lshr C d4_16 (pc' := 17) rfl ?_
  refine s_ladd C d4_17 (pc' := 18) rfl ?_
  refine s_lstore C d4_18 (pc' := 20) rfl (fun y => #[.val (.ref r), .val (.ref a), .val (.int (2 : Int32)), .val (.long v1), .second, .val (.long y), .second, .unset, .unset, .unset, .unset, .unset, .unset, .unset, .unset]) (fun _ => rfl) (fun v2 hv2 => ?_)
  refine s_aloadN C d4_20 (pc' := 21) rfl rfl rfl ?_
  refine s_iconst C d4_21 (pc' := 22) rfl (2 : Int32) rfl ?_
  refine s_laload C d4_22 (pc' := 23) rfl V_a 2 (by decide) rfl ?_
  refine s_iloadN C d4_23 (pc' := 24) rfl rfl ?_
  refine s_i2l C d4_24 (pc' := 25) rfl ?_
  refine s_foldL C (y := (2 : Int64)) (by decide) ?_
  refine s_lmul C d4_25 (pc' := 26) rfl ?_
  refine s_lload C d4_26 (pc' := 28) rfl rfl ?_
  refine s_bipush C d4_28 (pc' := 30) rfl (52 : Int32) rfl ?_
  refine s_lshr C d4_30 (pc' := 31) rfl ?_
  refine s_ladd C d4_31 (pc' := 32) rfl ?_
  refine s_lstore C d4_32 (pc' := 34) rfl (fun y => #[.val (.ref r), .val (.ref a), .val (.int (2 : Int32)), .val (.long v1), .second, .val (.long v2), .second, .val (.long y), .second, .unset, .unset, .unset, .unset, .unset, .unset]) (fun _ => rfl) (fun v3 hv3 => ?_)
  refine s_aloadN C d4_34 (pc' := 35) rfl rfl rfl ?_
  refine s_iconst C d4_35 (pc' := 36) rfl (3 : Int32) rfl ?_
  refine s_laload C d4_36 (pc' := 37) rfl V_a 3 (by decide) rfl ?_
  refine s_iloadN C d4_37 (pc' := 38) rfl rfl ?_
  refine s_i2l C d4_38 (pc' := 39) rfl ?_
  refine s_foldL C (y := (2 : Int64)) (by decide) ?_
  refine s_lmul C d4_39 (pc' := 40) rfl ?_
  refine s_lload C d4_40 (pc' := 42) rfl rfl ?_
  refine s_bipush C d4_42 (pc' := 44) rfl (52 : Int32) rfl ?_
  refine s_lshr C d4_44 (pc' := 45) rfl ?_
  refine s_ladd C d4_45 (pc' := 46) rfl ?_
  refine s_lstore C d4_46 (pc' := 48) rfl (fun y => #[.val (.ref r), .val (.ref a), .val (.int (2 : Int32)), .val (.long v1), .second, .val (.long v2), .second, .val (.long v3), .second, .val (.long y), .second, .unset, .unset, .unset, .unset]) (fun _ => rfl) (fun v4 hv4 => ?_)
  refine s_aloadN C d4_48 (pc' := 49) rfl rfl rfl ?_
  refine s_iconst C d4_49 (pc' := 50) rfl (4 : Int32) rfl ?_
  refine s_laload C d4_50 (pc' := 51) rfl V_a 4 (by decide) rfl ?_
  refine s_iloadN C d4_51 (pc' := 52) rfl rfl ?_
  refine s_i2l C d4_52 (pc' := 53) rfl ?_
  refine s_foldL C (y := (2 : Int64)) (by decide) ?_
  refine s_lmul C d4_53 (pc' := 54) rfl ?_
  refine s_lload C d4_54 (pc' := 56) rfl rfl ?_
  refine s_bipush C d4_56 (pc' := 58) rfl (52 : Int32) rfl ?_
  refine s_lshr C d4_58 (pc' := 59) rfl ?_
  refine s_ladd C d4_59 (pc' := 60) rfl ?_
  refine s_lstore C d4_60 (pc' := 62) rfl (fun y => #[.val (.ref r), .val (.ref a), .val (.int (2 : Int32)), .val (.long v1), .second, .val (.long v2), .second, .val (.long v3), .second, .val (.long v4), .second, .val (.long y), .second, .unset, .unset]) (fun _ => rfl) (fun v5 hv5 => ?_)
  refine s_lload C d4_62 (pc' := 64) rfl rfl ?_
  refine s_bipush C d4_64 (pc' := 66) rfl (48 : Int32) rfl ?_
  refine s_lshr C d4_66 (pc' := 67) rfl ?_
  refine s_lstore C d4_67 (pc' := 69) rfl (fun y => #[.val (.ref r), .val (.ref a), .val (.int (2 : Int32)), .val (.long v1), .second, .val (.long v2), .second, .val (.long v3), .second, .val (.long v4), .second, .val (.long v5), .second, .val (.long y), .second]) (fun _ => rfl) (fun v6 hv6 => ?_)
  refine s_lloadN C d4_69 (pc' := 70) rfl rfl ?_
  refine s_ldc2 C d4_70 (pc' := 73) rfl (w17 hw) ?_
  refine s_land C d4_73 (pc' := 74) rfl ?_
  refine s_lload C d4_74 (pc' := 76) rfl rfl ?_
  refine s_ladd C d4_76 (pc' := 77) rfl ?_
  refine s_lstoreN C d4_77 (pc' := 78) rfl (fun y => #[.val (.ref r), .val (.ref a), .val (.int (2 : Int32)), .val (.long y), .second, .val (.long v2), .second, .val (.long v3), .second, .val (.long v4), .second, .val (.long v5), .second, .val (.long v6), .second]) (fun _ => rfl) (fun v7 hv7 => ?_)
  refine s_lload C d4_78 (pc' := 80) rfl rfl ?_
  refine s_ldc2 C d4_80 (pc' := 83) rfl (w17 hw) ?_
  refine s_land C d4_83 (pc' := 84) rfl ?_
  refine s_lload C d4_84 (pc' := 86) rfl rfl ?_
  refine s_bipush C d4_86 (pc' := 88) rfl (44 : Int32) rfl ?_
  refine s_lshl C d4_88 (pc' := 89) rfl ?_
  refine s_lsub C d4_89 (pc' := 90) rfl ?_
  refine s_lstore C d4_90 (pc' := 92) rfl (fun y => #[.val (.ref r), .val (.ref a), .val (.int (2 : Int32)), .val (.long v7), .second, .val (.long y), .second, .val (.long v3), .second, .val (.long v4), .second, .val (.long v5), .second, .val (.long v6), .second]) (fun _ => rfl) (fun v8 hv8 => ?_)
  refine s_lload C d4_92 (pc' := 94) rfl rfl ?_
  refine s_ldc2 C d4_94 (pc' := 97) rfl (w17 hw) ?_
  refine s_land C d4_97 (pc' := 98) rfl ?_
  refine s_lload C d4_98 (pc' := 100) rfl rfl ?_
  refine s_bipush C d4_100 (pc' := 102) rfl (36 : Int32) rfl ?_
  refine s_lshl C d4_102 (pc' := 103) rfl ?_
  refine s_lsub C d4_103 (pc' := 104) rfl ?_
  refine s_lstore C d4_104 (pc' := 106) rfl (fun y => #[.val (.ref r), .val (.ref a), .val (.int (2 : Int32)), .val (.long v7), .second, .val (.long v8), .second, .val (.long v3), .second, .val (.long y), .second, .val (.long v5), .second, .val (.long v6), .second]) (fun _ => rfl) (fun v9 hv9 => ?_)
  refine s_lload C d4_106 (pc' := 108) rfl rfl ?_
  refine s_ldc2 C d4_108 (pc' := 111) rfl (w25 hw) ?_
  refine s_land C d4_111 (pc' := 112) rfl ?_
  refine s_lload C d4_112 (pc' := 114) rfl rfl ?_
  refine s_bipush C d4_114 (pc' := 116) rfl (16 : Int32) rfl ?_
  refine s_lshl C d4_116 (pc' := 117) rfl ?_
  refine s_ladd C d4_117 (pc' := 118) rfl ?_
  refine s_lstore C d4_118 (pc' := 120) rfl (fun y => #[.val (.ref r), .val (.ref a), .val (.int (2 : Int32)), .val (.long v7), .second, .val (.long v8), .second, .val (.long v3), .second, .val (.long v9), .second, .val (.long y), .second, .val (.long v6), .second]) (fun _ => rfl) (fun v10 hv10 => ?_)
  refine s_lload C d4_120 (pc' := 122) rfl rfl ?_
  refine s_lloadN C d4_122 (pc' := 123) rfl rfl ?_
  refine s_bipush C d4_123 (pc' := 125) rfl (52 : Int32) rfl ?_
  refine s_lshr C d4_125 (pc' := 126) rfl ?_
  refine s_ladd C d4_126 (pc' := 127) rfl ?_
  refine s_lstore C d4_127 (pc' := 129) rfl (fun y => #[.val (.ref r), .val (.ref a), .val (.int (2 : Int32)), .val (.long v7), .second, .val (.long y), .second, .val (.long v3), .second, .val (.long v9), .second, .val (.long v10), .second, .val (.long v6), .second]) (fun _ => rfl) (fun v11 hv11 => ?_)
  refine s_lload C d4_129 (pc' := 131) rfl rfl ?_
  refine s_ldc2 C d4_131 (pc' := 134) rfl (w17 hw) ?_
  refine s_land C d4_134 (pc' := 135) rfl ?_
  refine s_lload C d4_135 (pc' := 137) rfl rfl ?_
  refine s_bipush C d4_137 (pc' := 139) rfl (52 : Int32) rfl ?_
  refine s_lshr C d4_139 (pc' := 140) rfl ?_
  refine s_ladd C d4_140 (pc' := 141) rfl ?_
  refine s_lstore C d4_141 (pc' := 143) rfl (fun y => #[.val (.ref r), .val (.ref a), .val (.int (2 : Int32)), .val (.long v7), .second, .val (.long v11), .second, .val (.long y), .second, .val (.long v9), .second, .val (.long v10), .second, .val (.long v6), .second]) (fun _ => rfl) (fun v12 hv12 => ?_)
  refine s_lload C d4_143 (pc' := 145) rfl rfl ?_
  refine s_lload C d4_145 (pc' := 147) rfl rfl ?_
  refine s_bipush C d4_147 (pc' := 149) rfl (52 : Int32) rfl ?_
  refine s_lshr C d4_149 (pc' := 150) rfl ?_
  refine s_ladd C d4_150 (pc' := 151) rfl ?_
  refine s_lstore C d4_151 (pc' := 153) rfl (fun y => #[.val (.ref r), .val (.ref a), .val (.int (2 : Int32)), .val (.long v7), .second, .val (.long v11), .second, .val (.long v12), .second, .val (.long y), .second, .val (.long v10), .second, .val (.long v6), .second]) (fun _ => rfl) (fun v13 hv13 => ?_)
  refine s_aloadN C d4_153 (pc' := 154) rfl rfl rfl ?_
  refine s_iconst C d4_154 (pc' := 155) rfl (0 : Int32) rfl ?_
  refine s_lloadN C d4_155 (pc' := 156) rfl rfl ?_
  refine s_ldc2 C d4_156 (pc' := 159) rfl (w17 hw) ?_
  refine s_land C d4_159 (pc' := 160) rfl ?_
  refine s_lastore C d4_160 (pc' := 161) rfl V_r 0 (by decide) (Nat.le_of_ble_eq_true rfl) g_r [(.long (v7 &&& (4503599627370495 : Int64))), (.long r1), (.long r2), (.long r3), (.long r4)] rfl (fun h14 W14 A14 => ?_)
  have sz15 : n0 ≤ h14.size := (Nat.le_trans Z0 (Nat.le_of_eq W14.size.symm))
  have Kp16 : Keep h0 h14 [r] := (Keep.refl h0 [r]).wr W14 (Or.inl (List.mem_of_getElem? (i := 0) rfl))
  refine s_aloadN C d4_161 (pc' := 162) rfl rfl rfl ?_
  refine s_iconst C d4_162 (pc' := 163) rfl (1 : Int32) rfl ?_
  refine s_lload C d4_163 (pc' := 165) rfl rfl ?_
  refine s_ldc2 C d4_165 (pc' := 168) rfl (w17 hw) ?_
  refine s_land C d4_168 (pc' := 169) rfl ?_
  refine s_lastore C d4_169 (pc' := 170) rfl A14 1 (by decide) (Nat.le_of_ble_eq_true rfl) g_r [(.long (v7 &&& (4503599627370495 : Int64))), (.long (v11 &&& (4503599627370495 : Int64))), (.long r2), (.long r3), (.long r4)] rfl (fun h17 W17 A17 => ?_)
  have sz18 : n0 ≤ h17.size := (Nat.le_trans sz15 (Nat.le_of_eq W17.size.symm))
  have Kp19 : Keep h0 h17 [r] := Kp16.wr W17 (Or.inl (List.mem_of_getElem? (i := 0) rfl))
  refine s_aloadN C d4_170 (pc' := 171) rfl rfl rfl ?_
  refine s_iconst C d4_171 (pc' := 172) rfl (2 : Int32) rfl ?_
  refine s_lload C d4_172 (pc' := 174) rfl rfl ?_
  refine s_ldc2 C d4_174 (pc' := 177) rfl (w17 hw) ?_
  refine s_land C d4_177 (pc' := 178) rfl ?_
  refine s_lastore C d4_178 (pc' := 179) rfl A17 2 (by decide) (Nat.le_of_ble_eq_true rfl) g_r [(.long (v7 &&& (4503599627370495 : Int64))), (.long (v11 &&& (4503599627370495 : Int64))), (.long (v12 &&& (4503599627370495 : Int64))), (.long r3), (.long r4)] rfl (fun h20 W20 A20 => ?_)
  have sz21 : n0 ≤ h20.size := (Nat.le_trans sz18 (Nat.le_of_eq W20.size.symm))
  have Kp22 : Keep h0 h20 [r] := Kp19.wr W20 (Or.inl (List.mem_of_getElem? (i := 0) rfl))
  refine s_aloadN C d4_179 (pc' := 180) rfl rfl rfl ?_
  refine s_iconst C d4_180 (pc' := 181) rfl (3 : Int32) rfl ?_
  refine s_lload C d4_181 (pc' := 183) rfl rfl ?_
  refine s_ldc2 C d4_183 (pc' := 186) rfl (w17 hw) ?_
  refine s_land C d4_186 (pc' := 187) rfl ?_
  refine s_lastore C d4_187 (pc' := 188) rfl A20 3 (by decide) (Nat.le_of_ble_eq_true rfl) g_r [(.long (v7 &&& (4503599627370495 : Int64))), (.long (v11 &&& (4503599627370495 : Int64))), (.long (v12 &&& (4503599627370495 : Int64))), (.long (v13 &&& (4503599627370495 : Int64))), (.long r4)] rfl (fun h23 W23 A23 => ?_)
  have sz24 : n0 ≤ h23.size := (Nat.le_trans sz21 (Nat.le_of_eq W23.size.symm))
  have Kp25 : Keep h0 h23 [r] := Kp22.wr W23 (Or.inl (List.mem_of_getElem? (i := 0) rfl))
  refine s_aloadN C d4_188 (pc' := 189) rfl rfl rfl ?_
  refine s_iconst C d4_189 (pc' := 190) rfl (4 : Int32) rfl ?_
  refine s_lload C d4_190 (pc' := 192) rfl rfl ?_
  refine s_lload C d4_192 (pc' := 194) rfl rfl ?_
  refine s_bipush C d4_194 (pc' := 196) rfl (52 : Int32) rfl ?_
  refine s_lshr C d4_196 (pc' := 197) rfl ?_
  refine s_ladd C d4_197 (pc' := 198) rfl ?_
  refine s_lastore C d4_198 (pc' := 199) rfl A23 4 (by decide) (Nat.le_of_ble_eq_true rfl) g_r [(.long (v7 &&& (4503599627370495 : Int64))), (.long (v11 &&& (4503599627370495 : Int64))), (.long (v12 &&& (4503599627370495 : Int64))), (.long (v13 &&& (4503599627370495 : Int64))), (.long (v10 + (v13 >>> ((52 : Int32) &&& 0x3f).toInt64)))] rfl (fun h26 W26 A26 => ?_)
  have sz27 : n0 ≤ h26.size := (Nat.le_trans sz24 (Nat.le_of_eq W26.size.symm))
  have Kp28 : Keep h0 h26 [r] := Kp25.wr W26 (Or.inl (List.mem_of_getElem? (i := 0) rfl))
  obtain ⟨vv, nn, h1, h2, h3⟩ := own_ms2 (f := (2 : Int64)) (by decide) ha la hv1 hv2 hv3 hv4 hv5 hv6 hv7 hv8 hv9 hv10 hv11 hv12 hv13
  exact s_ret0 C d4_199 (by decide) (by decide) ⟨Kp28, _, _, _, _, _, _, A26, h1, h2, nn, h3⟩
set_option maxRecDepth 65536 in
set_option maxHeartbeats 40000000 in
theorem c_ms3 (l : Launch) (Z : State) (a0 : Array Value) (hw : Hw a0 Z) (r a : Addr) (r0 r1 r2 r3 r4 ua0 ua1 ua2 ua3 ua4 : Int64) (va : Int) (h0 : Heap) (n0 : Nat) (Z0 : n0 ≤ h0.size) (g_r : n0 ≤ r) (V_r : Av Z h0 r .long [(.long r0), (.long r1), (.long r2), (.long r3), (.long r4)]) (V_a : Av Z h0 a .long [(.long ua0), (.long ua1), (.long ua2), (.long ua3), (.long ua4)]) (ha : Nrm ua0 ua1 ua2 ua3 ua4 va) (la : va < 231584178420712497525394893898815147060172286830580628391067262617734195707902) :
    Met l Z (⟨"org/subveil/Secp256r1Field", "multiplySmall", "([J[JI)V"⟩ : MethodName) prog_45_method_15_code 15 none [] ({ frames := 0, cells := 0, slots := 0, locals := 0 } : Room) #[(.ref r), (.ref a), (.int (3 : Int32))] h0 n0 (Ret0 (fun h => Keep h0 h [r] ∧ ∃ (z0 z1 z2 z3 z4 : Int64) (v : Int), Av Z h r .long [.long z0, .long z1, .long z2, .long z3, .long z4] ∧ Nrm z0 z1 z2 z3 z4 v ∧ v < 231584178420712497525394893898815147060172286830580628391067262617734195707902 ∧ ∃ n : Int, v = 3 * va - n * 115792089210356248762697446949407573530086143415290314195533631308867097853951)) := by
  refine Met.intro pn4 (own := "org/subveil/Secp256r1Field") rfl (nm := "multiplySmall") rfl (fun m => ef4 m r a (3 : Int32)) ?_
  intro p e s m below meth c C
  refine s_aloadN C d4_0 (pc' := 1) rfl rfl rfl ?_
  refine s_iconst C d4_1 (pc' := 2) rfl (0 : Int32) rfl ?_
  refine s_laload C d4_2 (pc' := 3) rfl V_a 0 (by decide) rfl ?_
  refine s_iloadN C d4_3 (pc' := 4) rfl rfl ?_
  refine s_i2l C d4_4 (pc' := 5) rfl ?_
  refine s_foldL C (y := (3 : Int64)) (by decide) ?_
  refine s_lmul C d4_5 (pc' := 6) rfl ?_
  refine s_lstoreN C d4_6 (pc' := 7) rfl (fun y => #[.val (.ref r), .val (.ref a), .val (.int (3 : Int32)), .val (.long y), .second, .unset, .unset, .unset, .unset, .unset, .unset, .unset, .unset, .unset, .unset]) (fun _ => rfl) (fun v1 hv1 => ?_)
  refine s_aloadN C d4_7 (pc' := 8) rfl rfl rfl ?_
  refine s_iconst C d4_8 (pc' := 9) rfl (1 : Int32) rfl ?_
  refine s_laload C d4_9 (pc' := 10) rfl V_a 1 (by decide) rfl ?_
  refine s_iloadN C d4_10 (pc' := 11) rfl rfl ?_
  refine s_i2l C d4_11 (pc' := 12) rfl ?_
  refine s_foldL C (y := (3 : Int64)) (by decide) ?_
  refine s_lmul C d4_12 (pc' := 13) rfl ?_
  refine s_lloadN C d4_13 (pc' := 14) rfl rfl ?_
  refine s_bipush C d4_14 (pc' := 16) rfl (52 : Int32) rfl ?_
  refine s_lshr C d4_16 (pc' := 17) rfl ?_
  refine s_ladd C d4_17 (pc' := 18) rfl ?_
  refine s_lstore C d4_18 (pc' := 20) rfl (fun y => #[.val (.ref r), .val (.ref a), .val (.int (3 : Int32)), .val (.long v1), .second, .val (.long y), .second, .unset, .unset, .unset, .unset, .unset, .unset, .unset, .unset]) (fun _ => rfl) (fun v2 hv2 => ?_)
  refine s_aloadN C d4_20 (pc' := 21) rfl rfl rfl ?_
  refine s_iconst C d4_21 (pc' := 22) rfl (2 : Int32) rfl ?_
  refine s_laload C d4_22 (pc' := 23) rfl V_a 2 (by decide) rfl ?_
  refine s_iloadN C d4_23 (pc' := 24) rfl rfl ?_
  refine s_i2l C d4_24 (pc' := 25) rfl ?_
  refine s_foldL C (y := (3 : Int64)) (by decide) ?_
  refine s_lmul C d4_25 (pc' := 26) rfl ?_
  refine s_lload C d4_26 (pc' := 28) rfl rfl ?_
  refine s_bipush C d4_28 (pc' := 30) rfl (52 : Int32) rfl ?_
  refine s_lshr C d4_30 (pc' := 31) rfl ?_
  refine s_ladd C d4_31 (pc' := 32) rfl ?_
  refine s_lstore C d4_32 (pc' := 34) rfl (fun y => #[.val (.ref r), .val (.ref a), .val (.int (3 : Int32)), .val (.long v1), .second, .val (.long v2), .second, .val (.long y), .second, .unset, .unset, .unset, .unset, .unset, .unset]) (fun _ => rfl) (fun v3 hv3 => ?_)
  refine s_aloadN C d4_34 (pc' := 35) rfl rfl rfl ?_
  refine s_iconst C d4_35 (pc' := 36) rfl (3 : Int32) rfl ?_
  refine s_laload C d4_36 (pc' := 37) rfl V_a 3 (by decide) rfl ?_
  refine s_iloadN C d4_37 (pc' := 38) rfl rfl ?_
  refine s_i2l C d4_38 (pc' := 39) rfl ?_
  refine s_foldL C (y := (3 : Int64)) (by decide) ?_
  refine s_lmul C d4_39 (pc' := 40) rfl ?_
  refine s_lload C d4_40 (pc' := 42) rfl rfl ?_
  refine s_bipush C d4_42 (pc' := 44) rfl (52 : Int32) rfl ?_
  refine s_lshr C d4_44 (pc' := 45) rfl ?_
  refine s_ladd C d4_45 (pc' := 46) rfl ?_
  refine s_lstore C d4_46 (pc' := 48) rfl (fun y => #[.val (.ref r), .val (.ref a), .val (.int (3 : Int32)), .val (.long v1), .second, .val (.long v2), .second, .val (.long v3), .second, .val (.long y), .second, .unset, .unset, .unset, .unset]) (fun _ => rfl) (fun v4 hv4 => ?_)
  refine s_aloadN C d4_48 (pc' := 49) rfl rfl rfl ?_
  refine s_iconst C d4_49 (pc' := 50) rfl (4 : Int32) rfl ?_
  refine s_laload C d4_50 (pc' := 51) rfl V_a 4 (by decide) rfl ?_
  refine s_iloadN C d4_51 (pc' := 52) rfl rfl ?_
  refine s_i2l C d4_52 (pc' := 53) rfl ?_
  refine s_foldL C (y := (3 : Int64)) (by decide) ?_
  refine s_lmul C d4_53 (pc' := 54) rfl ?_
  refine s_lload C d4_54 (pc' := 56) rfl rfl ?_
  refine s_bipush C d4_56 (pc' := 58) rfl (52 : Int32) rfl ?_
  refine s_lshr C d4_58 (pc' := 59) rfl ?_
  refine s_ladd C d4_59 (pc' := 60) rfl ?_
  refine s_lstore C d4_60 (pc' := 62) rfl (fun y => #[.val (.ref r), .val (.ref a), .val (.int (3 : Int32)), .val (.long v1), .second, .val (.long v2), .second, .val (.long v3), .second, .val (.long v4), .second, .val (.long y), .second, .unset, .unset]) (fun _ => rfl) (fun v5 hv5 => ?_)
  refine s_lload C d4_62 (pc' := 64) rfl rfl ?_
  refine s_bipush C d4_64 (pc' := 66) rfl (48 : Int32) rfl ?_
  refine s_lshr C d4_66 (pc' := 67) rfl ?_
  refine s_lstore C d4_67 (pc' := 69) rfl (fun y => #[.val (.ref r), .val (.ref a), .val (.int (3 : Int32)), .val (.long v1), .second, .val (.long v2), .second, .val (.long v3), .second, .val (.long v4), .second, .val (.long v5), .second, .val (.long y), .second]) (fun _ => rfl) (fun v6 hv6 => ?_)
  refine s_lloadN C d4_69 (pc' := 70) rfl rfl ?_
  refine s_ldc2 C d4_70 (pc' := 73) rfl (w17 hw) ?_
  refine s_land C d4_73 (pc' := 74) rfl ?_
  refine s_lload C d4_74 (pc' := 76) rfl rfl ?_
  refine s_ladd C d4_76 (pc' := 77) rfl ?_
  refine s_lstoreN C d4_77 (pc' := 78) rfl (fun y => #[.val (.ref r), .val (.ref a), .val (.int (3 : Int32)), .val (.long y), .second, .val (.long v2), .second, .val (.long v3), .second, .val (.long v4), .second, .val (.long v5), .second, .val (.long v6), .second]) (fun _ => rfl) (fun v7 hv7 => ?_)
  refine s_lload C d4_78 (pc' := 80) rfl rfl ?_
  refine s_ldc2 C d4_80 (pc' := 83) rfl (w17 hw) ?_
  refine s_land C d4_83 (pc' := 84) rfl ?_
  refine s_lload C d4_84 (pc' := 86) rfl rfl ?_
  refine s_bipush C d4_86 (pc' := 88) rfl (44 : Int32) rfl ?_
  refine s_lshl C d4_88 (pc' := 89) rfl ?_
  refine s_lsub C d4_89 (pc' := 90) rfl ?_
  refine s_lstore C d4_90 (pc' := 92) rfl (fun y => #[.val (.ref r), .val (.ref a), .val (.int (3 : Int32)), .val (.long v7), .second, .val (.long y), .second, .val (.long v3), .second, .val (.long v4), .second, .val (.long v5), .second, .val (.long v6), .second]) (fun _ => rfl) (fun v8 hv8 => ?_)
  refine s_lload C d4_92 (pc' := 94) rfl rfl ?_
  refine s_ldc2 C d4_94 (pc' := 97) rfl (w17 hw) ?_
  refine s_land C d4_97 (pc' := 98) rfl ?_
  refine s_lload C d4_98 (pc' := 100) rfl rfl ?_
  refine s_bipush C d4_100 (pc' := 102) rfl (36 : Int32) rfl ?_
  refine s_lshl C d4_102 (pc' := 103) rfl ?_
  refine s_lsub C d4_103 (pc' := 104) rfl ?_
  refine s_lstore C d4_104 (pc' := 106) rfl (fun y => #[.val (.ref r), .val (.ref a), .val (.int (3 : Int32)), .val (.long v7), .second, .val (.long v8), .second, .val (.long v3), .second, .val (.long y), .second, .val (.long v5), .second, .val (.long v6), .second]) (fun _ => rfl) (fun v9 hv9 => ?_)
  refine s_lload C d4_106 (pc' := 108) rfl rfl ?_
  refine s_ldc2 C d4_108 (pc' := 111) rfl (w25 hw) ?_
  refine s_land C d4_111 (pc' := 112) rfl ?_
  refine s_lload C d4_112 (pc' := 114) rfl rfl ?_
  refine s_bipush C d4_114 (pc' := 116) rfl (16 : Int32) rfl ?_
  refine s_lshl C d4_116 (pc' := 117) rfl ?_
  refine s_ladd C d4_117 (pc' := 118) rfl ?_
  refine s_lstore C d4_118 (pc' := 120) rfl (fun y => #[.val (.ref r), .val (.ref a), .val (.int (3 : Int32)), .val (.long v7), .second, .val (.long v8), .second, .val (.long v3), .second, .val (.long v9), .second, .val (.long y), .second, .val (.long v6), .second]) (fun _ => rfl) (fun v10 hv10 => ?_)
  refine s_lload C d4_120 (pc' := 122) rfl rfl ?_
  refine s_lloadN C d4_122 (pc' := 123) rfl rfl ?_
  refine s_bipush C d4_123 (pc' := 125) rfl (52 : Int32) rfl ?_
  refine s_lshr C d4_125 (pc' := 126) rfl ?_
  refine s_ladd C d4_126 (pc' := 127) rfl ?_
  refine s_lstore C d4_127 (pc' := 129) rfl (fun y => #[.val (.ref r), .val (.ref a), .val (.int (3 : Int32)), .val (.long v7), .second, .val (.long y), .second, .val (.long v3), .second, .val (.long v9), .second, .val (.long v10), .second, .val (.long v6), .second]) (fun _ => rfl) (fun v11 hv11 => ?_)
  refine s_lload C d4_129 (pc' := 131) rfl rfl ?_
  refine s_ldc2 C d4_131 (pc' := 134) rfl (w17 hw) ?_
  refine s_land C d4_134 (pc' := 135) rfl ?_
  refine s_lload C d4_135 (pc' := 137) rfl rfl ?_
  refine s_bipush C d4_137 (pc' := 139) rfl (52 : Int32) rfl ?_
  refine s_lshr C d4_139 (pc' := 140) rfl ?_
  refine s_ladd C d4_140 (pc' := 141) rfl ?_
  refine s_lstore C d4_141 (pc' := 143) rfl (fun y => #[.val (.ref r), .val (.ref a), .val (.int (3 : Int32)), .val (.long v7), .second, .val (.long v11), .second, .val (.long y), .second, .val (.long v9), .second, .val (.long v10), .second, .val (.long v6), .second]) (fun _ => rfl) (fun v12 hv12 => ?_)
  refine s_lload C d4_143 (pc' := 145) rfl rfl ?_
  refine s_lload C d4_145 (pc' := 147) rfl rfl ?_
  refine s_bipush C d4_147 (pc' := 149) rfl (52 : Int32) rfl ?_
  refine s_lshr C d4_149 (pc' := 150) rfl ?_
  refine s_ladd C d4_150 (pc' := 151) rfl ?_
  refine s_lstore C d4_151 (pc' := 153) rfl (fun y => #[.val (.ref r), .val (.ref a), .val (.int (3 : Int32)), .val (.long v7), .second, .val (.long v11), .second, .val (.long v12), .second, .val (.long y), .second, .val (.long v10), .second, .val (.long v6), .second]) (fun _ => rfl) (fun v13 hv13 => ?_)
  refine s_aloadN C d4_153 (pc' := 154) rfl rfl rfl ?_
  refine s_iconst C d4_154 (pc' := 155) rfl (0 : Int32) rfl ?_
  refine s_lloadN C d4_155 (pc' := 156) rfl rfl ?_
  refine s_ldc2 C d4_156 (pc' := 159) rfl (w17 hw) ?_
  refine s_land C d4_159 (pc' := 160) rfl ?_
  refine s_lastore C d4_160 (pc' := 161) rfl V_r 0 (by decide) (Nat.le_of_ble_eq_true rfl) g_r [(.long (v7 &&& (4503599627370495 : Int64))), (.long r1), (.long r2), (.long r3), (.long r4)] rfl (fun h14 W14 A14 => ?_)
  have sz15 : n0 ≤ h14.size := (Nat.le_trans Z0 (Nat.le_of_eq W14.size.symm))
  have Kp16 : Keep h0 h14 [r] := (Keep.refl h0 [r]).wr W14 (Or.inl (List.mem_of_getElem? (i := 0) rfl))
  refine s_aloadN C d4_161 (pc' := 162) rfl rfl rfl ?_
  refine s_iconst C d4_162 (pc' := 163) rfl (1 : Int32) rfl ?_
  refine s_lload C d4_163 (pc' := 165) rfl rfl ?_
  refine s_ldc2 C d4_165 (pc' := 168) rfl (w17 hw) ?_
  refine s_land C d4_168 (pc' := 169) rfl ?_
  refine s_lastore C d4_169 (pc' := 170) rfl A14 1 (by decide) (Nat.le_of_ble_eq_true rfl) g_r [(.long (v7 &&& (4503599627370495 : Int64))), (.long (v11 &&& (4503599627370495 : Int64))), (.long r2), (.long r3), (.long r4)] rfl (fun h17 W17 A17 => ?_)
  have sz18 : n0 ≤ h17.size := (Nat.le_trans sz15 (Nat.le_of_eq W17.size.symm))
  have Kp19 : Keep h0 h17 [r] := Kp16.wr W17 (Or.inl (List.mem_of_getElem? (i := 0) rfl))
  refine s_aloadN C d4_170 (pc' := 171) rfl rfl rfl ?_
  refine s_iconst C d4_171 (pc' := 172) rfl (2 : Int32) rfl ?_
  refine s_lload C d4_172 (pc' := 174) rfl rfl ?_
  refine s_ldc2 C d4_174 (pc' := 177) rfl (w17 hw) ?_
  refine s_land C d4_177 (pc' := 178) rfl ?_
  refine s_lastore C d4_178 (pc' := 179) rfl A17 2 (by decide) (Nat.le_of_ble_eq_true rfl) g_r [(.long (v7 &&& (4503599627370495 : Int64))), (.long (v11 &&& (4503599627370495 : Int64))), (.long (v12 &&& (4503599627370495 : Int64))), (.long r3), (.long r4)] rfl (fun h20 W20 A20 => ?_)
  have sz21 : n0 ≤ h20.size := (Nat.le_trans sz18 (Nat.le_of_eq W20.size.symm))
  have Kp22 : Keep h0 h20 [r] := Kp19.wr W20 (Or.inl (List.mem_of_getElem? (i := 0) rfl))
  refine s_aloadN C d4_179 (pc' := 180) rfl rfl rfl ?_
  refine s_iconst C d4_180 (pc' := 181) rfl (3 : Int32) rfl ?_
  refine s_lload C d4_181 (pc' := 183) rfl rfl ?_
  refine s_ldc2 C d4_183 (pc' := 186) rfl (w17 hw) ?_
  refine s_land C d4_186 (pc' := 187) rfl ?_
  refine s_lastore C d4_187 (pc' := 188) rfl A20 3 (by decide) (Nat.le_of_ble_eq_true rfl) g_r [(.long (v7 &&& (4503599627370495 : Int64))), (.long (v11 &&& (4503599627370495 : Int64))), (.long (v12 &&& (4503599627370495 : Int64))), (.long (v13 &&& (4503599627370495 : Int64))), (.long r4)] rfl (fun h23 W23 A23 => ?_)
  have sz24 : n0 ≤ h23.size := (Nat.le_trans sz21 (Nat.le_of_eq W23.size.symm))
  have Kp25 : Keep h0 h23 [r] := Kp22.wr W23 (Or.inl (List.mem_of_getElem? (i := 0) rfl))
  refine s_aloadN C d4_188 (pc' := 189) rfl rfl rfl ?_
  refine s_iconst C d4_189 (pc' := 190) rfl (4 : Int32) rfl ?_
  refine s_lload C d4_190 (pc' := 192) rfl rfl ?_
  refine s_lload C d4_192 (pc' := 194) rfl rfl ?_
  refine s_bipush C d4_194 (pc' := 196) rfl (52 : Int32) rfl ?_
  refine s_lshr C d4_196 (pc' := 197) rfl ?_
  refine s_ladd C d4_197 (pc' := 198) rfl ?_
  refine s_lastore C d4_198 (pc' := 199) rfl A23 4 (by decide) (Nat.le_of_ble_eq_true rfl) g_r [(.long (v7 &&& (4503599627370495 : Int64))), (.long (v11 &&& (4503599627370495 : Int64))), (.long (v12 &&& (4503599627370495 : Int64))), (.long (v13 &&& (4503599627370495 : Int64))), (.long (v10 + (v13 >>> ((52 : Int32) &&& 0x3f).toInt64)))] rfl (fun h26 W26 A26 => ?_)
  have sz27 : n0 ≤ h26.size := (Nat.le_trans sz24 (Nat.le_of_eq W26.size.symm))
  have Kp28 : Keep h0 h26 [r] := Kp25.wr W26 (Or.inl (List.mem_of_getElem? (i := 0) rfl))
  obtain ⟨vv, nn, h1, h2, h3⟩ := own_ms3 (f := (3 : Int64)) (by decide) ha la hv1 hv2 hv3 hv4 hv5 hv6 hv7 hv8 hv9 hv10 hv11 hv12 hv13
  exact s_ret0 C d4_199 (by decide) (by decide) ⟨Kp28, _, _, _, _, _, _, A26, h1, h2, nn, h3⟩
set_option maxRecDepth 65536 in
set_option maxHeartbeats 40000000 in
theorem c_ms4 (l : Launch) (Z : State) (a0 : Array Value) (hw : Hw a0 Z) (r a : Addr) (r0 r1 r2 r3 r4 ua0 ua1 ua2 ua3 ua4 : Int64) (va : Int) (h0 : Heap) (n0 : Nat) (Z0 : n0 ≤ h0.size) (g_r : n0 ≤ r) (V_r : Av Z h0 r .long [(.long r0), (.long r1), (.long r2), (.long r3), (.long r4)]) (V_a : Av Z h0 a .long [(.long ua0), (.long ua1), (.long ua2), (.long ua3), (.long ua4)]) (ha : Nrm ua0 ua1 ua2 ua3 ua4 va) (la : va < 231584178420712497525394893898815147060172286830580628391067262617734195707902) :
    Met l Z (⟨"org/subveil/Secp256r1Field", "multiplySmall", "([J[JI)V"⟩ : MethodName) prog_45_method_15_code 15 none [] ({ frames := 0, cells := 0, slots := 0, locals := 0 } : Room) #[(.ref r), (.ref a), (.int (4 : Int32))] h0 n0 (Ret0 (fun h => Keep h0 h [r] ∧ ∃ (z0 z1 z2 z3 z4 : Int64) (v : Int), Av Z h r .long [.long z0, .long z1, .long z2, .long z3, .long z4] ∧ Nrm z0 z1 z2 z3 z4 v ∧ v < 231584178420712497525394893898815147060172286830580628391067262617734195707902 ∧ ∃ n : Int, v = 4 * va - n * 115792089210356248762697446949407573530086143415290314195533631308867097853951)) := by
  refine Met.intro pn4 (own := "org/subveil/Secp256r1Field") rfl (nm := "multiplySmall") rfl (fun m => ef4 m r a (4 : Int32)) ?_
  intro p e s m below meth c C
  refine s_aloadN C d4_0 (pc' := 1) rfl rfl rfl ?_
  refine s_iconst C d4_1 (pc' := 2) rfl (0 : Int32) rfl ?_
  refine s_laload C d4_2 (pc' := 3) rfl V_a 0 (by decide) rfl ?_
  refine s_iloadN C d4_3 (pc' := 4) rfl rfl ?_
  refine s_i2l C d4_4 (pc' := 5) rfl ?_
  refine s_foldL C (y := (4 : Int64)) (by decide) ?_
  refine s_lmul C d4_5 (pc' := 6) rfl ?_
  refine s_lstoreN C d4_6 (pc' := 7) rfl (fun y => #[.val (.ref r), .val (.ref a), .val (.int (4 : Int32)), .val (.long y), .second, .unset, .unset, .unset, .unset, .unset, .unset, .unset, .unset, .unset, .unset]) (fun _ => rfl) (fun v1 hv1 => ?_)
  refine s_aloadN C d4_7 (pc' := 8) rfl rfl rfl ?_
  refine s_iconst C d4_8 (pc' := 9) rfl (1 : Int32) rfl ?_
  refine s_laload C d4_9 (pc' := 10) rfl V_a 1 (by decide) rfl ?_
  refine s_iloadN C d4_10 (pc' := 11) rfl rfl ?_
  refine s_i2l C d4_11 (pc' := 12) rfl ?_
  refine s_foldL C (y := (4 : Int64)) (by decide) ?_
  refine s_lmul C d4_12 (pc' := 13) rfl ?_
  refine s_lloadN C d4_13 (pc' := 14) rfl rfl ?_
  refine s_bipush C d4_14 (pc' := 16) rfl (52 : Int32) rfl ?_
  refine s_lshr C d4_16 (pc' := 17) rfl ?_
  refine s_ladd C d4_17 (pc' := 18) rfl ?_
  refine s_lstore C d4_18 (pc' := 20) rfl (fun y => #[.val (.ref r), .val (.ref a), .val (.int (4 : Int32)), .val (.long v1), .second, .val (.long y), .second, .unset, .unset, .unset, .unset, .unset, .unset, .unset, .unset]) (fun _ => rfl) (fun v2 hv2 => ?_)
  refine s_aloadN C d4_20 (pc' := 21) rfl rfl rfl ?_
  refine s_iconst C d4_21 (pc' := 22) rfl (2 : Int32) rfl ?_
  refine s_laload C d4_22 (pc' := 23) rfl V_a 2 (by decide) rfl ?_
  refine s_iloadN C d4_23 (pc' := 24) rfl rfl ?_
  refine s_i2l C d4_24 (pc' := 25) rfl ?_
  refine s_foldL C (y := (4 : Int64)) (by decide) ?_
  refine s_lmul C d4_25 (pc' := 26) rfl ?_
  refine s_lload C d4_26 (pc' := 28) rfl rfl ?_
  refine s_bipush C d4_28 (pc' := 30) rfl (52 : Int32) rfl ?_
  refine s_lshr C d4_30 (pc' := 31) rfl ?_
  refine s_ladd C d4_31 (pc' := 32) rfl ?_
  refine s_lstore C d4_32 (pc' := 34) rfl (fun y => #[.val (.ref r), .val (.ref a), .val (.int (4 : Int32)), .val (.long v1), .second, .val (.long v2), .second, .val (.long y), .second, .unset, .unset, .unset, .unset, .unset, .unset]) (fun _ => rfl) (fun v3 hv3 => ?_)
  refine s_aloadN C d4_34 (pc' := 35) rfl rfl rfl ?_
  refine s_iconst C d4_35 (pc' := 36) rfl (3 : Int32) rfl ?_
  refine s_laload C d4_36 (pc' := 37) rfl V_a 3 (by decide) rfl ?_
  refine s_iloadN C d4_37 (pc' := 38) rfl rfl ?_
  refine s_i2l C d4_38 (pc' := 39) rfl ?_
  refine s_foldL C (y := (4 : Int64)) (by decide) ?_
  refine s_lmul C d4_39 (pc' := 40) rfl ?_
  refine s_lload C d4_40 (pc' := 42) rfl rfl ?_
  refine s_bipush C d4_42 (pc' := 44) rfl (52 : Int32) rfl ?_
  refine s_lshr C d4_44 (pc' := 45) rfl ?_
  refine s_ladd C d4_45 (pc' := 46) rfl ?_
  refine s_lstore C d4_46 (pc' := 48) rfl (fun y => #[.val (.ref r), .val (.ref a), .val (.int (4 : Int32)), .val (.long v1), .second, .val (.long v2), .second, .val (.long v3), .second, .val (.long y), .second, .unset, .unset, .unset, .unset]) (fun _ => rfl) (fun v4 hv4 => ?_)
  refine s_aloadN C d4_48 (pc' := 49) rfl rfl rfl ?_
  refine s_iconst C d4_49 (pc' := 50) rfl (4 : Int32) rfl ?_
  refine s_laload C d4_50 (pc' := 51) rfl V_a 4 (by decide) rfl ?_
  refine s_iloadN C d4_51 (pc' := 52) rfl rfl ?_
  refine s_i2l C d4_52 (pc' := 53) rfl ?_
  refine s_foldL C (y := (4 : Int64)) (by decide) ?_
  refine s_lmul C d4_53 (pc' := 54) rfl ?_
  refine s_lload C d4_54 (pc' := 56) rfl rfl ?_
  refine s_bipush C d4_56 (pc' := 58) rfl (52 : Int32) rfl ?_
  refine s_lshr C d4_58 (pc' := 59) rfl ?_
  refine s_ladd C d4_59 (pc' := 60) rfl ?_
  refine s_lstore C d4_60 (pc' := 62) rfl (fun y => #[.val (.ref r), .val (.ref a), .val (.int (4 : Int32)), .val (.long v1), .second, .val (.long v2), .second, .val (.long v3), .second, .val (.long v4), .second, .val (.long y), .second, .unset, .unset]) (fun _ => rfl) (fun v5 hv5 => ?_)
  refine s_lload C d4_62 (pc' := 64) rfl rfl ?_
  refine s_bipush C d4_64 (pc' := 66) rfl (48 : Int32) rfl ?_
  refine s_lshr C d4_66 (pc' := 67) rfl ?_
  refine s_lstore C d4_67 (pc' := 69) rfl (fun y => #[.val (.ref r), .val (.ref a), .val (.int (4 : Int32)), .val (.long v1), .second, .val (.long v2), .second, .val (.long v3), .second, .val (.long v4), .second, .val (.long v5), .second, .val (.long y), .second]) (fun _ => rfl) (fun v6 hv6 => ?_)
  refine s_lloadN C d4_69 (pc' := 70) rfl rfl ?_
  refine s_ldc2 C d4_70 (pc' := 73) rfl (w17 hw) ?_
  refine s_land C d4_73 (pc' := 74) rfl ?_
  refine s_lload C d4_74 (pc' := 76) rfl rfl ?_
  refine s_ladd C d4_76 (pc' := 77) rfl ?_
  refine s_lstoreN C d4_77 (pc' := 78) rfl (fun y => #[.val (.ref r), .val (.ref a), .val (.int (4 : Int32)), .val (.long y), .second, .val (.long v2), .second, .val (.long v3), .second, .val (.long v4), .second, .val (.long v5), .second, .val (.long v6), .second]) (fun _ => rfl) (fun v7 hv7 => ?_)
  refine s_lload C d4_78 (pc' := 80) rfl rfl ?_
  refine s_ldc2 C d4_80 (pc' := 83) rfl (w17 hw) ?_
  refine s_land C d4_83 (pc' := 84) rfl ?_
  refine s_lload C d4_84 (pc' := 86) rfl rfl ?_
  refine s_bipush C d4_86 (pc' := 88) rfl (44 : Int32) rfl ?_
  refine s_lshl C d4_88 (pc' := 89) rfl ?_
  refine s_lsub C d4_89 (pc' := 90) rfl ?_
  refine s_lstore C d4_90 (pc' := 92) rfl (fun y => #[.val (.ref r), .val (.ref a), .val (.int (4 : Int32)), .val (.long v7), .second, .val (.long y), .second, .val (.long v3), .second, .val (.long v4), .second, .val (.long v5), .second, .val (.long v6), .second]) (fun _ => rfl) (fun v8 hv8 => ?_)
  refine s_lload C d4_92 (pc' := 94) rfl rfl ?_
  refine s_ldc2 C d4_94 (pc' := 97) rfl (w17 hw) ?_
  refine s_land C d4_97 (pc' := 98) rfl ?_
  refine s_lload C d4_98 (pc' := 100) rfl rfl ?_
  refine s_bipush C d4_100 (pc' := 102) rfl (36 : Int32) rfl ?_
  refine s_lshl C d4_102 (pc' := 103) rfl ?_
  refine s_lsub C d4_103 (pc' := 104) rfl ?_
  refine s_lstore C d4_104 (pc' := 106) rfl (fun y => #[.val (.ref r), .val (.ref a), .val (.int (4 : Int32)), .val (.long v7), .second, .val (.long v8), .second, .val (.long v3), .second, .val (.long y), .second, .val (.long v5), .second, .val (.long v6), .second]) (fun _ => rfl) (fun v9 hv9 => ?_)
  refine s_lload C d4_106 (pc' := 108) rfl rfl ?_
  refine s_ldc2 C d4_108 (pc' := 111) rfl (w25 hw) ?_
  refine s_land C d4_111 (pc' := 112) rfl ?_
  refine s_lload C d4_112 (pc' := 114) rfl rfl ?_
  refine s_bipush C d4_114 (pc' := 116) rfl (16 : Int32) rfl ?_
  refine s_lshl C d4_116 (pc' := 117) rfl ?_
  refine s_ladd C d4_117 (pc' := 118) rfl ?_
  refine s_lstore C d4_118 (pc' := 120) rfl (fun y => #[.val (.ref r), .val (.ref a), .val (.int (4 : Int32)), .val (.long v7), .second, .val (.long v8), .second, .val (.long v3), .second, .val (.long v9), .second, .val (.long y), .second, .val (.long v6), .second]) (fun _ => rfl) (fun v10 hv10 => ?_)
  refine s_lload C d4_120 (pc' := 122) rfl rfl ?_
  refine s_lloadN C d4_122 (pc' := 123) rfl rfl ?_
  refine s_bipush C d4_123 (pc' := 125) rfl (52 : Int32) rfl ?_
  refine s_lshr C d4_125 (pc' := 126) rfl ?_
  refine s_ladd C d4_126 (pc' := 127) rfl ?_
  refine s_lstore C d4_127 (pc' := 129) rfl (fun y => #[.val (.ref r), .val (.ref a), .val (.int (4 : Int32)), .val (.long v7), .second, .val (.long y), .second, .val (.long v3), .second, .val (.long v9), .second, .val (.long v10), .second, .val (.long v6), .second]) (fun _ => rfl) (fun v11 hv11 => ?_)
  refine s_lload C d4_129 (pc' := 131) rfl rfl ?_
  refine s_ldc2 C d4_131 (pc' := 134) rfl (w17 hw) ?_
  refine s_land C d4_134 (pc' := 135) rfl ?_
  refine s_lload C d4_135 (pc' := 137) rfl rfl ?_
  refine s_bipush C d4_137 (pc' := 139) rfl (52 : Int32) rfl ?_
  refine s_lshr C d4_139 (pc' := 140) rfl ?_
  refine s_ladd C d4_140 (pc' := 141) rfl ?_
  refine s_lstore C d4_141 (pc' := 143) rfl (fun y => #[.val (.ref r), .val (.ref a), .val (.int (4 : Int32)), .val (.long v7), .second, .val (.long v11), .second, .val (.long y), .second, .val (.long v9), .second, .val (.long v10), .second, .val (.long v6), .second]) (fun _ => rfl) (fun v12 hv12 => ?_)
  refine s_lload C d4_143 (pc' := 145) rfl rfl ?_
  refine s_lload C d4_145 (pc' := 147) rfl rfl ?_
  refine s_bipush C d4_147 (pc' := 149) rfl (52 : Int32) rfl ?_
  refine s_lshr C d4_149 (pc' := 150) rfl ?_
  refine s_ladd C d4_150 (pc' := 151) rfl ?_
  refine s_lstore C d4_151 (pc' := 153) rfl (fun y => #[.val (.ref r), .val (.ref a), .val (.int (4 : Int32)), .val (.long v7), .second, .val (.long v11), .second, .val (.long v12), .second, .val (.long y), .second, .val (.long v10), .second, .val (.long v6), .second]) (fun _ => rfl) (fun v13 hv13 => ?_)
  refine s_aloadN C d4_153 (pc' := 154) rfl rfl rfl ?_
  refine s_iconst C d4_154 (pc' := 155) rfl (0 : Int32) rfl ?_
  refine s_lloadN C d4_155 (pc' := 156) rfl rfl ?_
  refine s_ldc2 C d4_156 (pc' := 159) rfl (w17 hw) ?_
  refine s_land C d4_159 (pc' := 160) rfl ?_
  refine s_lastore C d4_160 (pc' := 161) rfl V_r 0 (by decide) (Nat.le_of_ble_eq_true rfl) g_r [(.long (v7 &&& (4503599627370495 : Int64))), (.long r1), (.long r2), (.long r3), (.long r4)] rfl (fun h14 W14 A14 => ?_)
  have sz15 : n0 ≤ h14.size := (Nat.le_trans Z0 (Nat.le_of_eq W14.size.symm))
  have Kp16 : Keep h0 h14 [r] := (Keep.refl h0 [r]).wr W14 (Or.inl (List.mem_of_getElem? (i := 0) rfl))
  refine s_aloadN C d4_161 (pc' := 162) rfl rfl rfl ?_
  refine s_iconst C d4_162 (pc' := 163) rfl (1 : Int32) rfl ?_
  refine s_lload C d4_163 (pc' := 165) rfl rfl ?_
  refine s_ldc2 C d4_165 (pc' := 168) rfl (w17 hw) ?_
  refine s_land C d4_168 (pc' := 169) rfl ?_
  refine s_lastore C d4_169 (pc' := 170) rfl A14 1 (by decide) (Nat.le_of_ble_eq_true rfl) g_r [(.long (v7 &&& (4503599627370495 : Int64))), (.long (v11 &&& (4503599627370495 : Int64))), (.long r2), (.long r3), (.long r4)] rfl (fun h17 W17 A17 => ?_)
  have sz18 : n0 ≤ h17.size := (Nat.le_trans sz15 (Nat.le_of_eq W17.size.symm))
  have Kp19 : Keep h0 h17 [r] := Kp16.wr W17 (Or.inl (List.mem_of_getElem? (i := 0) rfl))
  refine s_aloadN C d4_170 (pc' := 171) rfl rfl rfl ?_
  refine s_iconst C d4_171 (pc' := 172) rfl (2 : Int32) rfl ?_
  refine s_lload C d4_172 (pc' := 174) rfl rfl ?_
  refine s_ldc2 C d4_174 (pc' := 177) rfl (w17 hw) ?_
  refine s_land C d4_177 (pc' := 178) rfl ?_
  refine s_lastore C d4_178 (pc' := 179) rfl A17 2 (by decide) (Nat.le_of_ble_eq_true rfl) g_r [(.long (v7 &&& (4503599627370495 : Int64))), (.long (v11 &&& (4503599627370495 : Int64))), (.long (v12 &&& (4503599627370495 : Int64))), (.long r3), (.long r4)] rfl (fun h20 W20 A20 => ?_)
  have sz21 : n0 ≤ h20.size := (Nat.le_trans sz18 (Nat.le_of_eq W20.size.symm))
  have Kp22 : Keep h0 h20 [r] := Kp19.wr W20 (Or.inl (List.mem_of_getElem? (i := 0) rfl))
  refine s_aloadN C d4_179 (pc' := 180) rfl rfl rfl ?_
  refine s_iconst C d4_180 (pc' := 181) rfl (3 : Int32) rfl ?_
  refine s_lload C d4_181 (pc' := 183) rfl rfl ?_
  refine s_ldc2 C d4_183 (pc' := 186) rfl (w17 hw) ?_
  refine s_land C d4_186 (pc' := 187) rfl ?_
  refine s_lastore C d4_187 (pc' := 188) rfl A20 3 (by decide) (Nat.le_of_ble_eq_true rfl) g_r [(.long (v7 &&& (4503599627370495 : Int64))), (.long (v11 &&& (4503599627370495 : Int64))), (.long (v12 &&& (4503599627370495 : Int64))), (.long (v13 &&& (4503599627370495 : Int64))), (.long r4)] rfl (fun h23 W23 A23 => ?_)
  have sz24 : n0 ≤ h23.size := (Nat.le_trans sz21 (Nat.le_of_eq W23.size.symm))
  have Kp25 : Keep h0 h23 [r] := Kp22.wr W23 (Or.inl (List.mem_of_getElem? (i := 0) rfl))
  refine s_aloadN C d4_188 (pc' := 189) rfl rfl rfl ?_
  refine s_iconst C d4_189 (pc' := 190) rfl (4 : Int32) rfl ?_
  refine s_lload C d4_190 (pc' := 192) rfl rfl ?_
  refine s_lload C d4_192 (pc' := 194) rfl rfl ?_
  refine s_bipush C d4_194 (pc' := 196) rfl (52 : Int32) rfl ?_
  refine s_lshr C d4_196 (pc' := 197) rfl ?_
  refine s_ladd C d4_197 (pc' := 198) rfl ?_
  refine s_lastore C d4_198 (pc' := 199) rfl A23 4 (by decide) (Nat.le_of_ble_eq_true rfl) g_r [(.long (v7 &&& (4503599627370495 : Int64))), (.long (v11 &&& (4503599627370495 : Int64))), (.long (v12 &&& (4503599627370495 : Int64))), (.long (v13 &&& (4503599627370495 : Int64))), (.long (v10 + (v13 >>> ((52 : Int32) &&& 0x3f).toInt64)))] rfl (fun h26 W26 A26 => ?_)
  have sz27 : n0 ≤ h26.size := (Nat.le_trans sz24 (Nat.le_of_eq W26.size.symm))
  have Kp28 : Keep h0 h26 [r] := Kp25.wr W26 (Or.inl (List.mem_of_getElem? (i := 0) rfl))
  obtain ⟨vv, nn, h1, h2, h3⟩ := own_ms4 (f := (4 : Int64)) (by decide) ha la hv1 hv2 hv3 hv4 hv5 hv6 hv7 hv8 hv9 hv10 hv11 hv12 hv13
  exact s_ret0 C d4_199 (by decide) (by decide) ⟨Kp28, _, _, _, _, _, _, A26, h1, h2, nn, h3⟩
set_option maxRecDepth 65536 in
set_option maxHeartbeats 40000000 in
theorem c_ms5 (l : Launch) (Z : State) (a0 : Array Value) (hw : Hw a0 Z) (r a : Addr) (r0 r1 r2 r3 r4 ua0 ua1 ua2 ua3 ua4 : Int64) (va : Int) (h0 : Heap) (n0 : Nat) (Z0 : n0 ≤ h0.size) (g_r : n0 ≤ r) (V_r : Av Z h0 r .long [(.long r0), (.long r1), (.long r2), (.long r3), (.long r4)]) (V_a : Av Z h0 a .long [(.long ua0), (.long ua1), (.long ua2), (.long ua3), (.long ua4)]) (ha : Nrm ua0 ua1 ua2 ua3 ua4 va) (la : va < 231584178420712497525394893898815147060172286830580628391067262617734195707902) :
    Met l Z (⟨"org/subveil/Secp256r1Field", "multiplySmall", "([J[JI)V"⟩ : MethodName) prog_45_method_15_code 15 none [] ({ frames := 0, cells := 0, slots := 0, locals := 0 } : Room) #[(.ref r), (.ref a), (.int (5 : Int32))] h0 n0 (Ret0 (fun h => Keep h0 h [r] ∧ ∃ (z0 z1 z2 z3 z4 : Int64) (v : Int), Av Z h r .long [.long z0, .long z1, .long z2, .long z3, .long z4] ∧ Nrm z0 z1 z2 z3 z4 v ∧ v < 231584178420712497525394893898815147060172286830580628391067262617734195707902 ∧ ∃ n : Int, v = 5 * va - n * 115792089210356248762697446949407573530086143415290314195533631308867097853951)) := by
  refine Met.intro pn4 (own := "org/subveil/Secp256r1Field") rfl (nm := "multiplySmall") rfl (fun m => ef4 m r a (5 : Int32)) ?_
  intro p e s m below meth c C
  refine s_aloadN C d4_0 (pc' := 1) rfl rfl rfl ?_
  refine s_iconst C d4_1 (pc' := 2) rfl (0 : Int32) rfl ?_
  refine s_laload C d4_2 (pc' := 3) rfl V_a 0 (by decide) rfl ?_
  refine s_iloadN C d4_3 (pc' := 4) rfl rfl ?_
  refine s_i2l C d4_4 (pc' := 5) rfl ?_
  refine s_foldL C (y := (5 : Int64)) (by decide) ?_
  refine s_lmul C d4_5 (pc' := 6) rfl ?_
  refine s_lstoreN C d4_6 (pc' := 7) rfl (fun y => #[.val (.ref r), .val (.ref a), .val (.int (5 : Int32)), .val (.long y), .second, .unset, .unset, .unset, .unset, .unset, .unset, .unset, .unset, .unset, .unset]) (fun _ => rfl) (fun v1 hv1 => ?_)
  refine s_aloadN C d4_7 (pc' := 8) rfl rfl rfl ?_
  refine s_iconst C d4_8 (pc' := 9) rfl (1 : Int32) rfl ?_
  refine s_laload C d4_9 (pc' := 10) rfl V_a 1 (by decide) rfl ?_
  refine s_iloadN C d4_10 (pc' := 11) rfl rfl ?_
  refine s_i2l C d4_11 (pc' := 12) rfl ?_
  refine s_foldL C (y := (5 : Int64)) (by decide) ?_
  refine s_lmul C d4_12 (pc' := 13) rfl ?_
  refine s_lloadN C d4_13 (pc' := 14) rfl rfl ?_
  refine s_bipush C d4_14 (pc' := 16) rfl (52 : Int32) rfl ?_
  refine s_lshr C d4_16 (pc' := 17) rfl ?_
  refine s_ladd C d4_17 (pc' := 18) rfl ?_
  refine s_lstore C d4_18 (pc' := 20) rfl (fun y => #[.val (.ref r), .val (.ref a), .val (.int (5 : Int32)), .val (.long v1), .second, .val (.long y), .second, .unset, .unset, .unset, .unset, .unset, .unset, .unset, .unset]) (fun _ => rfl) (fun v2 hv2 => ?_)
  refine s_aloadN C d4_20 (pc' := 21) rfl rfl rfl ?_
  refine s_iconst C d4_21 (pc' := 22) rfl (2 : Int32) rfl ?_
  refine s_laload C d4_22 (pc' := 23) rfl V_a 2 (by decide) rfl ?_
  refine s_iloadN C d4_23 (pc' := 24) rfl rfl ?_
  refine s_i2l C d4_24 (pc' := 25) rfl ?_
  refine s_foldL C (y := (5 : Int64)) (by decide) ?_
  refine s_lmul C d4_25 (pc' := 26) rfl ?_
  refine s_lload C d4_26 (pc' := 28) rfl rfl ?_
  refine s_bipush C d4_28 (pc' := 30) rfl (52 : Int32) rfl ?_
  refine s_lshr C d4_30 (pc' := 31) rfl ?_
  refine s_ladd C d4_31 (pc' := 32) rfl ?_
  refine s_lstore C d4_32 (pc' := 34) rfl (fun y => #[.val (.ref r), .val (.ref a), .val (.int (5 : Int32)), .val (.long v1), .second, .val (.long v2), .second, .val (.long y), .second, .unset, .unset, .unset, .unset, .unset, .unset]) (fun _ => rfl) (fun v3 hv3 => ?_)
  refine s_aloadN C d4_34 (pc' := 35) rfl rfl rfl ?_
  refine s_iconst C d4_35 (pc' := 36) rfl (3 : Int32) rfl ?_
  refine s_laload C d4_36 (pc' := 37) rfl V_a 3 (by decide) rfl ?_
  refine s_iloadN C d4_37 (pc' := 38) rfl rfl ?_
  refine s_i2l C d4_38 (pc' := 39) rfl ?_
  refine s_foldL C (y := (5 : Int64)) (by decide) ?_
  refine s_lmul C d4_39 (pc' := 40) rfl ?_
  refine s_lload C d4_40 (pc' := 42) rfl rfl ?_
  refine s_bipush C d4_42 (pc' := 44) rfl (52 : Int32) rfl ?_
  refine s_lshr C d4_44 (pc' := 45) rfl ?_
  refine s_ladd C d4_45 (pc' := 46) rfl ?_
  refine s_lstore C d4_46 (pc' := 48) rfl (fun y => #[.val (.ref r), .val (.ref a), .val (.int (5 : Int32)), .val (.long v1), .second, .val (.long v2), .second, .val (.long v3), .second, .val (.long y), .second, .unset, .unset, .unset, .unset]) (fun _ => rfl) (fun v4 hv4 => ?_)
  refine s_aloadN C d4_48 (pc' := 49) rfl rfl rfl ?_
  refine s_iconst C d4_49 (pc' := 50) rfl (4 : Int32) rfl ?_
  refine s_laload C d4_50 (pc' := 51) rfl V_a 4 (by decide) rfl ?_
  refine s_iloadN C d4_51 (pc' := 52) rfl rfl ?_
  refine s_i2l C d4_52 (pc' := 53) rfl ?_
  refine s_foldL C (y := (5 : Int64)) (by decide) ?_
  refine s_lmul C d4_53 (pc' := 54) rfl ?_
  refine s_lload C d4_54 (pc' := 56) rfl rfl ?_
  refine s_bipush C d4_56 (pc' := 58) rfl (52 : Int32) rfl ?_
  refine s_lshr C d4_58 (pc' := 59) rfl ?_
  refine s_ladd C d4_59 (pc' := 60) rfl ?_
  refine s_lstore C d4_60 (pc' := 62) rfl (fun y => #[.val (.ref r), .val (.ref a), .val (.int (5 : Int32)), .val (.long v1), .second, .val (.long v2), .second, .val (.long v3), .second, .val (.long v4), .second, .val (.long y), .second, .unset, .unset]) (fun _ => rfl) (fun v5 hv5 => ?_)
  refine s_lload C d4_62 (pc' := 64) rfl rfl ?_
  refine s_bipush C d4_64 (pc' := 66) rfl (48 : Int32) rfl ?_
  refine s_lshr C d4_66 (pc' := 67) rfl ?_
  refine s_lstore C d4_67 (pc' := 69) rfl (fun y => #[.val (.ref r), .val (.ref a), .val (.int (5 : Int32)), .val (.long v1), .second, .val (.long v2), .second, .val (.long v3), .second, .val (.long v4), .second, .val (.long v5), .second, .val (.long y), .second]) (fun _ => rfl) (fun v6 hv6 => ?_)
  refine s_lloadN C d4_69 (pc' := 70) rfl rfl ?_
  refine s_ldc2 C d4_70 (pc' := 73) rfl (w17 hw) ?_
  refine s_land C d4_73 (pc' := 74) rfl ?_
  refine s_lload C d4_74 (pc' := 76) rfl rfl ?_
  refine s_ladd C d4_76 (pc' := 77) rfl ?_
  refine s_lstoreN C d4_77 (pc' := 78) rfl (fun y => #[.val (.ref r), .val (.ref a), .val (.int (5 : Int32)), .val (.long y), .second, .val (.long v2), .second, .val (.long v3), .second, .val (.long v4), .second, .val (.long v5), .second, .val (.long v6), .second]) (fun _ => rfl) (fun v7 hv7 => ?_)
  refine s_lload C d4_78 (pc' := 80) rfl rfl ?_
  refine s_ldc2 C d4_80 (pc' := 83) rfl (w17 hw) ?_
  refine s_land C d4_83 (pc' := 84) rfl ?_
  refine s_lload C d4_84 (pc' := 86) rfl rfl ?_
  refine s_bipush C d4_86 (pc' := 88) rfl (44 : Int32) rfl ?_
  refine s_lshl C d4_88 (pc' := 89) rfl ?_
  refine s_lsub C d4_89 (pc' := 90) rfl ?_
  refine s_lstore C d4_90 (pc' := 92) rfl (fun y => #[.val (.ref r), .val (.ref a), .val (.int (5 : Int32)), .val (.long v7), .second, .val (.long y), .second, .val (.long v3), .second, .val (.long v4), .second, .val (.long v5), .second, .val (.long v6), .second]) (fun _ => rfl) (fun v8 hv8 => ?_)
  refine s_lload C d4_92 (pc' := 94) rfl rfl ?_
  refine s_ldc2 C d4_94 (pc' := 97) rfl (w17 hw) ?_
  refine s_land C d4_97 (pc' := 98) rfl ?_
  refine s_lload C d4_98 (pc' := 100) rfl rfl ?_
  refine s_bipush C d4_100 (pc' := 102) rfl (36 : Int32) rfl ?_
  refine s_lshl C d4_102 (pc' := 103) rfl ?_
  refine s_lsub C d4_103 (pc' := 104) rfl ?_
  refine s_lstore C d4_104 (pc' := 106) rfl (fun y => #[.val (.ref r), .val (.ref a), .val (.int (5 : Int32)), .val (.long v7), .second, .val (.long v8), .second, .val (.long v3), .second, .val (.long y), .second, .val (.long v5), .second, .val (.long v6), .second]) (fun _ => rfl) (fun v9 hv9 => ?_)
  refine s_lload C d4_106 (pc' := 108) rfl rfl ?_
  refine s_ldc2 C d4_108 (pc' := 111) rfl (w25 hw) ?_
  refine s_land C d4_111 (pc' := 112) rfl ?_
  refine s_lload C d4_112 (pc' := 114) rfl rfl ?_
  refine s_bipush C d4_114 (pc' := 116) rfl (16 : Int32) rfl ?_
  refine s_lshl C d4_116 (pc' := 117) rfl ?_
  refine s_ladd C d4_117 (pc' := 118) rfl ?_
  refine s_lstore C d4_118 (pc' := 120) rfl (fun y => #[.val (.ref r), .val (.ref a), .val (.int (5 : Int32)), .val (.long v7), .second, .val (.long v8), .second, .val (.long v3), .second, .val (.long v9), .second, .val (.long y), .second, .val (.long v6), .second]) (fun _ => rfl) (fun v10 hv10 => ?_)
  refine s_lload C d4_120 (pc' := 122) rfl rfl ?_
  refine s_lloadN C d4_122 (pc' := 123) rfl rfl ?_
  refine s_bipush C d4_123 (pc' := 125) rfl (52 : Int32) rfl ?_
  refine s_lshr C d4_125 (pc' := 126) rfl ?_
  refine s_ladd C d4_126 (pc' := 127) rfl ?_
  refine s_lstore C d4_127 (pc' := 129) rfl (fun y => #[.val (.ref r), .val (.ref a), .val (.int (5 : Int32)), .val (.long v7), .second, .val (.long y), .second, .val (.long v3), .second, .val (.long v9), .second, .val (.long v10), .second, .val (.long v6), .second]) (fun _ => rfl) (fun v11 hv11 => ?_)
  refine s_lload C d4_129 (pc' := 131) rfl rfl ?_
  refine s_ldc2 C d4_131 (pc' := 134) rfl (w17 hw) ?_
  refine s_land C d4_134 (pc' := 135) rfl ?_
  refine s_lload C d4_135 (pc' := 137) rfl rfl ?_
  refine s_bipush C d4_137 (pc' := 139) rfl (52 : Int32) rfl ?_
  refine s_lshr C d4_139 (pc' := 140) rfl ?_
  refine s_ladd C d4_140 (pc' := 141) rfl ?_
  refine s_lstore C d4_141 (pc' := 143) rfl (fun y => #[.val (.ref r), .val (.ref a), .val (.int (5 : Int32)), .val (.long v7), .second, .val (.long v11), .second, .val (.long y), .second, .val (.long v9), .second, .val (.long v10), .second, .val (.long v6), .second]) (fun _ => rfl) (fun v12 hv12 => ?_)
  refine s_lload C d4_143 (pc' := 145) rfl rfl ?_
  refine s_lload C d4_145 (pc' := 147) rfl rfl ?_
  refine s_bipush C d4_147 (pc' := 149) rfl (52 : Int32) rfl ?_
  refine s_lshr C d4_149 (pc' := 150) rfl ?_
  refine s_ladd C d4_150 (pc' := 151) rfl ?_
  refine s_lstore C d4_151 (pc' := 153) rfl (fun y => #[.val (.ref r), .val (.ref a), .val (.int (5 : Int32)), .val (.long v7), .second, .val (.long v11), .second, .val (.long v12), .second, .val (.long y), .second, .val (.long v10), .second, .val (.long v6), .second]) (fun _ => rfl) (fun v13 hv13 => ?_)
  refine s_aloadN C d4_153 (pc' := 154) rfl rfl rfl ?_
  refine s_iconst C d4_154 (pc' := 155) rfl (0 : Int32) rfl ?_
  refine s_lloadN C d4_155 (pc' := 156) rfl rfl ?_
  refine s_ldc2 C d4_156 (pc' := 159) rfl (w17 hw) ?_
  refine s_land C d4_159 (pc' := 160) rfl ?_
  refine s_lastore C d4_160 (pc' := 161) rfl V_r 0 (by decide) (Nat.le_of_ble_eq_true rfl) g_r [(.long (v7 &&& (4503599627370495 : Int64))), (.long r1), (.long r2), (.long r3), (.long r4)] rfl (fun h14 W14 A14 => ?_)
  have sz15 : n0 ≤ h14.size := (Nat.le_trans Z0 (Nat.le_of_eq W14.size.symm))
  have Kp16 : Keep h0 h14 [r] := (Keep.refl h0 [r]).wr W14 (Or.inl (List.mem_of_getElem? (i := 0) rfl))
  refine s_aloadN C d4_161 (pc' := 162) rfl rfl rfl ?_
  refine s_iconst C d4_162 (pc' := 163) rfl (1 : Int32) rfl ?_
  refine s_lload C d4_163 (pc' := 165) rfl rfl ?_
  refine s_ldc2 C d4_165 (pc' := 168) rfl (w17 hw) ?_
  refine s_land C d4_168 (pc' := 169) rfl ?_
  refine s_lastore C d4_169 (pc' := 170) rfl A14 1 (by decide) (Nat.le_of_ble_eq_true rfl) g_r [(.long (v7 &&& (4503599627370495 : Int64))), (.long (v11 &&& (4503599627370495 : Int64))), (.long r2), (.long r3), (.long r4)] rfl (fun h17 W17 A17 => ?_)
  have sz18 : n0 ≤ h17.size := (Nat.le_trans sz15 (Nat.le_of_eq W17.size.symm))
  have Kp19 : Keep h0 h17 [r] := Kp16.wr W17 (Or.inl (List.mem_of_getElem? (i := 0) rfl))
  refine s_aloadN C d4_170 (pc' := 171) rfl rfl rfl ?_
  refine s_iconst C d4_171 (pc' := 172) rfl (2 : Int32) rfl ?_
  refine s_lload C d4_172 (pc' := 174) rfl rfl ?_
  refine s_ldc2 C d4_174 (pc' := 177) rfl (w17 hw) ?_
  refine s_land C d4_177 (pc' := 178) rfl ?_
  refine s_lastore C d4_178 (pc' := 179) rfl A17 2 (by decide) (Nat.le_of_ble_eq_true rfl) g_r [(.long (v7 &&& (4503599627370495 : Int64))), (.long (v11 &&& (4503599627370495 : Int64))), (.long (v12 &&& (4503599627370495 : Int64))), (.long r3), (.long r4)] rfl (fun h20 W20 A20 => ?_)
  have sz21 : n0 ≤ h20.size := (Nat.le_trans sz18 (Nat.le_of_eq W20.size.symm))
  have Kp22 : Keep h0 h20 [r] := Kp19.wr W20 (Or.inl (List.mem_of_getElem? (i := 0) rfl))
  refine s_aloadN C d4_179 (pc' := 180) rfl rfl rfl ?_
  refine s_iconst C d4_180 (pc' := 181) rfl (3 : Int32) rfl ?_
  refine s_lload C d4_181 (pc' := 183) rfl rfl ?_
  refine s_ldc2 C d4_183 (pc' := 186) rfl (w17 hw) ?_
  refine s_land C d4_186 (pc' := 187) rfl ?_
  refine s_lastore C d4_187 (pc' := 188) rfl A20 3 (by decide) (Nat.le_of_ble_eq_true rfl) g_r [(.long (v7 &&& (4503599627370495 : Int64))), (.long (v11 &&& (4503599627370495 : Int64))), (.long (v12 &&& (4503599627370495 : Int64))), (.long (v13 &&& (4503599627370495 : Int64))), (.long r4)] rfl (fun h23 W23 A23 => ?_)
  have sz24 : n0 ≤ h23.size := (Nat.le_trans sz21 (Nat.le_of_eq W23.size.symm))
  have Kp25 : Keep h0 h23 [r] := Kp22.wr W23 (Or.inl (List.mem_of_getElem? (i := 0) rfl))
  refine s_aloadN C d4_188 (pc' := 189) rfl rfl rfl ?_
  refine s_iconst C d4_189 (pc' := 190) rfl (4 : Int32) rfl ?_
  refine s_lload C d4_190 (pc' := 192) rfl rfl ?_
  refine s_lload C d4_192 (pc' := 194) rfl rfl ?_
  refine s_bipush C d4_194 (pc' := 196) rfl (52 : Int32) rfl ?_
  refine s_lshr C d4_196 (pc' := 197) rfl ?_
  refine s_ladd C d4_197 (pc' := 198) rfl ?_
  refine s_lastore C d4_198 (pc' := 199) rfl A23 4 (by decide) (Nat.le_of_ble_eq_true rfl) g_r [(.long (v7 &&& (4503599627370495 : Int64))), (.long (v11 &&& (4503599627370495 : Int64))), (.long (v12 &&& (4503599627370495 : Int64))), (.long (v13 &&& (4503599627370495 : Int64))), (.long (v10 + (v13 >>> ((52 : Int32) &&& 0x3f).toInt64)))] rfl (fun h26 W26 A26 => ?_)
  have sz27 : n0 ≤ h26.size := (Nat.le_trans sz24 (Nat.le_of_eq W26.size.symm))
  have Kp28 : Keep h0 h26 [r] := Kp25.wr W26 (Or.inl (List.mem_of_getElem? (i := 0) rfl))
  obtain ⟨vv, nn, h1, h2, h3⟩ := own_ms5 (f := (5 : Int64)) (by decide) ha la hv1 hv2 hv3 hv4 hv5 hv6 hv7 hv8 hv9 hv10 hv11 hv12 hv13
  exact s_ret0 C d4_199 (by decide) (by decide) ⟨Kp28, _, _, _, _, _, _, A26, h1, h2, nn, h3⟩
set_option maxRecDepth 65536 in
set_option maxHeartbeats 40000000 in
theorem c_ms6 (l : Launch) (Z : State) (a0 : Array Value) (hw : Hw a0 Z) (r a : Addr) (r0 r1 r2 r3 r4 ua0 ua1 ua2 ua3 ua4 : Int64) (va : Int) (h0 : Heap) (n0 : Nat) (Z0 : n0 ≤ h0.size) (g_r : n0 ≤ r) (V_r : Av Z h0 r .long [(.long r0), (.long r1), (.long r2), (.long r3), (.long r4)]) (V_a : Av Z h0 a .long [(.long ua0), (.long ua1), (.long ua2), (.long ua3), (.long ua4)]) (ha : Nrm ua0 ua1 ua2 ua3 ua4 va) (la : va < 231584178420712497525394893898815147060172286830580628391067262617734195707902) :
    Met l Z (⟨"org/subveil/Secp256r1Field", "multiplySmall", "([J[JI)V"⟩ : MethodName) prog_45_method_15_code 15 none [] ({ frames := 0, cells := 0, slots := 0, locals := 0 } : Room) #[(.ref r), (.ref a), (.int (6 : Int32))] h0 n0 (Ret0 (fun h => Keep h0 h [r] ∧ ∃ (z0 z1 z2 z3 z4 : Int64) (v : Int), Av Z h r .long [.long z0, .long z1, .long z2, .long z3, .long z4] ∧ Nrm z0 z1 z2 z3 z4 v ∧ v < 231584178420712497525394893898815147060172286830580628391067262617734195707902 ∧ ∃ n : Int, v = 6 * va - n * 115792089210356248762697446949407573530086143415290314195533631308867097853951)) := by
  refine Met.intro pn4 (own := "org/subveil/Secp256r1Field") rfl (nm := "multiplySmall") rfl (fun m => ef4 m r a (6 : Int32)) ?_
  intro p e s m below meth c C
  refine s_aloadN C d4_0 (pc' := 1) rfl rfl rfl ?_
  refine s_iconst C d4_1 (pc' := 2) rfl (0 : Int32) rfl ?_
  refine s_laload C d4_2 (pc' := 3) rfl V_a 0 (by decide) rfl ?_
  refine s_iloadN C d4_3 (pc' := 4) rfl rfl ?_
  refine s_i2l C d4_4 (pc' := 5) rfl ?_
  refine s_foldL C (y := (6 : Int64)) (by decide) ?_
  refine s_lmul C d4_5 (pc' := 6) rfl ?_
  refine s_lstoreN C d4_6 (pc' := 7) rfl (fun y => #[.val (.ref r), .val (.ref a), .val (.int (6 : Int32)), .val (.long y), .second, .unset, .unset, .unset, .unset, .unset, .unset, .unset, .unset, .unset, .unset]) (fun _ => rfl) (fun v1 hv1 => ?_)
  refine s_aloadN C d4_7 (pc' := 8) rfl rfl rfl ?_
  refine s_iconst C d4_8 (pc' := 9) rfl (1 : Int32) rfl ?_
  refine s_laload C d4_9 (pc' := 10) rfl V_a 1 (by decide) rfl ?_
  refine s_iloadN C d4_10 (pc' := 11) rfl rfl ?_
  refine s_i2l C d4_11 (pc' := 12) rfl ?_
  refine s_foldL C (y := (6 : Int64)) (by decide) ?_
  refine s_lmul C d4_12 (pc' := 13) rfl ?_
  refine s_lloadN C d4_13 (pc' := 14) rfl rfl ?_
  refine s_bipush C d4_14 (pc' := 16) rfl (52 : Int32) rfl ?_
  refine s_lshr C d4_16 (pc' := 17) rfl ?_
  refine s_ladd C d4_17 (pc' := 18) rfl ?_
  refine s_lstore C d4_18 (pc' := 20) rfl (fun y => #[.val (.ref r), .val (.ref a), .val (.int (6 : Int32)), .val (.long v1), .second, .val (.long y), .second, .unset, .unset, .unset, .unset, .unset, .unset, .unset, .unset]) (fun _ => rfl) (fun v2 hv2 => ?_)
  refine s_aloadN C d4_20 (pc' := 21) rfl rfl rfl ?_
  refine s_iconst C d4_21 (pc' := 22) rfl (2 : Int32) rfl ?_
  refine s_laload C d4_22 (pc' := 23) rfl V_a 2 (by decide) rfl ?_
  refine s_iloadN C d4_23 (pc' := 24) rfl rfl ?_
  refine s_i2l C d4_24 (pc' := 25) rfl ?_
  refine s_foldL C (y := (6 : Int64)) (by decide) ?_
  refine s_lmul C d4_25 (pc' := 26) rfl ?_
  refine s_lload C d4_26 (pc' := 28) rfl rfl ?_
  refine s_bipush C d4_28 (pc' := 30) rfl (52 : Int32) rfl ?_
  refine s_lshr C d4_30 (pc' := 31) rfl ?_
  refine s_ladd C d4_31 (pc' := 32) rfl ?_
  refine s_lstore C d4_32 (pc' := 34) rfl (fun y => #[.val (.ref r), .val (.ref a), .val (.int (6 : Int32)), .val (.long v1), .second, .val (.long v2), .second, .val (.long y), .second, .unset, .unset, .unset, .unset, .unset, .unset]) (fun _ => rfl) (fun v3 hv3 => ?_)
  refine s_aloadN C d4_34 (pc' := 35) rfl rfl rfl ?_
  refine s_iconst C d4_35 (pc' := 36) rfl (3 : Int32) rfl ?_
  refine s_laload C d4_36 (pc' := 37) rfl V_a 3 (by decide) rfl ?_
  refine s_iloadN C d4_37 (pc' := 38) rfl rfl ?_
  refine s_i2l C d4_38 (pc' := 39) rfl ?_
  refine s_foldL C (y := (6 : Int64)) (by decide) ?_
  refine s_lmul C d4_39 (pc' := 40) rfl ?_
  refine s_lload C d4_40 (pc' := 42) rfl rfl ?_
  refine s_bipush C d4_42 (pc' := 44) rfl (52 : Int32) rfl ?_
  refine s_lshr C d4_44 (pc' := 45) rfl ?_
  refine s_ladd C d4_45 (pc' := 46) rfl ?_
  refine s_lstore C d4_46 (pc' := 48) rfl (fun y => #[.val (.ref r), .val (.ref a), .val (.int (6 : Int32)), .val (.long v1), .second, .val (.long v2), .second, .val (.long v3), .second, .val (.long y), .second, .unset, .unset, .unset, .unset]) (fun _ => rfl) (fun v4 hv4 => ?_)
  refine s_aloadN C d4_48 (pc' := 49) rfl rfl rfl ?_
  refine s_iconst C d4_49 (pc' := 50) rfl (4 : Int32) rfl ?_
  refine s_laload C d4_50 (pc' := 51) rfl V_a 4 (by decide) rfl ?_
  refine s_iloadN C d4_51 (pc' := 52) rfl rfl ?_
  refine s_i2l C d4_52 (pc' := 53) rfl ?_
  refine s_foldL C (y := (6 : Int64)) (by decide) ?_
  refine s_lmul C d4_53 (pc' := 54) rfl ?_
  refine s_lload C d4_54 (pc' := 56) rfl rfl ?_
  refine s_bipush C d4_56 (pc' := 58) rfl (52 : Int32) rfl ?_
  refine s_lshr C d4_58 (pc' := 59) rfl ?_
  refine s_ladd C d4_59 (pc' := 60) rfl ?_
  refine s_lstore C d4_60 (pc' := 62) rfl (fun y => #[.val (.ref r), .val (.ref a), .val (.int (6 : Int32)), .val (.long v1), .second, .val (.long v2), .second, .val (.long v3), .second, .val (.long v4), .second, .val (.long y), .second, .unset, .unset]) (fun _ => rfl) (fun v5 hv5 => ?_)
  refine s_lload C d4_62 (pc' := 64) rfl rfl ?_
  refine s_bipush C d4_64 (pc' := 66) rfl (48 : Int32) rfl ?_
  refine s_lshr C d4_66 (pc' := 67) rfl ?_
  refine s_lstore C d4_67 (pc' := 69) rfl (fun y => #[.val (.ref r), .val (.ref a), .val (.int (6 : Int32)), .val (.long v1), .second, .val (.long v2), .second, .val (.long v3), .second, .val (.long v4), .second, .val (.long v5), .second, .val (.long y), .second]) (fun _ => rfl) (fun v6 hv6 => ?_)
  refine s_lloadN C d4_69 (pc' := 70) rfl rfl ?_
  refine s_ldc2 C d4_70 (pc' := 73) rfl (w17 hw) ?_
  refine s_land C d4_73 (pc' := 74) rfl ?_
  refine s_lload C d4_74 (pc' := 76) rfl rfl ?_
  refine s_ladd C d4_76 (pc' := 77) rfl ?_
  refine s_lstoreN C d4_77 (pc' := 78) rfl (fun y => #[.val (.ref r), .val (.ref a), .val (.int (6 : Int32)), .val (.long y), .second, .val (.long v2), .second, .val (.long v3), .second, .val (.long v4), .second, .val (.long v5), .second, .val (.long v6), .second]) (fun _ => rfl) (fun v7 hv7 => ?_)
  refine s_lload C d4_78 (pc' := 80) rfl rfl ?_
  refine s_ldc2 C d4_80 (pc' := 83) rfl (w17 hw) ?_
  refine s_land C d4_83 (pc' := 84) rfl ?_
  refine s_lload C d4_84 (pc' := 86) rfl rfl ?_
  refine s_bipush C d4_86 (pc' := 88) rfl (44 : Int32) rfl ?_
  refine s_lshl C d4_88 (pc' := 89) rfl ?_
  refine s_lsub C d4_89 (pc' := 90) rfl ?_
  refine s_lstore C d4_90 (pc' := 92) rfl (fun y => #[.val (.ref r), .val (.ref a), .val (.int (6 : Int32)), .val (.long v7), .second, .val (.long y), .second, .val (.long v3), .second, .val (.long v4), .second, .val (.long v5), .second, .val (.long v6), .second]) (fun _ => rfl) (fun v8 hv8 => ?_)
  refine s_lload C d4_92 (pc' := 94) rfl rfl ?_
  refine s_ldc2 C d4_94 (pc' := 97) rfl (w17 hw) ?_
  refine s_land C d4_97 (pc' := 98) rfl ?_
  refine s_lload C d4_98 (pc' := 100) rfl rfl ?_
  refine s_bipush C d4_100 (pc' := 102) rfl (36 : Int32) rfl ?_
  refine s_lshl C d4_102 (pc' := 103) rfl ?_
  refine s_lsub C d4_103 (pc' := 104) rfl ?_
  refine s_lstore C d4_104 (pc' := 106) rfl (fun y => #[.val (.ref r), .val (.ref a), .val (.int (6 : Int32)), .val (.long v7), .second, .val (.long v8), .second, .val (.long v3), .second, .val (.long y), .second, .val (.long v5), .second, .val (.long v6), .second]) (fun _ => rfl) (fun v9 hv9 => ?_)
  refine s_lload C d4_106 (pc' := 108) rfl rfl ?_
  refine s_ldc2 C d4_108 (pc' := 111) rfl (w25 hw) ?_
  refine s_land C d4_111 (pc' := 112) rfl ?_
  refine s_lload C d4_112 (pc' := 114) rfl rfl ?_
  refine s_bipush C d4_114 (pc' := 116) rfl (16 : Int32) rfl ?_
  refine s_lshl C d4_116 (pc' := 117) rfl ?_
  refine s_ladd C d4_117 (pc' := 118) rfl ?_
  refine s_lstore C d4_118 (pc' := 120) rfl (fun y => #[.val (.ref r), .val (.ref a), .val (.int (6 : Int32)), .val (.long v7), .second, .val (.long v8), .second, .val (.long v3), .second, .val (.long v9), .second, .val (.long y), .second, .val (.long v6), .second]) (fun _ => rfl) (fun v10 hv10 => ?_)
  refine s_lload C d4_120 (pc' := 122) rfl rfl ?_
  refine s_lloadN C d4_122 (pc' := 123) rfl rfl ?_
  refine s_bipush C d4_123 (pc' := 125) rfl (52 : Int32) rfl ?_
  refine s_lshr C d4_125 (pc' := 126) rfl ?_
  refine s_ladd C d4_126 (pc' := 127) rfl ?_
  refine s_lstore C d4_127 (pc' := 129) rfl (fun y => #[.val (.ref r), .val (.ref a), .val (.int (6 : Int32)), .val (.long v7), .second, .val (.long y), .second, .val (.long v3), .second, .val (.long v9), .second, .val (.long v10), .second, .val (.long v6), .second]) (fun _ => rfl) (fun v11 hv11 => ?_)
  refine s_lload C d4_129 (pc' := 131) rfl rfl ?_
  refine s_ldc2 C d4_131 (pc' := 134) rfl (w17 hw) ?_
  refine s_land C d4_134 (pc' := 135) rfl ?_
  refine s_lload C d4_135 (pc' := 137) rfl rfl ?_
  refine s_bipush C d4_137 (pc' := 139) rfl (52 : Int32) rfl ?_
  refine s_lshr C d4_139 (pc' := 140) rfl ?_
  refine s_ladd C d4_140 (pc' := 141) rfl ?_
  refine s_lstore C d4_141 (pc' := 143) rfl (fun y => #[.val (.ref r), .val (.ref a), .val (.int (6 : Int32)), .val (.long v7), .second, .val (.long v11), .second, .val (.long y), .second, .val (.long v9), .second, .val (.long v10), .second, .val (.long v6), .second]) (fun _ => rfl) (fun v12 hv12 => ?_)
  refine s_lload C d4_143 (pc' := 145) rfl rfl ?_
  refine s_lload C d4_145 (pc' := 147) rfl rfl ?_
  refine s_bipush C d4_147 (pc' := 149) rfl (52 : Int32) rfl ?_
  refine s_lshr C d4_149 (pc' := 150) rfl ?_
  refine s_ladd C d4_150 (pc' := 151) rfl ?_
  refine s_lstore C d4_151 (pc' := 153) rfl (fun y => #[.val (.ref r), .val (.ref a), .val (.int (6 : Int32)), .val (.long v7), .second, .val (.long v11), .second, .val (.long v12), .second, .val (.long y), .second, .val (.long v10), .second, .val (.long v6), .second]) (fun _ => rfl) (fun v13 hv13 => ?_)
  refine s_aloadN C d4_153 (pc' := 154) rfl rfl rfl ?_
  refine s_iconst C d4_154 (pc' := 155) rfl (0 : Int32) rfl ?_
  refine s_lloadN C d4_155 (pc' := 156) rfl rfl ?_
  refine s_ldc2 C d4_156 (pc' := 159) rfl (w17 hw) ?_
  refine s_land C d4_159 (pc' := 160) rfl ?_
  refine s_lastore C d4_160 (pc' := 161) rfl V_r 0 (by decide) (Nat.le_of_ble_eq_true rfl) g_r [(.long (v7 &&& (4503599627370495 : Int64))), (.long r1), (.long r2), (.long r3), (.long r4)] rfl (fun h14 W14 A14 => ?_)
  have sz15 : n0 ≤ h14.size := (Nat.le_trans Z0 (Nat.le_of_eq W14.size.symm))
  have Kp16 : Keep h0 h14 [r] := (Keep.refl h0 [r]).wr W14 (Or.inl (List.mem_of_getElem? (i := 0) rfl))
  refine s_aloadN C d4_161 (pc' := 162) rfl rfl rfl ?_
  refine s_iconst C d4_162 (pc' := 163) rfl (1 : Int32) rfl ?_
  refine s_lload C d4_163 (pc' := 165) rfl rfl ?_
  refine s_ldc2 C d4_165 (pc' := 168) rfl (w17 hw) ?_
  refine s_land C d4_168 (pc' := 169) rfl ?_
  refine s_lastore C d4_169 (pc' := 170) rfl A14 1 (by decide) (Nat.le_of_ble_eq_true rfl) g_r [(.long (v7 &&& (4503599627370495 : Int64))), (.long (v11 &&& (4503599627370495 : Int64))), (.long r2), (.long r3), (.long r4)] rfl (fun h17 W17 A17 => ?_)
  have sz18 : n0 ≤ h17.size := (Nat.le_trans sz15 (Nat.le_of_eq W17.size.symm))
  have Kp19 : Keep h0 h17 [r] := Kp16.wr W17 (Or.inl (List.mem_of_getElem? (i := 0) rfl))
  refine s_aloadN C d4_170 (pc' := 171) rfl rfl rfl ?_
  refine s_iconst C d4_171 (pc' := 172) rfl (2 : Int32) rfl ?_
  refine s_lload C d4_172 (pc' := 174) rfl rfl ?_
  refine s_ldc2 C d4_174 (pc' := 177) rfl (w17 hw) ?_
  refine s_land C d4_177 (pc' := 178) rfl ?_
  refine s_lastore C d4_178 (pc' := 179) rfl A17 2 (by decide) (Nat.le_of_ble_eq_true rfl) g_r [(.long (v7 &&& (4503599627370495 : Int64))), (.long (v11 &&& (4503599627370495 : Int64))), (.long (v12 &&& (4503599627370495 : Int64))), (.long r3), (.long r4)] rfl (fun h20 W20 A20 => ?_)
  have sz21 : n0 ≤ h20.size := (Nat.le_trans sz18 (Nat.le_of_eq W20.size.symm))
  have Kp22 : Keep h0 h20 [r] := Kp19.wr W20 (Or.inl (List.mem_of_getElem? (i := 0) rfl))
  refine s_aloadN C d4_179 (pc' := 180) rfl rfl rfl ?_
  refine s_iconst C d4_180 (pc' := 181) rfl (3 : Int32) rfl ?_
  refine s_lload C d4_181 (pc' := 183) rfl rfl ?_
  refine s_ldc2 C d4_183 (pc' := 186) rfl (w17 hw) ?_
  refine s_land C d4_186 (pc' := 187) rfl ?_
  refine s_lastore C d4_187 (pc' := 188) rfl A20 3 (by decide) (Nat.le_of_ble_eq_true rfl) g_r [(.long (v7 &&& (4503599627370495 : Int64))), (.long (v11 &&& (4503599627370495 : Int64))), (.long (v12 &&& (4503599627370495 : Int64))), (.long (v13 &&& (4503599627370495 : Int64))), (.long r4)] rfl (fun h23 W23 A23 => ?_)
  have sz24 : n0 ≤ h23.size := (Nat.le_trans sz21 (Nat.le_of_eq W23.size.symm))
  have Kp25 : Keep h0 h23 [r] := Kp22.wr W23 (Or.inl (List.mem_of_getElem? (i := 0) rfl))
  refine s_aloadN C d4_188 (pc' := 189) rfl rfl rfl ?_
  refine s_iconst C d4_189 (pc' := 190) rfl (4 : Int32) rfl ?_
  refine s_lload C d4_190 (pc' := 192) rfl rfl ?_
  refine s_lload C d4_192 (pc' := 194) rfl rfl ?_
  refine s_bipush C d4_194 (pc' := 196) rfl (52 : Int32) rfl ?_
  refine s_lshr C d4_196 (pc' := 197) rfl ?_
  refine s_ladd C d4_197 (pc' := 198) rfl ?_
  refine s_lastore C d4_198 (pc' := 199) rfl A23 4 (by decide) (Nat.le_of_ble_eq_true rfl) g_r [(.long (v7 &&& (4503599627370495 : Int64))), (.long (v11 &&& (4503599627370495 : Int64))), (.long (v12 &&& (4503599627370495 : Int64))), (.long (v13 &&& (4503599627370495 : Int64))), (.long (v10 + (v13 >>> ((52 : Int32) &&& 0x3f).toInt64)))] rfl (fun h26 W26 A26 => ?_)
  have sz27 : n0 ≤ h26.size := (Nat.le_trans sz24 (Nat.le_of_eq W26.size.symm))
  have Kp28 : Keep h0 h26 [r] := Kp25.wr W26 (Or.inl (List.mem_of_getElem? (i := 0) rfl))
  obtain ⟨vv, nn, h1, h2, h3⟩ := own_ms6 (f := (6 : Int64)) (by decide) ha la hv1 hv2 hv3 hv4 hv5 hv6 hv7 hv8 hv9 hv10 hv11 hv12 hv13
  exact s_ret0 C d4_199 (by decide) (by decide) ⟨Kp28, _, _, _, _, _, _, A26, h1, h2, nn, h3⟩
set_option maxRecDepth 65536 in
set_option maxHeartbeats 40000000 in
theorem c_ms7 (l : Launch) (Z : State) (a0 : Array Value) (hw : Hw a0 Z) (r a : Addr) (r0 r1 r2 r3 r4 ua0 ua1 ua2 ua3 ua4 : Int64) (va : Int) (h0 : Heap) (n0 : Nat) (Z0 : n0 ≤ h0.size) (g_r : n0 ≤ r) (V_r : Av Z h0 r .long [(.long r0), (.long r1), (.long r2), (.long r3), (.long r4)]) (V_a : Av Z h0 a .long [(.long ua0), (.long ua1), (.long ua2), (.long ua3), (.long ua4)]) (ha : Nrm ua0 ua1 ua2 ua3 ua4 va) (la : va < 231584178420712497525394893898815147060172286830580628391067262617734195707902) :
    Met l Z (⟨"org/subveil/Secp256r1Field", "multiplySmall", "([J[JI)V"⟩ : MethodName) prog_45_method_15_code 15 none [] ({ frames := 0, cells := 0, slots := 0, locals := 0 } : Room) #[(.ref r), (.ref a), (.int (7 : Int32))] h0 n0 (Ret0 (fun h => Keep h0 h [r] ∧ ∃ (z0 z1 z2 z3 z4 : Int64) (v : Int), Av Z h r .long [.long z0, .long z1, .long z2, .long z3, .long z4] ∧ Nrm z0 z1 z2 z3 z4 v ∧ v < 231584178420712497525394893898815147060172286830580628391067262617734195707902 ∧ ∃ n : Int, v = 7 * va - n * 115792089210356248762697446949407573530086143415290314195533631308867097853951)) := by
  refine Met.intro pn4 (own := "org/subveil/Secp256r1Field") rfl (nm := "multiplySmall") rfl (fun m => ef4 m r a (7 : Int32)) ?_
  intro p e s m below meth c C
  refine s_aloadN C d4_0 (pc' := 1) rfl rfl rfl ?_
  refine s_iconst C d4_1 (pc' := 2) rfl (0 : Int32) rfl ?_
  refine s_laload C d4_2 (pc' := 3) rfl V_a 0 (by decide) rfl ?_
  refine s_iloadN C d4_3 (pc' := 4) rfl rfl ?_
  refine s_i2l C d4_4 (pc' := 5) rfl ?_
  refine s_foldL C (y := (7 : Int64)) (by decide) ?_
  refine s_lmul C d4_5 (pc' := 6) rfl ?_
  refine s_lstoreN C d4_6 (pc' := 7) rfl (fun y => #[.val (.ref r), .val (.ref a), .val (.int (7 : Int32)), .val (.long y), .second, .unset, .unset, .unset, .unset, .unset, .unset, .unset, .unset, .unset, .unset]) (fun _ => rfl) (fun v1 hv1 => ?_)
  refine s_aloadN C d4_7 (pc' := 8) rfl rfl rfl ?_
  refine s_iconst C d4_8 (pc' := 9) rfl (1 : Int32) rfl ?_
  refine s_laload C d4_9 (pc' := 10) rfl V_a 1 (by decide) rfl ?_
  refine s_iloadN C d4_10 (pc' := 11) rfl rfl ?_
  refine s_i2l C d4_11 (pc' := 12) rfl ?_
  refine s_foldL C (y := (7 : Int64)) (by decide) ?_
  refine s_lmul C d4_12 (pc' := 13) rfl ?_
  refine s_lloadN C d4_13 (pc' := 14) rfl rfl ?_
  refine s_bipush C d4_14 (pc' := 16) rfl (52 : Int32) rfl ?_
  refine s_lshr C d4_16 (pc' := 17) rfl ?_
  refine s_ladd C d4_17 (pc' := 18) rfl ?_
  refine s_lstore C d4_18 (pc' := 20) rfl (fun y => #[.val (.ref r), .val (.ref a), .val (.int (7 : Int32)), .val (.long v1), .second, .val (.long y), .second, .unset, .unset, .unset, .unset, .unset, .unset, .unset, .unset]) (fun _ => rfl) (fun v2 hv2 => ?_)
  refine s_aloadN C d4_20 (pc' := 21) rfl rfl rfl ?_
  refine s_iconst C d4_21 (pc' := 22) rfl (2 : Int32) rfl ?_
  refine s_laload C d4_22 (pc' := 23) rfl V_a 2 (by decide) rfl ?_
  refine s_iloadN C d4_23 (pc' := 24) rfl rfl ?_
  refine s_i2l C d4_24 (pc' := 25) rfl ?_
  refine s_foldL C (y := (7 : Int64)) (by decide) ?_
  refine s_lmul C d4_25 (pc' := 26) rfl ?_
  refine s_lload C d4_26 (pc' := 28) rfl rfl ?_
  refine s_bipush C d4_28 (pc' := 30) rfl (52 : Int32) rfl ?_
  refine s_lshr C d4_30 (pc' := 31) rfl ?_
  refine s_ladd C d4_31 (pc' := 32) rfl ?_
  refine s_lstore C d4_32 (pc' := 34) rfl (fun y => #[.val (.ref r), .val (.ref a), .val (.int (7 : Int32)), .val (.long v1), .second, .val (.long v2), .second, .val (.long y), .second, .unset, .unset, .unset, .unset, .unset, .unset]) (fun _ => rfl) (fun v3 hv3 => ?_)
  refine s_aloadN C d4_34 (pc' := 35) rfl rfl rfl ?_
  refine s_iconst C d4_35 (pc' := 36) rfl (3 : Int32) rfl ?_
  refine s_laload C d4_36 (pc' := 37) rfl V_a 3 (by decide) rfl ?_
  refine s_iloadN C d4_37 (pc' := 38) rfl rfl ?_
  refine s_i2l C d4_38 (pc' := 39) rfl ?_
  refine s_foldL C (y := (7 : Int64)) (by decide) ?_
  refine s_lmul C d4_39 (pc' := 40) rfl ?_
  refine s_lload C d4_40 (pc' := 42) rfl rfl ?_
  refine s_bipush C d4_42 (pc' := 44) rfl (52 : Int32) rfl ?_
  refine s_lshr C d4_44 (pc' := 45) rfl ?_
  refine s_ladd C d4_45 (pc' := 46) rfl ?_
  refine s_lstore C d4_46 (pc' := 48) rfl (fun y => #[.val (.ref r), .val (.ref a), .val (.int (7 : Int32)), .val (.long v1), .second, .val (.long v2), .second, .val (.long v3), .second, .val (.long y), .second, .unset, .unset, .unset, .unset]) (fun _ => rfl) (fun v4 hv4 => ?_)
  refine s_aloadN C d4_48 (pc' := 49) rfl rfl rfl ?_
  refine s_iconst C d4_49 (pc' := 50) rfl (4 : Int32) rfl ?_
  refine s_laload C d4_50 (pc' := 51) rfl V_a 4 (by decide) rfl ?_
  refine s_iloadN C d4_51 (pc' := 52) rfl rfl ?_
  refine s_i2l C d4_52 (pc' := 53) rfl ?_
  refine s_foldL C (y := (7 : Int64)) (by decide) ?_
  refine s_lmul C d4_53 (pc' := 54) rfl ?_
  refine s_lload C d4_54 (pc' := 56) rfl rfl ?_
  refine s_bipush C d4_56 (pc' := 58) rfl (52 : Int32) rfl ?_
  refine s_lshr C d4_58 (pc' := 59) rfl ?_
  refine s_ladd C d4_59 (pc' := 60) rfl ?_
  refine s_lstore C d4_60 (pc' := 62) rfl (fun y => #[.val (.ref r), .val (.ref a), .val (.int (7 : Int32)), .val (.long v1), .second, .val (.long v2), .second, .val (.long v3), .second, .val (.long v4), .second, .val (.long y), .second, .unset, .unset]) (fun _ => rfl) (fun v5 hv5 => ?_)
  refine s_lload C d4_62 (pc' := 64) rfl rfl ?_
  refine s_bipush C d4_64 (pc' := 66) rfl (48 : Int32) rfl ?_
  refine s_lshr C d4_66 (pc' := 67) rfl ?_
  refine s_lstore C d4_67 (pc' := 69) rfl (fun y => #[.val (.ref r), .val (.ref a), .val (.int (7 : Int32)), .val (.long v1), .second, .val (.long v2), .second, .val (.long v3), .second, .val (.long v4), .second, .val (.long v5), .second, .val (.long y), .second]) (fun _ => rfl) (fun v6 hv6 => ?_)
  refine s_lloadN C d4_69 (pc' := 70) rfl rfl ?_
  refine s_ldc2 C d4_70 (pc' := 73) rfl (w17 hw) ?_
  refine s_land C d4_73 (pc' := 74) rfl ?_
  refine s_lload C d4_74 (pc' := 76) rfl rfl ?_
  refine s_ladd C d4_76 (pc' := 77) rfl ?_
  refine s_lstoreN C d4_77 (pc' := 78) rfl (fun y => #[.val (.ref r), .val (.ref a), .val (.int (7 : Int32)), .val (.long y), .second, .val (.long v2), .second, .val (.long v3), .second, .val (.long v4), .second, .val (.long v5), .second, .val (.long v6), .second]) (fun _ => rfl) (fun v7 hv7 => ?_)
  refine s_lload C d4_78 (pc' := 80) rfl rfl ?_
  refine s_ldc2 C d4_80 (pc' := 83) rfl (w17 hw) ?_
  refine s_land C d4_83 (pc' := 84) rfl ?_
  refine s_lload C d4_84 (pc' := 86) rfl rfl ?_
  refine s_bipush C d4_86 (pc' := 88) rfl (44 : Int32) rfl ?_
  refine s_lshl C d4_88 (pc' := 89) rfl ?_
  refine s_lsub C d4_89 (pc' := 90) rfl ?_
  refine s_lstore C d4_90 (pc' := 92) rfl (fun y => #[.val (.ref r), .val (.ref a), .val (.int (7 : Int32)), .val (.long v7), .second, .val (.long y), .second, .val (.long v3), .second, .val (.long v4), .second, .val (.long v5), .second, .val (.long v6), .second]) (fun _ => rfl) (fun v8 hv8 => ?_)
  refine s_lload C d4_92 (pc' := 94) rfl rfl ?_
  refine s_ldc2 C d4_94 (pc' := 97) rfl (w17 hw) ?_
  refine s_land C d4_97 (pc' := 98) rfl ?_
  refine s_lload C d4_98 (pc' := 100) rfl rfl ?_
  refine s_bipush C d4_100 (pc' := 102) rfl (36 : Int32) rfl ?_
  refine s_lshl C d4_102 (pc' := 103) rfl ?_
  refine s_lsub C d4_103 (pc' := 104) rfl ?_
  refine s_lstore C d4_104 (pc' := 106) rfl (fun y => #[.val (.ref r), .val (.ref a), .val (.int (7 : Int32)), .val (.long v7), .second, .val (.long v8), .second, .val (.long v3), .second, .val (.long y), .second, .val (.long v5), .second, .val (.long v6), .second]) (fun _ => rfl) (fun v9 hv9 => ?_)
  refine s_lload C d4_106 (pc' := 108) rfl rfl ?_
  refine s_ldc2 C d4_108 (pc' := 111) rfl (w25 hw) ?_
  refine s_land C d4_111 (pc' := 112) rfl ?_
  refine s_lload C d4_112 (pc' := 114) rfl rfl ?_
  refine s_bipush C d4_114 (pc' := 116) rfl (16 : Int32) rfl ?_
  refine s_lshl C d4_116 (pc' := 117) rfl ?_
  refine s_ladd C d4_117 (pc' := 118) rfl ?_
  refine s_lstore C d4_118 (pc' := 120) rfl (fun y => #[.val (.ref r), .val (.ref a), .val (.int (7 : Int32)), .val (.long v7), .second, .val (.long v8), .second, .val (.long v3), .second, .val (.long v9), .second, .val (.long y), .second, .val (.long v6), .second]) (fun _ => rfl) (fun v10 hv10 => ?_)
  refine s_lload C d4_120 (pc' := 122) rfl rfl ?_
  refine s_lloadN C d4_122 (pc' := 123) rfl rfl ?_
  refine s_bipush C d4_123 (pc' := 125) rfl (52 : Int32) rfl ?_
  refine s_lshr C d4_125 (pc' := 126) rfl ?_
  refine s_ladd C d4_126 (pc' := 127) rfl ?_
  refine s_lstore C d4_127 (pc' := 129) rfl (fun y => #[.val (.ref r), .val (.ref a), .val (.int (7 : Int32)), .val (.long v7), .second, .val (.long y), .second, .val (.long v3), .second, .val (.long v9), .second, .val (.long v10), .second, .val (.long v6), .second]) (fun _ => rfl) (fun v11 hv11 => ?_)
  refine s_lload C d4_129 (pc' := 131) rfl rfl ?_
  refine s_ldc2 C d4_131 (pc' := 134) rfl (w17 hw) ?_
  refine s_land C d4_134 (pc' := 135) rfl ?_
  refine s_lload C d4_135 (pc' := 137) rfl rfl ?_
  refine s_bipush C d4_137 (pc' := 139) rfl (52 : Int32) rfl ?_
  refine s_lshr C d4_139 (pc' := 140) rfl ?_
  refine s_ladd C d4_140 (pc' := 141) rfl ?_
  refine s_lstore C d4_141 (pc' := 143) rfl (fun y => #[.val (.ref r), .val (.ref a), .val (.int (7 : Int32)), .val (.long v7), .second, .val (.long v11), .second, .val (.long y), .second, .val (.long v9), .second, .val (.long v10), .second, .val (.long v6), .second]) (fun _ => rfl) (fun v12 hv12 => ?_)
  refine s_lload C d4_143 (pc' := 145) rfl rfl ?_
  refine s_lload C d4_145 (pc' := 147) rfl rfl ?_
  refine s_bipush C d4_147 (pc' := 149) rfl (52 : Int32) rfl ?_
  refine s_lshr C d4_149 (pc' := 150) rfl ?_
  refine s_ladd C d4_150 (pc' := 151) rfl ?_
  refine s_lstore C d4_151 (pc' := 153) rfl (fun y => #[.val (.ref r), .val (.ref a), .val (.int (7 : Int32)), .val (.long v7), .second, .val (.long v11), .second, .val (.long v12), .second, .val (.long y), .second, .val (.long v10), .second, .val (.long v6), .second]) (fun _ => rfl) (fun v13 hv13 => ?_)
  refine s_aloadN C d4_153 (pc' := 154) rfl rfl rfl ?_
  refine s_iconst C d4_154 (pc' := 155) rfl (0 : Int32) rfl ?_
  refine s_lloadN C d4_155 (pc' := 156) rfl rfl ?_
  refine s_ldc2 C d4_156 (pc' := 159) rfl (w17 hw) ?_
  refine s_land C d4_159 (pc' := 160) rfl ?_
  refine s_lastore C d4_160 (pc' := 161) rfl V_r 0 (by decide) (Nat.le_of_ble_eq_true rfl) g_r [(.long (v7 &&& (4503599627370495 : Int64))), (.long r1), (.long r2), (.long r3), (.long r4)] rfl (fun h14 W14 A14 => ?_)
  have sz15 : n0 ≤ h14.size := (Nat.le_trans Z0 (Nat.le_of_eq W14.size.symm))
  have Kp16 : Keep h0 h14 [r] := (Keep.refl h0 [r]).wr W14 (Or.inl (List.mem_of_getElem? (i := 0) rfl))
  refine s_aloadN C d4_161 (pc' := 162) rfl rfl rfl ?_
  refine s_iconst C d4_162 (pc' := 163) rfl (1 : Int32) rfl ?_
  refine s_lload C d4_163 (pc' := 165) rfl rfl ?_
  refine s_ldc2 C d4_165 (pc' := 168) rfl (w17 hw) ?_
  refine s_land C d4_168 (pc' := 169) rfl ?_
  refine s_lastore C d4_169 (pc' := 170) rfl A14 1 (by decide) (Nat.le_of_ble_eq_true rfl) g_r [(.long (v7 &&& (4503599627370495 : Int64))), (.long (v11 &&& (4503599627370495 : Int64))), (.long r2), (.long r3), (.long r4)] rfl (fun h17 W17 A17 => ?_)
  have sz18 : n0 ≤ h17.size := (Nat.le_trans sz15 (Nat.le_of_eq W17.size.symm))
  have Kp19 : Keep h0 h17 [r] := Kp16.wr W17 (Or.inl (List.mem_of_getElem? (i := 0) rfl))
  refine s_aloadN C d4_170 (pc' := 171) rfl rfl rfl ?_
  refine s_iconst C d4_171 (pc' := 172) rfl (2 : Int32) rfl ?_
  refine s_lload C d4_172 (pc' := 174) rfl rfl ?_
  refine s_ldc2 C d4_174 (pc' := 177) rfl (w17 hw) ?_
  refine s_land C d4_177 (pc' := 178) rfl ?_
  refine s_lastore C d4_178 (pc' := 179) rfl A17 2 (by decide) (Nat.le_of_ble_eq_true rfl) g_r [(.long (v7 &&& (4503599627370495 : Int64))), (.long (v11 &&& (4503599627370495 : Int64))), (.long (v12 &&& (4503599627370495 : Int64))), (.long r3), (.long r4)] rfl (fun h20 W20 A20 => ?_)
  have sz21 : n0 ≤ h20.size := (Nat.le_trans sz18 (Nat.le_of_eq W20.size.symm))
  have Kp22 : Keep h0 h20 [r] := Kp19.wr W20 (Or.inl (List.mem_of_getElem? (i := 0) rfl))
  refine s_aloadN C d4_179 (pc' := 180) rfl rfl rfl ?_
  refine s_iconst C d4_180 (pc' := 181) rfl (3 : Int32) rfl ?_
  refine s_lload C d4_181 (pc' := 183) rfl rfl ?_
  refine s_ldc2 C d4_183 (pc' := 186) rfl (w17 hw) ?_
  refine s_land C d4_186 (pc' := 187) rfl ?_
  refine s_lastore C d4_187 (pc' := 188) rfl A20 3 (by decide) (Nat.le_of_ble_eq_true rfl) g_r [(.long (v7 &&& (4503599627370495 : Int64))), (.long (v11 &&& (4503599627370495 : Int64))), (.long (v12 &&& (4503599627370495 : Int64))), (.long (v13 &&& (4503599627370495 : Int64))), (.long r4)] rfl (fun h23 W23 A23 => ?_)
  have sz24 : n0 ≤ h23.size := (Nat.le_trans sz21 (Nat.le_of_eq W23.size.symm))
  have Kp25 : Keep h0 h23 [r] := Kp22.wr W23 (Or.inl (List.mem_of_getElem? (i := 0) rfl))
  refine s_aloadN C d4_188 (pc' := 189) rfl rfl rfl ?_
  refine s_iconst C d4_189 (pc' := 190) rfl (4 : Int32) rfl ?_
  refine s_lload C d4_190 (pc' := 192) rfl rfl ?_
  refine s_lload C d4_192 (pc' := 194) rfl rfl ?_
  refine s_bipush C d4_194 (pc' := 196) rfl (52 : Int32) rfl ?_
  refine s_lshr C d4_196 (pc' := 197) rfl ?_
  refine s_ladd C d4_197 (pc' := 198) rfl ?_
  refine s_lastore C d4_198 (pc' := 199) rfl A23 4 (by decide) (Nat.le_of_ble_eq_true rfl) g_r [(.long (v7 &&& (4503599627370495 : Int64))), (.long (v11 &&& (4503599627370495 : Int64))), (.long (v12 &&& (4503599627370495 : Int64))), (.long (v13 &&& (4503599627370495 : Int64))), (.long (v10 + (v13 >>> ((52 : Int32) &&& 0x3f).toInt64)))] rfl (fun h26 W26 A26 => ?_)
  have sz27 : n0 ≤ h26.size := (Nat.le_trans sz24 (Nat.le_of_eq W26.size.symm))
  have Kp28 : Keep h0 h26 [r] := Kp25.wr W26 (Or.inl (List.mem_of_getElem? (i := 0) rfl))
  obtain ⟨vv, nn, h1, h2, h3⟩ := own_ms7 (f := (7 : Int64)) (by decide) ha la hv1 hv2 hv3 hv4 hv5 hv6 hv7 hv8 hv9 hv10 hv11 hv12 hv13
  exact s_ret0 C d4_199 (by decide) (by decide) ⟨Kp28, _, _, _, _, _, _, A26, h1, h2, nn, h3⟩
set_option maxRecDepth 65536 in
set_option maxHeartbeats 40000000 in
theorem c_ms8 (l : Launch) (Z : State) (a0 : Array Value) (hw : Hw a0 Z) (r a : Addr) (r0 r1 r2 r3 r4 ua0 ua1 ua2 ua3 ua4 : Int64) (va : Int) (h0 : Heap) (n0 : Nat) (Z0 : n0 ≤ h0.size) (g_r : n0 ≤ r) (V_r : Av Z h0 r .long [(.long r0), (.long r1), (.long r2), (.long r3), (.long r4)]) (V_a : Av Z h0 a .long [(.long ua0), (.long ua1), (.long ua2), (.long ua3), (.long ua4)]) (ha : Nrm ua0 ua1 ua2 ua3 ua4 va) (la : va < 231584178420712497525394893898815147060172286830580628391067262617734195707902) :
    Met l Z (⟨"org/subveil/Secp256r1Field", "multiplySmall", "([J[JI)V"⟩ : MethodName) prog_45_method_15_code 15 none [] ({ frames := 0, cells := 0, slots := 0, locals := 0 } : Room) #[(.ref r), (.ref a), (.int (8 : Int32))] h0 n0 (Ret0 (fun h => Keep h0 h [r] ∧ ∃ (z0 z1 z2 z3 z4 : Int64) (v : Int), Av Z h r .long [.long z0, .long z1, .long z2, .long z3, .long z4] ∧ Nrm z0 z1 z2 z3 z4 v ∧ v < 231584178420712497525394893898815147060172286830580628391067262617734195707902 ∧ ∃ n : Int, v = 8 * va - n * 115792089210356248762697446949407573530086143415290314195533631308867097853951)) := by
  refine Met.intro pn4 (own := "org/subveil/Secp256r1Field") rfl (nm := "multiplySmall") rfl (fun m => ef4 m r a (8 : Int32)) ?_
  intro p e s m below meth c C
  refine s_aloadN C d4_0 (pc' := 1) rfl rfl rfl ?_
  refine s_iconst C d4_1 (pc' := 2) rfl (0 : Int32) rfl ?_
  refine s_laload C d4_2 (pc' := 3) rfl V_a 0 (by decide) rfl ?_
  refine s_iloadN C d4_3 (pc' := 4) rfl rfl ?_
  refine s_i2l C d4_4 (pc' := 5) rfl ?_
  refine s_foldL C (y := (8 : Int64)) (by decide) ?_
  refine s_lmul C d4_5 (pc' := 6) rfl ?_
  refine s_lstoreN C d4_6 (pc' := 7) rfl (fun y => #[.val (.ref r), .val (.ref a), .val (.int (8 : Int32)), .val (.long y), .second, .unset, .unset, .unset, .unset, .unset, .unset, .unset, .unset, .unset, .unset]) (fun _ => rfl) (fun v1 hv1 => ?_)
  refine s_aloadN C d4_7 (pc' := 8) rfl rfl rfl ?_
  refine s_iconst C d4_8 (pc' := 9) rfl (1 : Int32) rfl ?_
  refine s_laload C d4_9 (pc' := 10) rfl V_a 1 (by decide) rfl ?_
  refine s_iloadN C d4_10 (pc' := 11) rfl rfl ?_
  refine s_i2l C d4_11 (pc' := 12) rfl ?_
  refine s_foldL C (y := (8 : Int64)) (by decide) ?_
  refine s_lmul C d4_12 (pc' := 13) rfl ?_
  refine s_lloadN C d4_13 (pc' := 14) rfl rfl ?_
  refine s_bipush C d4_14 (pc' := 16) rfl (52 : Int32) rfl ?_
  refine s_lshr C d4_16 (pc' := 17) rfl ?_
  refine s_ladd C d4_17 (pc' := 18) rfl ?_
  refine s_lstore C d4_18 (pc' := 20) rfl (fun y => #[.val (.ref r), .val (.ref a), .val (.int (8 : Int32)), .val (.long v1), .second, .val (.long y), .second, .unset, .unset, .unset, .unset, .unset, .unset, .unset, .unset]) (fun _ => rfl) (fun v2 hv2 => ?_)
  refine s_aloadN C d4_20 (pc' := 21) rfl rfl rfl ?_
  refine s_iconst C d4_21 (pc' := 22) rfl (2 : Int32) rfl ?_
  refine s_laload C d4_22 (pc' := 23) rfl V_a 2 (by decide) rfl ?_
  refine s_iloadN C d4_23 (pc' := 24) rfl rfl ?_
  refine s_i2l C d4_24 (pc' := 25) rfl ?_
  refine s_foldL C (y := (8 : Int64)) (by decide) ?_
  refine s_lmul C d4_25 (pc' := 26) rfl ?_
  refine s_lload C d4_26 (pc' := 28) rfl rfl ?_
  refine s_bipush C d4_28 (pc' := 30) rfl (52 : Int32) rfl ?_
  refine s_lshr C d4_30 (pc' := 31) rfl ?_
  refine s_ladd C d4_31 (pc' := 32) rfl ?_
  refine s_lstore C d4_32 (pc' := 34) rfl (fun y => #[.val (.ref r), .val (.ref a), .val (.int (8 : Int32)), .val (.long v1), .second, .val (.long v2), .second, .val (.long y), .second, .unset, .unset, .unset, .unset, .unset, .unset]) (fun _ => rfl) (fun v3 hv3 => ?_)
  refine s_aloadN C d4_34 (pc' := 35) rfl rfl rfl ?_
  refine s_iconst C d4_35 (pc' := 36) rfl (3 : Int32) rfl ?_
  refine s_laload C d4_36 (pc' := 37) rfl V_a 3 (by decide) rfl ?_
  refine s_iloadN C d4_37 (pc' := 38) rfl rfl ?_
  refine s_i2l C d4_38 (pc' := 39) rfl ?_
  refine s_foldL C (y := (8 : Int64)) (by decide) ?_
  refine s_lmul C d4_39 (pc' := 40) rfl ?_
  refine s_lload C d4_40 (pc' := 42) rfl rfl ?_
  refine s_bipush C d4_42 (pc' := 44) rfl (52 : Int32) rfl ?_
  refine s_lshr C d4_44 (pc' := 45) rfl ?_
  refine s_ladd C d4_45 (pc' := 46) rfl ?_
  refine s_lstore C d4_46 (pc' := 48) rfl (fun y => #[.val (.ref r), .val (.ref a), .val (.int (8 : Int32)), .val (.long v1), .second, .val (.long v2), .second, .val (.long v3), .second, .val (.long y), .second, .unset, .unset, .unset, .unset]) (fun _ => rfl) (fun v4 hv4 => ?_)
  refine s_aloadN C d4_48 (pc' := 49) rfl rfl rfl ?_
  refine s_iconst C d4_49 (pc' := 50) rfl (4 : Int32) rfl ?_
  refine s_laload C d4_50 (pc' := 51) rfl V_a 4 (by decide) rfl ?_
  refine s_iloadN C d4_51 (pc' := 52) rfl rfl ?_
  refine s_i2l C d4_52 (pc' := 53) rfl ?_
  refine s_foldL C (y := (8 : Int64)) (by decide) ?_
  refine s_lmul C d4_53 (pc' := 54) rfl ?_
  refine s_lload C d4_54 (pc' := 56) rfl rfl ?_
  refine s_bipush C d4_56 (pc' := 58) rfl (52 : Int32) rfl ?_
  refine s_lshr C d4_58 (pc' := 59) rfl ?_
  refine s_ladd C d4_59 (pc' := 60) rfl ?_
  refine s_lstore C d4_60 (pc' := 62) rfl (fun y => #[.val (.ref r), .val (.ref a), .val (.int (8 : Int32)), .val (.long v1), .second, .val (.long v2), .second, .val (.long v3), .second, .val (.long v4), .second, .val (.long y), .second, .unset, .unset]) (fun _ => rfl) (fun v5 hv5 => ?_)
  refine s_lload C d4_62 (pc' := 64) rfl rfl ?_
  refine s_bipush C d4_64 (pc' := 66) rfl (48 : Int32) rfl ?_
  refine s_lshr C d4_66 (pc' := 67) rfl ?_
  refine s_lstore C d4_67 (pc' := 69) rfl (fun y => #[.val (.ref r), .val (.ref a), .val (.int (8 : Int32)), .val (.long v1), .second, .val (.long v2), .second, .val (.long v3), .second, .val (.long v4), .second, .val (.long v5), .second, .val (.long y), .second]) (fun _ => rfl) (fun v6 hv6 => ?_)
  refine s_lloadN C d4_69 (pc' := 70) rfl rfl ?_
  refine s_ldc2 C d4_70 (pc' := 73) rfl (w17 hw) ?_
  refine s_land C d4_73 (pc' := 74) rfl ?_
  refine s_lload C d4_74 (pc' := 76) rfl rfl ?_
  refine s_ladd C d4_76 (pc' := 77) rfl ?_
  refine s_lstoreN C d4_77 (pc' := 78) rfl (fun y => #[.val (.ref r), .val (.ref a), .val (.int (8 : Int32)), .val (.long y), .second, .val (.long v2), .second, .val (.long v3), .second, .val (.long v4), .second, .val (.long v5), .second, .val (.long v6), .second]) (fun _ => rfl) (fun v7 hv7 => ?_)
  refine s_lload C d4_78 (pc' := 80) rfl rfl ?_
  refine s_ldc2 C d4_80 (pc' := 83) rfl (w17 hw) ?_
  refine s_land C d4_83 (pc' := 84) rfl ?_
  refine s_lload C d4_84 (pc' := 86) rfl rfl ?_
  refine s_bipush C d4_86 (pc' := 88) rfl (44 : Int32) rfl ?_
  refine s_lshl C d4_88 (pc' := 89) rfl ?_
  refine s_lsub C d4_89 (pc' := 90) rfl ?_
  refine s_lstore C d4_90 (pc' := 92) rfl (fun y => #[.val (.ref r), .val (.ref a), .val (.int (8 : Int32)), .val (.long v7), .second, .val (.long y), .second, .val (.long v3), .second, .val (.long v4), .second, .val (.long v5), .second, .val (.long v6), .second]) (fun _ => rfl) (fun v8 hv8 => ?_)
  refine s_lload C d4_92 (pc' := 94) rfl rfl ?_
  refine s_ldc2 C d4_94 (pc' := 97) rfl (w17 hw) ?_
  refine s_land C d4_97 (pc' := 98) rfl ?_
  refine s_lload C d4_98 (pc' := 100) rfl rfl ?_
  refine s_bipush C d4_100 (pc' := 102) rfl (36 : Int32) rfl ?_
  refine s_lshl C d4_102 (pc' := 103) rfl ?_
  refine s_lsub C d4_103 (pc' := 104) rfl ?_
  refine s_lstore C d4_104 (pc' := 106) rfl (fun y => #[.val (.ref r), .val (.ref a), .val (.int (8 : Int32)), .val (.long v7), .second, .val (.long v8), .second, .val (.long v3), .second, .val (.long y), .second, .val (.long v5), .second, .val (.long v6), .second]) (fun _ => rfl) (fun v9 hv9 => ?_)
  refine s_lload C d4_106 (pc' := 108) rfl rfl ?_
  refine s_ldc2 C d4_108 (pc' := 111) rfl (w25 hw) ?_
  refine s_land C d4_111 (pc' := 112) rfl ?_
  refine s_lload C d4_112 (pc' := 114) rfl rfl ?_
  refine s_bipush C d4_114 (pc' := 116) rfl (16 : Int32) rfl ?_
  refine s_lshl C d4_116 (pc' := 117) rfl ?_
  refine s_ladd C d4_117 (pc' := 118) rfl ?_
  refine s_lstore C d4_118 (pc' := 120) rfl (fun y => #[.val (.ref r), .val (.ref a), .val (.int (8 : Int32)), .val (.long v7), .second, .val (.long v8), .second, .val (.long v3), .second, .val (.long v9), .second, .val (.long y), .second, .val (.long v6), .second]) (fun _ => rfl) (fun v10 hv10 => ?_)
  refine s_lload C d4_120 (pc' := 122) rfl rfl ?_
  refine s_lloadN C d4_122 (pc' := 123) rfl rfl ?_
  refine s_bipush C d4_123 (pc' := 125) rfl (52 : Int32) rfl ?_
  refine s_lshr C d4_125 (pc' := 126) rfl ?_
  refine s_ladd C d4_126 (pc' := 127) rfl ?_
  refine s_lstore C d4_127 (pc' := 129) rfl (fun y => #[.val (.ref r), .val (.ref a), .val (.int (8 : Int32)), .val (.long v7), .second, .val (.long y), .second, .val (.long v3), .second, .val (.long v9), .second, .val (.long v10), .second, .val (.long v6), .second]) (fun _ => rfl) (fun v11 hv11 => ?_)
  refine s_lload C d4_129 (pc' := 131) rfl rfl ?_
  refine s_ldc2 C d4_131 (pc' := 134) rfl (w17 hw) ?_
  refine s_land C d4_134 (pc' := 135) rfl ?_
  refine s_lload C d4_135 (pc' := 137) rfl rfl ?_
  refine s_bipush C d4_137 (pc' := 139) rfl (52 : Int32) rfl ?_
  refine s_lshr C d4_139 (pc' := 140) rfl ?_
  refine s_ladd C d4_140 (pc' := 141) rfl ?_
  refine s_lstore C d4_141 (pc' := 143) rfl (fun y => #[.val (.ref r), .val (.ref a), .val (.int (8 : Int32)), .val (.long v7), .second, .val (.long v11), .second, .val (.long y), .second, .val (.long v9), .second, .val (.long v10), .second, .val (.long v6), .second]) (fun _ => rfl) (fun v12 hv12 => ?_)
  refine s_lload C d4_143 (pc' := 145) rfl rfl ?_
  refine s_lload C d4_145 (pc' := 147) rfl rfl ?_
  refine s_bipush C d4_147 (pc' := 149) rfl (52 : Int32) rfl ?_
  refine s_lshr C d4_149 (pc' := 150) rfl ?_
  refine s_ladd C d4_150 (pc' := 151) rfl ?_
  refine s_lstore C d4_151 (pc' := 153) rfl (fun y => #[.val (.ref r), .val (.ref a), .val (.int (8 : Int32)), .val (.long v7), .second, .val (.long v11), .second, .val (.long v12), .second, .val (.long y), .second, .val (.long v10), .second, .val (.long v6), .second]) (fun _ => rfl) (fun v13 hv13 => ?_)
  refine s_aloadN C d4_153 (pc' := 154) rfl rfl rfl ?_
  refine s_iconst C d4_154 (pc' := 155) rfl (0 : Int32) rfl ?_
  refine s_lloadN C d4_155 (pc' := 156) rfl rfl ?_
  refine s_ldc2 C d4_156 (pc' := 159) rfl (w17 hw) ?_
  refine s_land C d4_159 (pc' := 160) rfl ?_
  refine s_lastore C d4_160 (pc' := 161) rfl V_r 0 (by decide) (Nat.le_of_ble_eq_true rfl) g_r [(.long (v7 &&& (4503599627370495 : Int64))), (.long r1), (.long r2), (.long r3), (.long r4)] rfl (fun h14 W14 A14 => ?_)
  have sz15 : n0 ≤ h14.size := (Nat.le_trans Z0 (Nat.le_of_eq W14.size.symm))
  have Kp16 : Keep h0 h14 [r] := (Keep.refl h0 [r]).wr W14 (Or.inl (List.mem_of_getElem? (i := 0) rfl))
  refine s_aloadN C d4_161 (pc' := 162) rfl rfl rfl ?_
  refine s_iconst C d4_162 (pc' := 163) rfl (1 : Int32) rfl ?_
  refine s_lload C d4_163 (pc' := 165) rfl rfl ?_
  refine s_ldc2 C d4_165 (pc' := 168) rfl (w17 hw) ?_
  refine s_land C d4_168 (pc' := 169) rfl ?_
  refine s_lastore C d4_169 (pc' := 170) rfl A14 1 (by decide) (Nat.le_of_ble_eq_true rfl) g_r [(.long (v7 &&& (4503599627370495 : Int64))), (.long (v11 &&& (4503599627370495 : Int64))), (.long r2), (.long r3), (.long r4)] rfl (fun h17 W17 A17 => ?_)
  have sz18 : n0 ≤ h17.size := (Nat.le_trans sz15 (Nat.le_of_eq W17.size.symm))
  have Kp19 : Keep h0 h17 [r] := Kp16.wr W17 (Or.inl (List.mem_of_getElem? (i := 0) rfl))
  refine s_aloadN C d4_170 (pc' := 171) rfl rfl rfl ?_
  refine s_iconst C d4_171 (pc' := 172) rfl (2 : Int32) rfl ?_
  refine s_lload C d4_172 (pc' := 174) rfl rfl ?_
  refine s_ldc2 C d4_174 (pc' := 177) rfl (w17 hw) ?_
  refine s_land C d4_177 (pc' := 178) rfl ?_
  refine s_lastore C d4_178 (pc' := 179) rfl A17 2 (by decide) (Nat.le_of_ble_eq_true rfl) g_r [(.long (v7 &&& (4503599627370495 : Int64))), (.long (v11 &&& (4503599627370495 : Int64))), (.long (v12 &&& (4503599627370495 : Int64))), (.long r3), (.long r4)] rfl (fun h20 W20 A20 => ?_)
  have sz21 : n0 ≤ h20.size := (Nat.le_trans sz18 (Nat.le_of_eq W20.size.symm))
  have Kp22 : Keep h0 h20 [r] := Kp19.wr W20 (Or.inl (List.mem_of_getElem? (i := 0) rfl))
  refine s_aloadN C d4_179 (pc' := 180) rfl rfl rfl ?_
  refine s_iconst C d4_180 (pc' := 181) rfl (3 : Int32) rfl ?_
  refine s_lload C d4_181 (pc' := 183) rfl rfl ?_
  refine s_ldc2 C d4_183 (pc' := 186) rfl (w17 hw) ?_
  refine s_land C d4_186 (pc' := 187) rfl ?_
  refine s_lastore C d4_187 (pc' := 188) rfl A20 3 (by decide) (Nat.le_of_ble_eq_true rfl) g_r [(.long (v7 &&& (4503599627370495 : Int64))), (.long (v11 &&& (4503599627370495 : Int64))), (.long (v12 &&& (4503599627370495 : Int64))), (.long (v13 &&& (4503599627370495 : Int64))), (.long r4)] rfl (fun h23 W23 A23 => ?_)
  have sz24 : n0 ≤ h23.size := (Nat.le_trans sz21 (Nat.le_of_eq W23.size.symm))
  have Kp25 : Keep h0 h23 [r] := Kp22.wr W23 (Or.inl (List.mem_of_getElem? (i := 0) rfl))
  refine s_aloadN C d4_188 (pc' := 189) rfl rfl rfl ?_
  refine s_iconst C d4_189 (pc' := 190) rfl (4 : Int32) rfl ?_
  refine s_lload C d4_190 (pc' := 192) rfl rfl ?_
  refine s_lload C d4_192 (pc' := 194) rfl rfl ?_
  refine s_bipush C d4_194 (pc' := 196) rfl (52 : Int32) rfl ?_
  refine s_lshr C d4_196 (pc' := 197) rfl ?_
  refine s_ladd C d4_197 (pc' := 198) rfl ?_
  refine s_lastore C d4_198 (pc' := 199) rfl A23 4 (by decide) (Nat.le_of_ble_eq_true rfl) g_r [(.long (v7 &&& (4503599627370495 : Int64))), (.long (v11 &&& (4503599627370495 : Int64))), (.long (v12 &&& (4503599627370495 : Int64))), (.long (v13 &&& (4503599627370495 : Int64))), (.long (v10 + (v13 >>> ((52 : Int32) &&& 0x3f).toInt64)))] rfl (fun h26 W26 A26 => ?_)
  have sz27 : n0 ≤ h26.size := (Nat.le_trans sz24 (Nat.le_of_eq W26.size.symm))
  have Kp28 : Keep h0 h26 [r] := Kp25.wr W26 (Or.inl (List.mem_of_getElem? (i := 0) rfl))
  obtain ⟨vv, nn, h1, h2, h3⟩ := own_ms8 (f := (8 : Int64)) (by decide) ha la hv1 hv2 hv3 hv4 hv5 hv6 hv7 hv8 hv9 hv10 hv11 hv12 hv13
  exact s_ret0 C d4_199 (by decide) (by decide) ⟨Kp28, _, _, _, _, _, _, A26, h1, h2, nn, h3⟩
set_option maxRecDepth 65536 in
set_option maxHeartbeats 40000000 in
theorem c_can (l : Launch) (Z : State) (a0 : Array Value) (hw : Hw a0 Z) (t p_ a : Addr) (ua0 ua1 ua2 ua3 ua4 : Int64) (va : Int) (h0 : Heap) (n0 : Nat) (Z0 : n0 ≤ h0.size) (O0 : Old Z n0 h0) (S_t : Sta Z Z.heap "org/subveil/Secp256r1Field" "TWO_P" "[J" (.ref t)) (S_p : Sta Z Z.heap "org/subveil/Secp256r1Field" "P_LIMBS" "[J" (.ref p_)) (V_t : Av Z h0 t .long [(.long (4503599627370494 : Int64)), (.long (35184372088831 : Int64)), (.long (0 : Int64)), (.long (137438953472 : Int64)), (.long (562949953290240 : Int64))]) (V_p : Av Z h0 p_ .long [(.long (4503599627370495 : Int64)), (.long (17592186044415 : Int64)), (.long (0 : Int64)), (.long (68719476736 : Int64)), (.long (281474976645120 : Int64))]) (V_a : Av Z h0 a .long [(.long ua0), (.long ua1), (.long ua2), (.long ua3), (.long ua4)]) (ha : Nrm ua0 ua1 ua2 ua3 ua4 va) (la : va < 231584178420712497525394893898815147060172286830580628391067262617734195707902) (ba : ua4.toInt < 2251799813685248) :
    Met l Z (⟨"org/subveil/Secp256r1Field", "canonical", "([J)[J"⟩ : MethodName) prog_45_method_27_code 2 (some (.array .long)) [] ({ frames := 1, cells := 1, slots := 5, locals := 60 } : Room) #[(.ref a)] h0 n0 (RetV (fun z h => ∃ r : Addr, z = .ref r ∧ Keep h0 h [] ∧ h0.size ≤ r ∧ ∃ (z0 z1 z2 z3 z4 : Int64) (v : Int), Av Z h r .long [.long z0, .long z1, .long z2, .long z3, .long z4] ∧ Nrm z0 z1 z2 z3 z4 v ∧ v < 115792089210356248762697446949407573530086143415290314195533631308867097853951 ∧ ∃ j : Int, v = va - j * 115792089210356248762697446949407573530086143415290314195533631308867097853951)) := by
  refine Met.intro pn7 (own := "org/subveil/Secp256r1Field") rfl (nm := "canonical") rfl (fun m => ef7 m a) ?_
  intro p e s m below meth c C
  refine s_iconst C d7_0 (pc' := 1) rfl (5 : Int32) rfl ?_
  refine s_newarr C (cap := 5) d7_1 (pc' := 3) rfl (w1 hw) (by decide) (by decide) (by decide) (k' := 1) rfl (by decide) (n' := 5) rfl (by decide) [(.long (0 : Int64)), (.long (0 : Int64)), (.long (0 : Int64)), (.long (0 : Int64)), (.long (0 : Int64))] rfl (fun h1 a1 E1 g1 A1 => ?_)
  have ne2 : a ≠ a1 := Nat.ne_of_lt (by rw [g1]; exact V_a.lt)
  have ne3 : p_ ≠ a1 := Nat.ne_of_lt (by rw [g1]; exact V_p.lt)
  have ne4 : t ≠ a1 := Nat.ne_of_lt (by rw [g1]; exact V_t.lt)
  have gn5 : n0 ≤ a1 := by rw [g1]; exact Z0
  have bs6 : h0.size ≤ a1 := by rw [g1]; exact (Keep.refl h0 []).1
  have sz7 : n0 ≤ h1.size := (Nat.le_trans Z0 E1.1)
  have Kp8 : Keep h0 h1 [] := (Keep.refl h0 []).ext E1
  have Od9 : Old Z n0 h1 := O0.ext E1
  refine s_astoreN C d7_3 (pc' := 4) rfl rfl #[.val (.ref a), .val (.ref a1)] rfl ?_
  refine s_aloadN C d7_4 (pc' := 5) rfl rfl rfl ?_
  refine s_getS C d7_5 (pc' := 8) rfl (w37 hw) (S_p.ext Od9.2) ?_
  refine s_aloadN C d7_8 (pc' := 9) rfl rfl rfl ?_
  refine s_iconst C d7_9 (pc' := 10) rfl (0 : Int32) rfl ?_
  have Vx10 := (V_a.ext E1)
  refine s_laload C d7_10 (pc' := 11) rfl Vx10 0 (by decide) rfl ?_
  refine s_aloadN C d7_11 (pc' := 12) rfl rfl rfl ?_
  refine s_iconst C d7_12 (pc' := 13) rfl (1 : Int32) rfl ?_
  refine s_laload C d7_13 (pc' := 14) rfl Vx10 1 (by decide) rfl ?_
  refine s_aloadN C d7_14 (pc' := 15) rfl rfl rfl ?_
  refine s_iconst C d7_15 (pc' := 16) rfl (2 : Int32) rfl ?_
  refine s_laload C d7_16 (pc' := 17) rfl Vx10 2 (by decide) rfl ?_
  refine s_aloadN C d7_17 (pc' := 18) rfl rfl rfl ?_
  refine s_iconst C d7_18 (pc' := 19) rfl (3 : Int32) rfl ?_
  refine s_laload C d7_19 (pc' := 20) rfl Vx10 3 (by decide) rfl ?_
  refine s_aloadN C d7_20 (pc' := 21) rfl rfl rfl ?_
  refine s_iconst C d7_21 (pc' := 22) rfl (4 : Int32) rfl ?_
  refine s_laload C d7_22 (pc' := 23) rfl Vx10 4 (by decide) rfl ?_
  have Vx12 := (V_p.ext E1)
  refine s_callS0 C d7_23 (pc' := 26) rfl (w18 hw) (w19 hw) (w13 hw) (w20 hw) (by decide) [(.ref a1), (.ref p_), (.long ua0), (.long ua1), (.long ua2), (.long ua3), (.long ua4)] [] pd4 rfl rfl (c_sub l Z a0 hw a1 p_ ua0 ua1 ua2 ua3 ua4 (0 : Int64) (0 : Int64) (0 : Int64) (0 : Int64) (0 : Int64) (4503599627370495 : Int64) (17592186044415 : Int64) (0 : Int64) (68719476736 : Int64) (281474976645120 : Int64) va 115792089210356248762697446949407573530086143415290314195533631308867097853951 h1 n0 sz7 gn5 A1 Vx12 ha own_PL ba (by decide)) rfl (W := 0) rfl (by decide) (by decide) (k' := 1) rfl (by decide) (n' := 5) rfl (by decide) (fun h11 q11 => ?_)
  obtain ⟨K11, z11_0, z11_1, z11_2, z11_3, z11_4, v11, V11, N11, C11⟩ := q11
  have sz13 : n0 ≤ h11.size := (Nat.le_trans sz7 K11.1)
  have Kp14 : Keep h0 h11 [] := Kp8.trans K11 (allS (Or.inr bs6) all0)
  have Od15 : Old Z n0 h11 := Od9.keep K11 (allS gn5 all0)
  refine s_aloadN C d7_26 (pc' := 27) rfl rfl rfl ?_
  exact s_retA C rfl rfl rfl d7_27 (by decide) (by decide) ⟨a1, rfl, Kp14, bs6, z11_0, z11_1, z11_2, z11_3, z11_4, v11, V11, N11, own_red1 C11 la⟩
set_option maxRecDepth 65536 in
set_option maxHeartbeats 40000000 in
theorem c_eq (l : Launch) (Z : State) (a0 : Array Value) (hw : Hw a0 Z) (t p_ a b : Addr) (ua0 ua1 ua2 ua3 ua4 ub0 ub1 ub2 ub3 ub4 : Int64) (va vb : Int) (h0 : Heap) (n0 : Nat) (Z0 : n0 ≤ h0.size) (O0 : Old Z n0 h0) (S_t : Sta Z Z.heap "org/subveil/Secp256r1Field" "TWO_P" "[J" (.ref t)) (S_p : Sta Z Z.heap "org/subveil/Secp256r1Field" "P_LIMBS" "[J" (.ref p_)) (V_t : Av Z h0 t .long [(.long (4503599627370494 : Int64)), (.long (35184372088831 : Int64)), (.long (0 : Int64)), (.long (137438953472 : Int64)), (.long (562949953290240 : Int64))]) (V_p : Av Z h0 p_ .long [(.long (4503599627370495 : Int64)), (.long (17592186044415 : Int64)), (.long (0 : Int64)), (.long (68719476736 : Int64)), (.long (281474976645120 : Int64))]) (V_a : Av Z h0 a .long [(.long ua0), (.long ua1), (.long ua2), (.long ua3), (.long ua4)]) (V_b : Av Z h0 b .long [(.long ub0), (.long ub1), (.long ub2), (.long ub3), (.long ub4)]) (ha : Nrm ua0 ua1 ua2 ua3 ua4 va) (hb : Nrm ub0 ub1 ub2 ub3 ub4 vb) (la : va < 231584178420712497525394893898815147060172286830580628391067262617734195707902) (lb : vb < 231584178420712497525394893898815147060172286830580628391067262617734195707902) (hab : (va - vb) % 115792089210356248762697446949407573530086143415290314195533631308867097853951 = 0) :
    Met l Z (⟨"org/subveil/Secp256r1Field", "equal", "([J[J)J"⟩ : MethodName) prog_45_method_7_code 7 (some .long) [] ({ frames := 2, cells := 2, slots := 10, locals := 100 } : Room) #[(.ref a), (.ref b)] h0 n0 (RetL (fun z h => z = 1 ∧ Keep h0 h [])) := by
  refine Met.intro pn6 (own := "org/subveil/Secp256r1Field") rfl (nm := "equal") rfl (fun m => ef6 m a b) ?_
  intro p e s m below meth c C
  refine s_aloadN C d6_0 (pc' := 1) rfl rfl rfl ?_
  have b1 : ua4.toInt < 2251799813685248 := own_top ha la
  refine s_callSA C d6_1 (pc' := 4) rfl (w34 hw) (w35 hw) (w13 hw) (w36 hw) (by decide) [(.ref a)] [] pd1 rfl rfl (c_can l Z a0 hw t p_ a ua0 ua1 ua2 ua3 ua4 va h0 n0 Z0 O0 S_t S_p V_t V_p V_a ha la b1) rfl (W := 0) rfl (by decide) (by decide) (k' := 1) rfl (by decide) (n' := 5) rfl (by decide) (fun _ h1 q1 => ?_)
  obtain ⟨r1, rfl, K1, s1, z1_0, z1_1, z1_2, z1_3, z1_4, v1, A1, N1, L1, C1⟩ := q1
  have ne2 : a ≠ r1 := Nat.ne_of_lt (Nat.lt_of_lt_of_le V_a.lt s1)
  have ne3 : b ≠ r1 := Nat.ne_of_lt (Nat.lt_of_lt_of_le V_b.lt s1)
  have ne4 : p_ ≠ r1 := Nat.ne_of_lt (Nat.lt_of_lt_of_le V_p.lt s1)
  have ne5 : t ≠ r1 := Nat.ne_of_lt (Nat.lt_of_lt_of_le V_t.lt s1)
  have gn6 : n0 ≤ r1 := Nat.le_trans Z0 s1
  have bs7 : h0.size ≤ r1 := Nat.le_trans (Keep.refl h0 []).1 s1
  have sz8 : n0 ≤ h1.size := (Nat.le_trans Z0 K1.1)
  have Kp9 : Keep h0 h1 [] := (Keep.refl h0 []).trans K1 all0
  have Od10 : Old Z n0 h1 := O0.keep K1 all0
  refine s_astoreN C d6_4 (pc' := 5) rfl rfl #[.val (.ref a), .val (.ref b), .val (.ref r1), .unset, .unset, .unset, .unset] rfl ?_
  refine s_aloadN C d6_5 (pc' := 6) rfl rfl rfl ?_
  have b11 : ub4.toInt < 2251799813685248 := own_top hb lb
  have Vx12 := (V_t.keep K1 nin0)
  have Vx13 := (V_p.keep K1 nin0)
  have Vx14 := (V_b.keep K1 nin0)
  refine s_callSA C d6_6 (pc' := 9) rfl (w34 hw) (w35 hw) (w13 hw) (w36 hw) (by decide) [(.ref b)] [] pd1 rfl rfl (c_can l Z a0 hw t p_ b ub0 ub1 ub2 ub3 ub4 vb h1 n0 sz8 Od10 S_t S_p Vx12 Vx13 Vx14 hb lb b11) rfl (W := 0) rfl (by decide) (by decide) (k' := 2) rfl (by decide) (n' := 10) rfl (by decide) (fun _ h11 q11 => ?_)
  obtain ⟨r11, rfl, K11, s11, z11_0, z11_1, z11_2, z11_3, z11_4, v11, A11, N11, L11, C11⟩ := q11
  have Vx15 := (V_a.keep K1 nin0)
  have ne16 : a ≠ r11 := Nat.ne_of_lt (Nat.lt_of_lt_of_le Vx15.lt s11)
  have ne17 : b ≠ r11 := Nat.ne_of_lt (Nat.lt_of_lt_of_le Vx14.lt s11)
  have ne18 : p_ ≠ r11 := Nat.ne_of_lt (Nat.lt_of_lt_of_le Vx13.lt s11)
  have ne19 : r1 ≠ r11 := Nat.ne_of_lt (Nat.lt_of_lt_of_le A1.lt s11)
  have ne20 : t ≠ r11 := Nat.ne_of_lt (Nat.lt_of_lt_of_le Vx12.lt s11)
  have gn21 : n0 ≤ r11 := Nat.le_trans sz8 s11
  have bs22 : h0.size ≤ r11 := Nat.le_trans Kp9.1 s11
  have sz23 : n0 ≤ h11.size := (Nat.le_trans sz8 K11.1)
  have Kp24 : Keep h0 h11 [] := Kp9.trans K11 all0
  have Od25 : Old Z n0 h11 := Od10.keep K11 all0
  obtain ⟨rfl, rfl, rfl, rfl, rfl⟩ := own_same N1 N11 (own_eqv hab (own_nn N1) (own_nn N11) L1 L11 C1 C11)
  refine s_astoreN C d6_9 (pc' := 10) rfl rfl #[.val (.ref a), .val (.ref b), .val (.ref r1), .val (.ref r11), .unset, .unset, .unset] rfl ?_
  refine s_lconst C d6_10 (pc' := 11) rfl (0 : Int64) rfl ?_
  refine s_lstoreP C d6_11 (pc' := 13) rfl #[.val (.ref a), .val (.ref b), .val (.ref r1), .val (.ref r11), .val (.long (0 : Int64)), .second, .unset] rfl ?_
  refine s_iconst C d6_13 (pc' := 14) rfl (0 : Int32) rfl ?_
  refine s_istoreP C d6_14 (pc' := 16) rfl #[.val (.ref a), .val (.ref b), .val (.ref r1), .val (.ref r11), .val (.long (0 : Int64)), .second, .val (.int (0 : Int32))] rfl ?_
  refine s_iload C d6_16 (pc' := 18) rfl rfl ?_
  refine s_iconst C d6_18 (pc' := 19) rfl (5 : Int32) rfl ?_
  refine s_icmp_ge C d6_19 (pc' := 22) rfl (pcY := 42) rfl (fun hc => by exfalso; revert hc; decide) (fun c26 => ?_)
  refine s_lload C d6_22 (pc' := 24) rfl rfl ?_
  refine s_aloadN C d6_24 (pc' := 25) rfl rfl rfl ?_
  refine s_iload C d6_25 (pc' := 27) rfl rfl ?_
  have Vx27 := (A1.keep K11 nin0)
  refine s_laload C d6_27 (pc' := 28) rfl Vx27 0 (by decide) rfl ?_
  refine s_aloadN C d6_28 (pc' := 29) rfl rfl rfl ?_
  refine s_iload C d6_29 (pc' := 31) rfl rfl ?_
  refine s_laload C d6_31 (pc' := 32) rfl A11 0 (by decide) rfl ?_
  refine s_lxor C d6_32 (pc' := 33) rfl ?_
  refine s_lor C d6_33 (pc' := 34) rfl ?_
  refine s_foldL C (y := (0 : Int64)) (own_xx _) ?_
  refine s_lstoreP C d6_34 (pc' := 36) rfl #[.val (.ref a), .val (.ref b), .val (.ref r1), .val (.ref r11), .val (.long (0 : Int64)), .second, .val (.int (0 : Int32))] rfl ?_
  refine s_iincP C d6_36 (pc' := 39) rfl rfl (1 : Int32) rfl #[.val (.ref a), .val (.ref b), .val (.ref r1), .val (.ref r11), .val (.long (0 : Int64)), .second, .val (.int (1 : Int32))] rfl ?_
  refine s_goto C d6_39 (pc' := 16) rfl ?_
  refine s_iload C d6_16 (pc' := 18) rfl rfl ?_
  refine s_iconst C d6_18 (pc' := 19) rfl (5 : Int32) rfl ?_
  refine s_icmp_ge C d6_19 (pc' := 22) rfl (pcY := 42) rfl (fun hc => by exfalso; revert hc; decide) (fun c29 => ?_)
  refine s_lload C d6_22 (pc' := 24) rfl rfl ?_
  refine s_aloadN C d6_24 (pc' := 25) rfl rfl rfl ?_
  refine s_iload C d6_25 (pc' := 27) rfl rfl ?_
  refine s_laload C d6_27 (pc' := 28) rfl Vx27 1 (by decide) rfl ?_
  refine s_aloadN C d6_28 (pc' := 29) rfl rfl rfl ?_
  refine s_iload C d6_29 (pc' := 31) rfl rfl ?_
  refine s_laload C d6_31 (pc' := 32) rfl A11 1 (by decide) rfl ?_
  refine s_lxor C d6_32 (pc' := 33) rfl ?_
  refine s_lor C d6_33 (pc' := 34) rfl ?_
  refine s_foldL C (y := (0 : Int64)) (own_xx _) ?_
  refine s_lstoreP C d6_34 (pc' := 36) rfl #[.val (.ref a), .val (.ref b), .val (.ref r1), .val (.ref r11), .val (.long (0 : Int64)), .second, .val (.int (1 : Int32))] rfl ?_
  refine s_iincP C d6_36 (pc' := 39) rfl rfl (2 : Int32) rfl #[.val (.ref a), .val (.ref b), .val (.ref r1), .val (.ref r11), .val (.long (0 : Int64)), .second, .val (.int (2 : Int32))] rfl ?_
  refine s_goto C d6_39 (pc' := 16) rfl ?_
  refine s_iload C d6_16 (pc' := 18) rfl rfl ?_
  refine s_iconst C d6_18 (pc' := 19) rfl (5 : Int32) rfl ?_
  refine s_icmp_ge C d6_19 (pc' := 22) rfl (pcY := 42) rfl (fun hc => by exfalso; revert hc; decide) (fun c31 => ?_)
  refine s_lload C d6_22 (pc' := 24) rfl rfl ?_
  refine s_aloadN C d6_24 (pc' := 25) rfl rfl rfl ?_
  refine s_iload C d6_25 (pc' := 27) rfl rfl ?_
  refine s_laload C d6_27 (pc' := 28) rfl Vx27 2 (by decide) rfl ?_
  refine s_aloadN C d6_28 (pc' := 29) rfl rfl rfl ?_
  refine s_iload C d6_29 (pc' := 31) rfl rfl ?_
  refine s_laload C d6_31 (pc' := 32) rfl A11 2 (by decide) rfl ?_
  refine s_lxor C d6_32 (pc' := 33) rfl ?_
  refine s_lor C d6_33 (pc' := 34) rfl ?_
  refine s_foldL C (y := (0 : Int64)) (own_xx _) ?_
  refine s_lstoreP C d6_34 (pc' := 36) rfl #[.val (.ref a), .val (.ref b), .val (.ref r1), .val (.ref r11), .val (.long (0 : Int64)), .second, .val (.int (2 : Int32))] rfl ?_
  refine s_iincP C d6_36 (pc' := 39) rfl rfl (3 : Int32) rfl #[.val (.ref a), .val (.ref b), .val (.ref r1), .val (.ref r11), .val (.long (0 : Int64)), .second, .val (.int (3 : Int32))] rfl ?_
  refine s_goto C d6_39 (pc' := 16) rfl ?_
  refine s_iload C d6_16 (pc' := 18) rfl rfl ?_
  refine s_iconst C d6_18 (pc' := 19) rfl (5 : Int32) rfl ?_
  refine s_icmp_ge C d6_19 (pc' := 22) rfl (pcY := 42) rfl (fun hc => by exfalso; revert hc; decide) (fun c33 => ?_)
  refine s_lload C d6_22 (pc' := 24) rfl rfl ?_
  refine s_aloadN C d6_24 (pc' := 25) rfl rfl rfl ?_
  refine s_iload C d6_25 (pc' := 27) rfl rfl ?_
  refine s_laload C d6_27 (pc' := 28) rfl Vx27 3 (by decide) rfl ?_
  refine s_aloadN C d6_28 (pc' := 29) rfl rfl rfl ?_
  refine s_iload C d6_29 (pc' := 31) rfl rfl ?_
  refine s_laload C d6_31 (pc' := 32) rfl A11 3 (by decide) rfl ?_
  refine s_lxor C d6_32 (pc' := 33) rfl ?_
  refine s_lor C d6_33 (pc' := 34) rfl ?_
  refine s_foldL C (y := (0 : Int64)) (own_xx _) ?_
  refine s_lstoreP C d6_34 (pc' := 36) rfl #[.val (.ref a), .val (.ref b), .val (.ref r1), .val (.ref r11), .val (.long (0 : Int64)), .second, .val (.int (3 : Int32))] rfl ?_
  refine s_iincP C d6_36 (pc' := 39) rfl rfl (4 : Int32) rfl #[.val (.ref a), .val (.ref b), .val (.ref r1), .val (.ref r11), .val (.long (0 : Int64)), .second, .val (.int (4 : Int32))] rfl ?_
  refine s_goto C d6_39 (pc' := 16) rfl ?_
  refine s_iload C d6_16 (pc' := 18) rfl rfl ?_
  refine s_iconst C d6_18 (pc' := 19) rfl (5 : Int32) rfl ?_
  refine s_icmp_ge C d6_19 (pc' := 22) rfl (pcY := 42) rfl (fun hc => by exfalso; revert hc; decide) (fun c35 => ?_)
  refine s_lload C d6_22 (pc' := 24) rfl rfl ?_
  refine s_aloadN C d6_24 (pc' := 25) rfl rfl rfl ?_
  refine s_iload C d6_25 (pc' := 27) rfl rfl ?_
  refine s_laload C d6_27 (pc' := 28) rfl Vx27 4 (by decide) rfl ?_
  refine s_aloadN C d6_28 (pc' := 29) rfl rfl rfl ?_
  refine s_iload C d6_29 (pc' := 31) rfl rfl ?_
  refine s_laload C d6_31 (pc' := 32) rfl A11 4 (by decide) rfl ?_
  refine s_lxor C d6_32 (pc' := 33) rfl ?_
  refine s_lor C d6_33 (pc' := 34) rfl ?_
  refine s_foldL C (y := (0 : Int64)) (own_xx _) ?_
  refine s_lstoreP C d6_34 (pc' := 36) rfl #[.val (.ref a), .val (.ref b), .val (.ref r1), .val (.ref r11), .val (.long (0 : Int64)), .second, .val (.int (4 : Int32))] rfl ?_
  refine s_iincP C d6_36 (pc' := 39) rfl rfl (5 : Int32) rfl #[.val (.ref a), .val (.ref b), .val (.ref r1), .val (.ref r11), .val (.long (0 : Int64)), .second, .val (.int (5 : Int32))] rfl ?_
  refine s_goto C d6_39 (pc' := 16) rfl ?_
  refine s_iload C d6_16 (pc' := 18) rfl rfl ?_
  refine s_iconst C d6_18 (pc' := 19) rfl (5 : Int32) rfl ?_
  refine s_icmp_ge C d6_19 (pc' := 22) rfl (pcY := 42) rfl (fun c37 => ?_) (fun hc => by exfalso; revert hc; decide)
  refine s_lload C d6_42 (pc' := 44) rfl rfl ?_
  refine s_lload C d6_44 (pc' := 46) rfl rfl ?_
  refine s_lneg C d6_46 (pc' := 47) rfl ?_
  refine s_lor C d6_47 (pc' := 48) rfl ?_
  refine s_bipush C d6_48 (pc' := 50) rfl (63 : Int32) rfl ?_
  refine s_lushr C d6_50 (pc' := 51) rfl ?_
  refine s_lconst C d6_51 (pc' := 52) rfl (1 : Int64) rfl ?_
  refine s_lxor C d6_52 (pc' := 53) rfl ?_
  exact s_retL C d6_53 (by decide) (by decide) ⟨rfl, Kp24⟩

theorem st_ref {args : Array Value} {s : State} {C f d : String} {ty : FieldType} (g : (Jvm.Cond.arrayOf (Jvm.Term.static C f d) ty).value args s none s [] = some true) (hi : (Jvm.Cond.initializedFor C f d).before args s = true ∨ ((Jvm.Cond.initialized C).before args s = true ∧ (Jvm.Cond.laysStatic C f d).before args s = true)) : ∃ b cl, Sta s s.heap C f d (.ref b) ∧ Arr s s.heap b cl ty ∧ ∀ idx, (Jvm.Term.static C f d).eval args s none idx s = some (.ref b) := by
  obtain ⟨b, eb⟩ := arr_v g
  obtain ⟨cl, A⟩ := Arr.start eb g
  exact ⟨b, cl, Sta.start eb hi, A, fun idx => by simpa [Jvm.Term.eval] using eb⟩
theorem st_len {args : Array Value} {s : State} {t : Term} {ty : FieldType} {b : Addr} {cl : Cell} {n : Int32} (A : Arr s s.heap b cl ty) (eb : ∀ idx, t.eval args s none idx s = some (.ref b)) (g : (Jvm.Cond.eq (Jvm.Term.length t) (Jvm.Term.int n)).value args s none s [] = some true) : cl.slots.size < 2 ^ 31 ∧ cl.slots.size.toInt32 = n := by
  have e := eqv_i (Term.int_eval n) g
  obtain ⟨b', c', h1, h2, h3, h4⟩ := Jvm.Lib.length_spec e
  obtain rfl : b = b' := Value.ref.inj (Option.some.inj ((eb []).symm.trans h1))
  obtain rfl : cl = c' := Option.some.inj ((A.fin (Vm.Alike.refl _)).symm.trans h2)
  exact ⟨h3, (Value.int.inj h4).symm⟩
theorem st_size {cl : Cell} {n : Int32} (h : cl.slots.size < 2 ^ 31 ∧ cl.slots.size.toInt32 = n) : cl.slots.size = n.toNatClampNeg := by rw [← h.2]; exact (len32 h.1).1.symm
theorem st_el {args : Array Value} {s : State} {t : Term} {ty : FieldType} {b : Addr} {cl : Cell} {j v : Int32} (A : Arr s s.heap b cl ty) (eb : ∀ idx, t.eval args s none idx s = some (.ref b)) (hj : ¬ j < 0) (g : (Jvm.Cond.eq (Jvm.Term.elem t (Jvm.Term.int j)) (Jvm.Term.int v)).value args s none s [] = some true) : cl.slots[j.toNatClampNeg]? = some (.int v) := by
  have e := eqv_i (Term.int_eval v) g
  rw [elem_f (eb []) (Term.int_eval j) (A.fin (Vm.Alike.refl _)) hj] at e
  exact e
theorem st_elL {args : Array Value} {s : State} {t : Term} {ty : FieldType} {b : Addr} {cl : Cell} {j : Int32} {v : Int64} (A : Arr s s.heap b cl ty) (eb : ∀ idx, t.eval args s none idx s = some (.ref b)) (hj : ¬ j < 0) (g : (Jvm.Cond.eq (Jvm.Term.elem t (Jvm.Term.int j)) (Jvm.Term.long v)).value args s none s [] = some true) : cl.slots[j.toNatClampNeg]? = some (.long v) := by
  have e := eqv_l (y := v) (by simp [Jvm.Term.eval]) g
  rw [elem_f (eb []) (Term.int_eval j) (A.fin (Vm.Alike.refl _)) hj] at e
  exact e
theorem st_elR {args : Array Value} {s : State} {t t2 : Term} {ty : FieldType} {b y : Addr} {cl : Cell} {j : Int32} (A : Arr s s.heap b cl ty) (eb : ∀ idx, t.eval args s none idx s = some (.ref b)) (hj : ¬ j < 0) (e2 : t2.eval args s none [] s = some (.ref y)) (g : (Jvm.Cond.eq (Jvm.Term.elem t (Jvm.Term.int j)) t2).value args s none s [] = some true) : cl.slots[j.toNatClampNeg]? = some (.ref y) := by
  obtain ⟨x, y', h1, h2, -, k2⟩ := cmp_v (Or.inl g)
  obtain rfl : Value.ref y = y' := Option.some.inj (e2.symm.trans h2)
  have q := gotT (eq_R h1 h2 k2.2 rfl) g
  subst q
  rw [elem_f (eb []) (Term.int_eval j) (A.fin (Vm.Alike.refl _)) hj] at h1
  exact h1
theorem av_of {Z : State} {h : Heap} {b : Addr} {cl : Cell} {ty : FieldType} {vs : List Value} (A : Arr Z h b cl ty) (hs : cl.slots.size = vs.length) (hl : vs.length < 2 ^ 31) (he : ∀ i, i < vs.length → cl.slots[i]? = vs[i]?) (hf : ∀ v ∈ vs, fits ty v = true) : Av Z h b ty vs := by
  refine ⟨cl, A, ?_, hl, hf⟩
  apply Array.ext_getElem?
  intro i
  by_cases hi : i < vs.length
  · rw [he i hi]; simp
  · rw [Array.getElem?_eq_none (by omega), Array.getElem?_eq_none (by simpa using hi)]

theorem own_nar {args : Array Value} {s : State} (hw : Hw args s) (hn : narrow_1.value args s none s [] = some true) : ∃ t p_, Sta s s.heap "org/subveil/Secp256r1Field" "TWO_P" "[J" (.ref t) ∧ Sta s s.heap "org/subveil/Secp256r1Field" "P_LIMBS" "[J" (.ref p_) ∧ Av s s.heap t .long [(.long (4503599627370494 : Int64)), (.long (35184372088831 : Int64)), (.long (0 : Int64)), (.long (137438953472 : Int64)), (.long (562949953290240 : Int64))] ∧ Av s s.heap p_ .long [(.long (4503599627370495 : Int64)), (.long (17592186044415 : Int64)), (.long (0 : Int64)), (.long (68719476736 : Int64)), (.long (281474976645120 : Int64))] := by
  obtain ⟨n1, hn⟩ := and_e hn
  obtain ⟨n2, hn⟩ := and_e hn
  obtain ⟨n3, hn⟩ := and_e hn
  obtain ⟨n4, hn⟩ := and_e hn
  obtain ⟨e0, hn⟩ := and_e hn
  obtain ⟨e1, hn⟩ := and_e hn
  obtain ⟨e2, hn⟩ := and_e hn
  obtain ⟨e3, hn⟩ := and_e hn
  obtain ⟨e4, hn⟩ := and_e hn
  obtain ⟨f0, hn⟩ := and_e hn
  obtain ⟨f1, hn⟩ := and_e hn
  obtain ⟨f2, hn⟩ := and_e hn
  obtain ⟨f3, f4⟩ := and_e hn
  obtain ⟨t, cl, S, A, eb⟩ := st_ref n1 (Or.inr ⟨(w13 hw), (w16 hw)⟩)
  obtain ⟨p_, cl', S', A', eb'⟩ := st_ref n3 (Or.inr ⟨(w13 hw), (w38 hw)⟩)
  have hs := st_size (st_len A eb n2)
  have hs' := st_size (st_len A' eb' n4)
  refine ⟨t, p_, S, S', av_of A hs (by decide) (fun i hi => ?_) (by simp [fits]), av_of A' hs' (by decide) (fun i hi => ?_) (by simp [fits])⟩
  · match i, hi with
    | 0, _ => exact st_elL A eb (by decide) e0
    | 1, _ => exact st_elL A eb (by decide) e1
    | 2, _ => exact st_elL A eb (by decide) e2
    | 3, _ => exact st_elL A eb (by decide) e3
    | 4, _ => exact st_elL A eb (by decide) e4
    | n + 5, h => exact absurd h (by simp)
  · match i, hi with
    | 0, _ => exact st_elL A' eb' (by decide) f0
    | 1, _ => exact st_elL A' eb' (by decide) f1
    | 2, _ => exact st_elL A' eb' (by decide) f2
    | 3, _ => exact st_elL A' eb' (by decide) f3
    | 4, _ => exact st_elL A' eb' (by decide) f4
    | n + 5, h => exact absurd h (by simp)

set_option maxRecDepth 65536 in
set_option maxHeartbeats 40000000 in
theorem law (l : Launch) (Z : State) (a0 : Array Value) (hw : Hw a0 Z) (x0 x1 x2 x3 x4 : Int64) (x5 : Int32) (t p_ : Addr) (h0 : Heap) (n0 : Nat) (Z0 : n0 ≤ h0.size) (O0 : Old Z n0 h0) (S_t : Sta Z Z.heap "org/subveil/Secp256r1Field" "TWO_P" "[J" (.ref t)) (S_p : Sta Z Z.heap "org/subveil/Secp256r1Field" "P_LIMBS" "[J" (.ref p_)) (V_t : Av Z h0 t .long [(.long (4503599627370494 : Int64)), (.long (35184372088831 : Int64)), (.long (0 : Int64)), (.long (137438953472 : Int64)), (.long (562949953290240 : Int64))]) (V_p : Av Z h0 p_ .long [(.long (4503599627370495 : Int64)), (.long (17592186044415 : Int64)), (.long (0 : Int64)), (.long (68719476736 : Int64)), (.long (281474976645120 : Int64))]) :
    Met l Z x code maxLocals ret tables_1 room_1 #[(.long x0), (.long x1), (.long x2), (.long x3), (.long x4), (.int x5)] h0 n0 (RetI (fun z h => z = 1)) := by
  refine Met.intro pn0 (own := "org/subveil/Secp256r1FieldMultiplySmallPinLaw") rfl (nm := "law") rfl (fun m => ef0 m x0 x1 x2 x3 x4 x5) ?_
  intro p e s m below meth c C
  refine s_ldc2 C at_0 (pc' := 3) rfl (w0 hw) ?_
  refine s_lstoreP C at_3 (pc' := 5) rfl #[.val (.long x0), .second, .val (.long x1), .second, .val (.long x2), .second, .val (.long x3), .second, .val (.long x4), .second, .val (.int x5), .val (.long (4503599627370495 : Int64)), .second, .unset, .unset, .unset, .unset, .unset, .unset, .unset, .unset, .unset, .unset, .unset] rfl ?_
  refine s_iconst C at_5 (pc' := 6) rfl (5 : Int32) rfl ?_
  refine s_newarr C (cap := 5) at_6 (pc' := 8) rfl (w1 hw) (by decide) (by decide) (by decide) (k' := 1) rfl (by decide) (n' := 5) rfl (by decide) [(.long (0 : Int64)), (.long (0 : Int64)), (.long (0 : Int64)), (.long (0 : Int64)), (.long (0 : Int64))] rfl (fun h1 a1 E1 g1 A1 => ?_)
  have ne2 : p_ ≠ a1 := Nat.ne_of_lt (by rw [g1]; exact V_p.lt)
  have ne3 : t ≠ a1 := Nat.ne_of_lt (by rw [g1]; exact V_t.lt)
  have gn4 : n0 ≤ a1 := by rw [g1]; exact Z0
  have sz5 : n0 ≤ h1.size := (Nat.le_trans Z0 E1.1)
  have Od6 : Old Z n0 h1 := O0.ext E1
  refine s_dup C at_8 (pc' := 9) rfl rfl ?_
  refine s_iconst C at_9 (pc' := 10) rfl (0 : Int32) rfl ?_
  refine s_lloadN C at_10 (pc' := 11) rfl rfl ?_
  refine s_lload C at_11 (pc' := 13) rfl rfl ?_
  refine s_land C at_13 (pc' := 14) rfl ?_
  refine s_lastore C at_14 (pc' := 15) rfl A1 0 (by decide) (Nat.le_of_ble_eq_true rfl) gn4 [(.long (x0 &&& (4503599627370495 : Int64))), (.long (0 : Int64)), (.long (0 : Int64)), (.long (0 : Int64)), (.long (0 : Int64))] rfl (fun h7 W7 A7 => ?_)
  have sz8 : n0 ≤ h7.size := (Nat.le_trans sz5 (Nat.le_of_eq W7.size.symm))
  have Od9 : Old Z n0 h7 := Od6.wr W7 gn4
  refine s_dup C at_15 (pc' := 16) rfl rfl ?_
  refine s_iconst C at_16 (pc' := 17) rfl (1 : Int32) rfl ?_
  refine s_lloadN C at_17 (pc' := 18) rfl rfl ?_
  refine s_lload C at_18 (pc' := 20) rfl rfl ?_
  refine s_land C at_20 (pc' := 21) rfl ?_
  refine s_lastore C at_21 (pc' := 22) rfl A7 1 (by decide) (Nat.le_of_ble_eq_true rfl) gn4 [(.long (x0 &&& (4503599627370495 : Int64))), (.long (x1 &&& (4503599627370495 : Int64))), (.long (0 : Int64)), (.long (0 : Int64)), (.long (0 : Int64))] rfl (fun h10 W10 A10 => ?_)
  have sz11 : n0 ≤ h10.size := (Nat.le_trans sz8 (Nat.le_of_eq W10.size.symm))
  have Od12 : Old Z n0 h10 := Od9.wr W10 gn4
  refine s_dup C at_22 (pc' := 23) rfl rfl ?_
  refine s_iconst C at_23 (pc' := 24) rfl (2 : Int32) rfl ?_
  refine s_lload C at_24 (pc' := 26) rfl rfl ?_
  refine s_lload C at_26 (pc' := 28) rfl rfl ?_
  refine s_land C at_28 (pc' := 29) rfl ?_
  refine s_lastore C at_29 (pc' := 30) rfl A10 2 (by decide) (Nat.le_of_ble_eq_true rfl) gn4 [(.long (x0 &&& (4503599627370495 : Int64))), (.long (x1 &&& (4503599627370495 : Int64))), (.long (x2 &&& (4503599627370495 : Int64))), (.long (0 : Int64)), (.long (0 : Int64))] rfl (fun h13 W13 A13 => ?_)
  have sz14 : n0 ≤ h13.size := (Nat.le_trans sz11 (Nat.le_of_eq W13.size.symm))
  have Od15 : Old Z n0 h13 := Od12.wr W13 gn4
  refine s_dup C at_30 (pc' := 31) rfl rfl ?_
  refine s_iconst C at_31 (pc' := 32) rfl (3 : Int32) rfl ?_
  refine s_lload C at_32 (pc' := 34) rfl rfl ?_
  refine s_lload C at_34 (pc' := 36) rfl rfl ?_
  refine s_land C at_36 (pc' := 37) rfl ?_
  refine s_lastore C at_37 (pc' := 38) rfl A13 3 (by decide) (Nat.le_of_ble_eq_true rfl) gn4 [(.long (x0 &&& (4503599627370495 : Int64))), (.long (x1 &&& (4503599627370495 : Int64))), (.long (x2 &&& (4503599627370495 : Int64))), (.long (x3 &&& (4503599627370495 : Int64))), (.long (0 : Int64))] rfl (fun h16 W16 A16 => ?_)
  have sz17 : n0 ≤ h16.size := (Nat.le_trans sz14 (Nat.le_of_eq W16.size.symm))
  have Od18 : Old Z n0 h16 := Od15.wr W16 gn4
  refine s_dup C at_38 (pc' := 39) rfl rfl ?_
  refine s_iconst C at_39 (pc' := 40) rfl (4 : Int32) rfl ?_
  refine s_lload C at_40 (pc' := 42) rfl rfl ?_
  refine s_ldc2 C at_42 (pc' := 45) rfl (w2 hw) ?_
  refine s_land C at_45 (pc' := 46) rfl ?_
  refine s_lastore C at_46 (pc' := 47) rfl A16 4 (by decide) (Nat.le_of_ble_eq_true rfl) gn4 [(.long (x0 &&& (4503599627370495 : Int64))), (.long (x1 &&& (4503599627370495 : Int64))), (.long (x2 &&& (4503599627370495 : Int64))), (.long (x3 &&& (4503599627370495 : Int64))), (.long (x4 &&& (562949953421311 : Int64)))] rfl (fun h19 W19 A19 => ?_)
  have sz20 : n0 ≤ h19.size := (Nat.le_trans sz17 (Nat.le_of_eq W19.size.symm))
  have Od21 : Old Z n0 h19 := Od18.wr W19 gn4
  obtain ⟨y0, hy0⟩ : ∃ y, y = (x0 &&& (4503599627370495 : Int64)) := ⟨_, rfl⟩
  obtain ⟨y1, hy1⟩ : ∃ y, y = (x1 &&& (4503599627370495 : Int64)) := ⟨_, rfl⟩
  obtain ⟨y2, hy2⟩ : ∃ y, y = (x2 &&& (4503599627370495 : Int64)) := ⟨_, rfl⟩
  obtain ⟨y3, hy3⟩ : ∃ y, y = (x3 &&& (4503599627370495 : Int64)) := ⟨_, rfl⟩
  obtain ⟨y4, hy4⟩ : ∃ y, y = (x4 &&& (562949953421311 : Int64)) := ⟨_, rfl⟩
  have na : Nrm y0 y1 y2 y3 y4 (own_val y0 y1 y2 y3 y4) := own_msk5 hy0 hy1 hy2 hy3 hy4
  rw [← hy0, ← hy1, ← hy2, ← hy3, ← hy4] at A19
  obtain ⟨va, hva⟩ : ∃ v, v = own_val y0 y1 y2 y3 y4 := ⟨_, rfl⟩
  rw [← hva] at na
  clear hva hy0 hy1 hy2 hy3 hy4
  refine s_astore C at_47 (pc' := 49) rfl rfl #[.val (.long x0), .second, .val (.long x1), .second, .val (.long x2), .second, .val (.long x3), .second, .val (.long x4), .second, .val (.int x5), .val (.long (4503599627370495 : Int64)), .second, .val (.ref a1), .unset, .unset, .unset, .unset, .unset, .unset, .unset, .unset, .unset, .unset] rfl ?_
  refine s_aload C at_49 (pc' := 51) rfl rfl rfl ?_
  refine s_callSI C at_51 (pc' := 54) rfl (w3 hw) (w4 hw) (w5 hw) (w6 hw) (by decide) [(.ref a1)] [] pd0 rfl rfl (c_blw l Z a0 hw a1 y0 y1 y2 y3 y4 h19 n0 sz20 A19) rfl (W := 0) rfl (by decide) (by decide) (k' := 1) rfl (by decide) (n' := 5) rfl (by decide) (fun _ _ q22 => ?_)
  obtain ⟨rfl, rfl⟩ := q22
  refine s_if_ne C at_54 (pc' := 57) rfl (pcY := 59) rfl (fun c23 => ?_) (fun c23 => ?_)
  · skip
    have la : va < 231584178420712497525394893898815147060172286830580628391067262617734195707902 := (own_blw na).2.2 c23
    refine s_iconst C at_59 (pc' := 60) rfl (5 : Int32) rfl ?_
    refine s_newarr C (cap := 5) at_60 (pc' := 62) rfl (w1 hw) (by decide) (by decide) (by decide) (k' := 2) rfl (by decide) (n' := 10) rfl (by decide) [(.long (0 : Int64)), (.long (0 : Int64)), (.long (0 : Int64)), (.long (0 : Int64)), (.long (0 : Int64))] rfl (fun h24 a24 E24 g24 A24 => ?_)
    have ne25 : a1 ≠ a24 := Nat.ne_of_lt (by rw [g24]; exact A19.lt)
    have Vx26 := ((((((V_p.ext E1).other W7 ne2).other W10 ne2).other W13 ne2).other W16 ne2).other W19 ne2)
    have ne27 : p_ ≠ a24 := Nat.ne_of_lt (by rw [g24]; exact Vx26.lt)
    have Vx28 := ((((((V_t.ext E1).other W7 ne3).other W10 ne3).other W13 ne3).other W16 ne3).other W19 ne3)
    have ne29 : t ≠ a24 := Nat.ne_of_lt (by rw [g24]; exact Vx28.lt)
    have gn30 : n0 ≤ a24 := by rw [g24]; exact sz20
    have sz31 : n0 ≤ h24.size := (Nat.le_trans sz20 E24.1)
    have Od32 : Old Z n0 h24 := Od21.ext E24
    refine s_dup C at_62 (pc' := 63) rfl rfl ?_
    refine s_iconst C at_63 (pc' := 64) rfl (0 : Int32) rfl ?_
    refine s_aload C at_64 (pc' := 66) rfl rfl rfl ?_
    refine s_iconst C at_66 (pc' := 67) rfl (0 : Int32) rfl ?_
    have Vx33 := (A19.ext E24)
    refine s_laload C at_67 (pc' := 68) rfl Vx33 0 (by decide) rfl ?_
    refine s_lastore C at_68 (pc' := 69) rfl A24 0 (by decide) (Nat.le_of_ble_eq_true rfl) gn30 [(.long y0), (.long (0 : Int64)), (.long (0 : Int64)), (.long (0 : Int64)), (.long (0 : Int64))] rfl (fun h34 W34 A34 => ?_)
    have sz35 : n0 ≤ h34.size := (Nat.le_trans sz31 (Nat.le_of_eq W34.size.symm))
    have Od36 : Old Z n0 h34 := Od32.wr W34 gn30
    refine s_dup C at_69 (pc' := 70) rfl rfl ?_
    refine s_iconst C at_70 (pc' := 71) rfl (1 : Int32) rfl ?_
    refine s_aload C at_71 (pc' := 73) rfl rfl rfl ?_
    refine s_iconst C at_73 (pc' := 74) rfl (1 : Int32) rfl ?_
    have Vx37 := (Vx33.other W34 ne25)
    refine s_laload C at_74 (pc' := 75) rfl Vx37 1 (by decide) rfl ?_
    refine s_lastore C at_75 (pc' := 76) rfl A34 1 (by decide) (Nat.le_of_ble_eq_true rfl) gn30 [(.long y0), (.long y1), (.long (0 : Int64)), (.long (0 : Int64)), (.long (0 : Int64))] rfl (fun h38 W38 A38 => ?_)
    have sz39 : n0 ≤ h38.size := (Nat.le_trans sz35 (Nat.le_of_eq W38.size.symm))
    have Od40 : Old Z n0 h38 := Od36.wr W38 gn30
    refine s_dup C at_76 (pc' := 77) rfl rfl ?_
    refine s_iconst C at_77 (pc' := 78) rfl (2 : Int32) rfl ?_
    refine s_aload C at_78 (pc' := 80) rfl rfl rfl ?_
    refine s_iconst C at_80 (pc' := 81) rfl (2 : Int32) rfl ?_
    have Vx41 := (Vx37.other W38 ne25)
    refine s_laload C at_81 (pc' := 82) rfl Vx41 2 (by decide) rfl ?_
    refine s_lastore C at_82 (pc' := 83) rfl A38 2 (by decide) (Nat.le_of_ble_eq_true rfl) gn30 [(.long y0), (.long y1), (.long y2), (.long (0 : Int64)), (.long (0 : Int64))] rfl (fun h42 W42 A42 => ?_)
    have sz43 : n0 ≤ h42.size := (Nat.le_trans sz39 (Nat.le_of_eq W42.size.symm))
    have Od44 : Old Z n0 h42 := Od40.wr W42 gn30
    refine s_dup C at_83 (pc' := 84) rfl rfl ?_
    refine s_iconst C at_84 (pc' := 85) rfl (3 : Int32) rfl ?_
    refine s_aload C at_85 (pc' := 87) rfl rfl rfl ?_
    refine s_iconst C at_87 (pc' := 88) rfl (3 : Int32) rfl ?_
    have Vx45 := (Vx41.other W42 ne25)
    refine s_laload C at_88 (pc' := 89) rfl Vx45 3 (by decide) rfl ?_
    refine s_lastore C at_89 (pc' := 90) rfl A42 3 (by decide) (Nat.le_of_ble_eq_true rfl) gn30 [(.long y0), (.long y1), (.long y2), (.long y3), (.long (0 : Int64))] rfl (fun h46 W46 A46 => ?_)
    have sz47 : n0 ≤ h46.size := (Nat.le_trans sz43 (Nat.le_of_eq W46.size.symm))
    have Od48 : Old Z n0 h46 := Od44.wr W46 gn30
    refine s_dup C at_90 (pc' := 91) rfl rfl ?_
    refine s_iconst C at_91 (pc' := 92) rfl (4 : Int32) rfl ?_
    refine s_aload C at_92 (pc' := 94) rfl rfl rfl ?_
    refine s_iconst C at_94 (pc' := 95) rfl (4 : Int32) rfl ?_
    have Vx49 := (Vx45.other W46 ne25)
    refine s_laload C at_95 (pc' := 96) rfl Vx49 4 (by decide) rfl ?_
    refine s_lastore C at_96 (pc' := 97) rfl A46 4 (by decide) (Nat.le_of_ble_eq_true rfl) gn30 [(.long y0), (.long y1), (.long y2), (.long y3), (.long y4)] rfl (fun h50 W50 A50 => ?_)
    have sz51 : n0 ≤ h50.size := (Nat.le_trans sz47 (Nat.le_of_eq W50.size.symm))
    have Od52 : Old Z n0 h50 := Od48.wr W50 gn30
    refine s_astore C at_97 (pc' := 99) rfl rfl #[.val (.long x0), .second, .val (.long x1), .second, .val (.long x2), .second, .val (.long x3), .second, .val (.long x4), .second, .val (.int x5), .val (.long (4503599627370495 : Int64)), .second, .val (.ref a1), .val (.ref a24), .unset, .unset, .unset, .unset, .unset, .unset, .unset, .unset, .unset] rfl ?_
    refine s_iload C at_99 (pc' := 101) rfl rfl ?_
    refine s_bipush C at_101 (pc' := 103) rfl (7 : Int32) rfl ?_
    refine s_iand C at_103 (pc' := 104) rfl ?_
    refine s_iconst C at_104 (pc' := 105) rfl (1 : Int32) rfl ?_
    refine s_iadd C at_105 (pc' := 106) rfl ?_
    obtain ⟨fk, hfk⟩ : ∃ y, y = ((x5 &&& (7 : Int32)) + (1 : Int32)) := ⟨_, rfl⟩
    have h8 := own_f8 hfk
    rw [← hfk]
    clear hfk
    rcases h8 with q | q | q | q | q | q | q | q
    · subst q
      refine s_istoreP C at_106 (pc' := 108) rfl #[.val (.long x0), .second, .val (.long x1), .second, .val (.long x2), .second, .val (.long x3), .second, .val (.long x4), .second, .val (.int x5), .val (.long (4503599627370495 : Int64)), .second, .val (.ref a1), .val (.ref a24), .val (.int (1 : Int32)), .unset, .unset, .unset, .unset, .unset, .unset, .unset, .unset] rfl ?_
      refine s_iload C at_108 (pc' := 110) rfl rfl ?_
      refine s_bipush C at_110 (pc' := 112) rfl (8 : Int32) rfl ?_
      refine s_iand C at_112 (pc' := 113) rfl ?_
      refine s_if_eq C at_113 (pc' := 116) rfl (pcY := 120) rfl (fun c53 => ?_) (fun c53 => ?_)
      · skip
        refine s_iconst C at_120 (pc' := 121) rfl (0 : Int32) rfl ?_
        refine s_istoreP C at_121 (pc' := 123) rfl #[.val (.long x0), .second, .val (.long x1), .second, .val (.long x2), .second, .val (.long x3), .second, .val (.long x4), .second, .val (.int x5), .val (.long (4503599627370495 : Int64)), .second, .val (.ref a1), .val (.ref a24), .val (.int (1 : Int32)), .val (.int (0 : Int32)), .unset, .unset, .unset, .unset, .unset, .unset, .unset] rfl ?_
        refine s_iconst C at_123 (pc' := 124) rfl (5 : Int32) rfl ?_
        refine s_newarr C (cap := 5) at_124 (pc' := 126) rfl (w1 hw) (by decide) (by decide) (by decide) (k' := 3) rfl (by decide) (n' := 15) rfl (by decide) [(.long (0 : Int64)), (.long (0 : Int64)), (.long (0 : Int64)), (.long (0 : Int64)), (.long (0 : Int64))] rfl (fun h54 a54 E54 g54 A54 => ?_)
        have Vx55 := (Vx49.other W50 ne25)
        have ne56 : a1 ≠ a54 := Nat.ne_of_lt (by rw [g54]; exact Vx55.lt)
        have ne57 : a24 ≠ a54 := Nat.ne_of_lt (by rw [g54]; exact A50.lt)
        have Vx58 := ((((((Vx26.ext E24).other W34 ne27).other W38 ne27).other W42 ne27).other W46 ne27).other W50 ne27)
        have ne59 : p_ ≠ a54 := Nat.ne_of_lt (by rw [g54]; exact Vx58.lt)
        have Vx60 := ((((((Vx28.ext E24).other W34 ne29).other W38 ne29).other W42 ne29).other W46 ne29).other W50 ne29)
        have ne61 : t ≠ a54 := Nat.ne_of_lt (by rw [g54]; exact Vx60.lt)
        have gn62 : n0 ≤ a54 := by rw [g54]; exact sz51
        have sz63 : n0 ≤ h54.size := (Nat.le_trans sz51 E54.1)
        have Od64 : Old Z n0 h54 := Od52.ext E54
        refine s_astore C at_126 (pc' := 128) rfl rfl #[.val (.long x0), .second, .val (.long x1), .second, .val (.long x2), .second, .val (.long x3), .second, .val (.long x4), .second, .val (.int x5), .val (.long (4503599627370495 : Int64)), .second, .val (.ref a1), .val (.ref a24), .val (.int (1 : Int32)), .val (.int (0 : Int32)), .val (.ref a54), .unset, .unset, .unset, .unset, .unset, .unset] rfl ?_
        refine s_iconst C at_128 (pc' := 129) rfl (5 : Int32) rfl ?_
        refine s_newarr C (cap := 5) at_129 (pc' := 131) rfl (w1 hw) (by decide) (by decide) (by decide) (k' := 4) rfl (by decide) (n' := 20) rfl (by decide) [(.long (0 : Int64)), (.long (0 : Int64)), (.long (0 : Int64)), (.long (0 : Int64)), (.long (0 : Int64))] rfl (fun h65 a65 E65 g65 A65 => ?_)
        have Vx66 := (Vx55.ext E54)
        have ne67 : a1 ≠ a65 := Nat.ne_of_lt (by rw [g65]; exact Vx66.lt)
        have Vx68 := (A50.ext E54)
        have ne69 : a24 ≠ a65 := Nat.ne_of_lt (by rw [g65]; exact Vx68.lt)
        have ne70 : a54 ≠ a65 := Nat.ne_of_lt (by rw [g65]; exact A54.lt)
        have Vx71 := (Vx58.ext E54)
        have ne72 : p_ ≠ a65 := Nat.ne_of_lt (by rw [g65]; exact Vx71.lt)
        have Vx73 := (Vx60.ext E54)
        have ne74 : t ≠ a65 := Nat.ne_of_lt (by rw [g65]; exact Vx73.lt)
        have gn75 : n0 ≤ a65 := by rw [g65]; exact sz63
        have sz76 : n0 ≤ h65.size := (Nat.le_trans sz63 E65.1)
        have Od77 : Old Z n0 h65 := Od64.ext E65
        refine s_astore C at_131 (pc' := 133) rfl rfl #[.val (.long x0), .second, .val (.long x1), .second, .val (.long x2), .second, .val (.long x3), .second, .val (.long x4), .second, .val (.int x5), .val (.long (4503599627370495 : Int64)), .second, .val (.ref a1), .val (.ref a24), .val (.int (1 : Int32)), .val (.int (0 : Int32)), .val (.ref a54), .val (.ref a65), .unset, .unset, .unset, .unset, .unset] rfl ?_
        refine s_iconst C at_133 (pc' := 134) rfl (5 : Int32) rfl ?_
        refine s_newarr C (cap := 5) at_134 (pc' := 136) rfl (w1 hw) (by decide) (by decide) (by decide) (k' := 5) rfl (by decide) (n' := 25) rfl (by decide) [(.long (0 : Int64)), (.long (0 : Int64)), (.long (0 : Int64)), (.long (0 : Int64)), (.long (0 : Int64))] rfl (fun h78 a78 E78 g78 A78 => ?_)
        have Vx79 := (Vx66.ext E65)
        have ne80 : a1 ≠ a78 := Nat.ne_of_lt (by rw [g78]; exact Vx79.lt)
        have Vx81 := (Vx68.ext E65)
        have ne82 : a24 ≠ a78 := Nat.ne_of_lt (by rw [g78]; exact Vx81.lt)
        have Vx83 := (A54.ext E65)
        have ne84 : a54 ≠ a78 := Nat.ne_of_lt (by rw [g78]; exact Vx83.lt)
        have ne85 : a65 ≠ a78 := Nat.ne_of_lt (by rw [g78]; exact A65.lt)
        have Vx86 := (Vx71.ext E65)
        have ne87 : p_ ≠ a78 := Nat.ne_of_lt (by rw [g78]; exact Vx86.lt)
        have Vx88 := (Vx73.ext E65)
        have ne89 : t ≠ a78 := Nat.ne_of_lt (by rw [g78]; exact Vx88.lt)
        have gn90 : n0 ≤ a78 := by rw [g78]; exact sz76
        have sz91 : n0 ≤ h78.size := (Nat.le_trans sz76 E78.1)
        have Od92 : Old Z n0 h78 := Od77.ext E78
        refine s_astore C at_136 (pc' := 138) rfl rfl #[.val (.long x0), .second, .val (.long x1), .second, .val (.long x2), .second, .val (.long x3), .second, .val (.long x4), .second, .val (.int x5), .val (.long (4503599627370495 : Int64)), .second, .val (.ref a1), .val (.ref a24), .val (.int (1 : Int32)), .val (.int (0 : Int32)), .val (.ref a54), .val (.ref a65), .val (.ref a78), .unset, .unset, .unset, .unset] rfl ?_
        refine s_iconst C at_138 (pc' := 139) rfl (5 : Int32) rfl ?_
        refine s_newarr C (cap := 5) at_139 (pc' := 141) rfl (w1 hw) (by decide) (by decide) (by decide) (k' := 6) rfl (by decide) (n' := 30) rfl (by decide) [(.long (0 : Int64)), (.long (0 : Int64)), (.long (0 : Int64)), (.long (0 : Int64)), (.long (0 : Int64))] rfl (fun h93 a93 E93 g93 A93 => ?_)
        have Vx94 := (Vx79.ext E78)
        have ne95 : a1 ≠ a93 := Nat.ne_of_lt (by rw [g93]; exact Vx94.lt)
        have Vx96 := (Vx81.ext E78)
        have ne97 : a24 ≠ a93 := Nat.ne_of_lt (by rw [g93]; exact Vx96.lt)
        have Vx98 := (Vx83.ext E78)
        have ne99 : a54 ≠ a93 := Nat.ne_of_lt (by rw [g93]; exact Vx98.lt)
        have Vx100 := (A65.ext E78)
        have ne101 : a65 ≠ a93 := Nat.ne_of_lt (by rw [g93]; exact Vx100.lt)
        have ne102 : a78 ≠ a93 := Nat.ne_of_lt (by rw [g93]; exact A78.lt)
        have Vx103 := (Vx86.ext E78)
        have ne104 : p_ ≠ a93 := Nat.ne_of_lt (by rw [g93]; exact Vx103.lt)
        have Vx105 := (Vx88.ext E78)
        have ne106 : t ≠ a93 := Nat.ne_of_lt (by rw [g93]; exact Vx105.lt)
        have gn107 : n0 ≤ a93 := by rw [g93]; exact sz91
        have sz108 : n0 ≤ h93.size := (Nat.le_trans sz91 E93.1)
        have Od109 : Old Z n0 h93 := Od92.ext E93
        refine s_astore C at_141 (pc' := 143) rfl rfl #[.val (.long x0), .second, .val (.long x1), .second, .val (.long x2), .second, .val (.long x3), .second, .val (.long x4), .second, .val (.int x5), .val (.long (4503599627370495 : Int64)), .second, .val (.ref a1), .val (.ref a24), .val (.int (1 : Int32)), .val (.int (0 : Int32)), .val (.ref a54), .val (.ref a65), .val (.ref a78), .val (.ref a93), .unset, .unset, .unset] rfl ?_
        refine s_iconst C at_143 (pc' := 144) rfl (5 : Int32) rfl ?_
        refine s_newarr C (cap := 5) at_144 (pc' := 146) rfl (w1 hw) (by decide) (by decide) (by decide) (k' := 7) rfl (by decide) (n' := 35) rfl (by decide) [(.long (0 : Int64)), (.long (0 : Int64)), (.long (0 : Int64)), (.long (0 : Int64)), (.long (0 : Int64))] rfl (fun h110 a110 E110 g110 A110 => ?_)
        have Vx111 := (Vx94.ext E93)
        have ne112 : a1 ≠ a110 := Nat.ne_of_lt (by rw [g110]; exact Vx111.lt)
        have Vx113 := (Vx96.ext E93)
        have ne114 : a24 ≠ a110 := Nat.ne_of_lt (by rw [g110]; exact Vx113.lt)
        have Vx115 := (Vx98.ext E93)
        have ne116 : a54 ≠ a110 := Nat.ne_of_lt (by rw [g110]; exact Vx115.lt)
        have Vx117 := (Vx100.ext E93)
        have ne118 : a65 ≠ a110 := Nat.ne_of_lt (by rw [g110]; exact Vx117.lt)
        have Vx119 := (A78.ext E93)
        have ne120 : a78 ≠ a110 := Nat.ne_of_lt (by rw [g110]; exact Vx119.lt)
        have ne121 : a93 ≠ a110 := Nat.ne_of_lt (by rw [g110]; exact A93.lt)
        have Vx122 := (Vx103.ext E93)
        have ne123 : p_ ≠ a110 := Nat.ne_of_lt (by rw [g110]; exact Vx122.lt)
        have Vx124 := (Vx105.ext E93)
        have ne125 : t ≠ a110 := Nat.ne_of_lt (by rw [g110]; exact Vx124.lt)
        have gn126 : n0 ≤ a110 := by rw [g110]; exact sz108
        have sz127 : n0 ≤ h110.size := (Nat.le_trans sz108 E110.1)
        have Od128 : Old Z n0 h110 := Od109.ext E110
        refine s_astore C at_146 (pc' := 148) rfl rfl #[.val (.long x0), .second, .val (.long x1), .second, .val (.long x2), .second, .val (.long x3), .second, .val (.long x4), .second, .val (.int x5), .val (.long (4503599627370495 : Int64)), .second, .val (.ref a1), .val (.ref a24), .val (.int (1 : Int32)), .val (.int (0 : Int32)), .val (.ref a54), .val (.ref a65), .val (.ref a78), .val (.ref a93), .val (.ref a110), .unset, .unset] rfl ?_
        refine s_iconst C at_148 (pc' := 149) rfl (5 : Int32) rfl ?_
        refine s_newarr C (cap := 5) at_149 (pc' := 151) rfl (w1 hw) (by decide) (by decide) (by decide) (k' := 8) rfl (by decide) (n' := 40) rfl (by decide) [(.long (0 : Int64)), (.long (0 : Int64)), (.long (0 : Int64)), (.long (0 : Int64)), (.long (0 : Int64))] rfl (fun h129 a129 E129 g129 A129 => ?_)
        have Vx130 := (Vx111.ext E110)
        have ne131 : a1 ≠ a129 := Nat.ne_of_lt (by rw [g129]; exact Vx130.lt)
        have ne132 : a110 ≠ a129 := Nat.ne_of_lt (by rw [g129]; exact A110.lt)
        have Vx133 := (Vx113.ext E110)
        have ne134 : a24 ≠ a129 := Nat.ne_of_lt (by rw [g129]; exact Vx133.lt)
        have Vx135 := (Vx115.ext E110)
        have ne136 : a54 ≠ a129 := Nat.ne_of_lt (by rw [g129]; exact Vx135.lt)
        have Vx137 := (Vx117.ext E110)
        have ne138 : a65 ≠ a129 := Nat.ne_of_lt (by rw [g129]; exact Vx137.lt)
        have Vx139 := (Vx119.ext E110)
        have ne140 : a78 ≠ a129 := Nat.ne_of_lt (by rw [g129]; exact Vx139.lt)
        have Vx141 := (A93.ext E110)
        have ne142 : a93 ≠ a129 := Nat.ne_of_lt (by rw [g129]; exact Vx141.lt)
        have Vx143 := (Vx122.ext E110)
        have ne144 : p_ ≠ a129 := Nat.ne_of_lt (by rw [g129]; exact Vx143.lt)
        have Vx145 := (Vx124.ext E110)
        have ne146 : t ≠ a129 := Nat.ne_of_lt (by rw [g129]; exact Vx145.lt)
        have gn147 : n0 ≤ a129 := by rw [g129]; exact sz127
        have sz148 : n0 ≤ h129.size := (Nat.le_trans sz127 E129.1)
        have Od149 : Old Z n0 h129 := Od128.ext E129
        refine s_astore C at_151 (pc' := 153) rfl rfl #[.val (.long x0), .second, .val (.long x1), .second, .val (.long x2), .second, .val (.long x3), .second, .val (.long x4), .second, .val (.int x5), .val (.long (4503599627370495 : Int64)), .second, .val (.ref a1), .val (.ref a24), .val (.int (1 : Int32)), .val (.int (0 : Int32)), .val (.ref a54), .val (.ref a65), .val (.ref a78), .val (.ref a93), .val (.ref a110), .val (.ref a129), .unset] rfl ?_
        refine s_iload C at_153 (pc' := 155) rfl rfl ?_
        refine s_if_eq C at_155 (pc' := 158) rfl (pcY := 163) rfl (fun c150 => ?_) (fun hc => by exfalso; revert hc; decide)
        refine s_aload C at_163 (pc' := 165) rfl rfl rfl ?_
        refine s_astore C at_165 (pc' := 167) rfl rfl #[.val (.long x0), .second, .val (.long x1), .second, .val (.long x2), .second, .val (.long x3), .second, .val (.long x4), .second, .val (.int x5), .val (.long (4503599627370495 : Int64)), .second, .val (.ref a1), .val (.ref a24), .val (.int (1 : Int32)), .val (.int (0 : Int32)), .val (.ref a54), .val (.ref a65), .val (.ref a78), .val (.ref a93), .val (.ref a110), .val (.ref a129), .val (.ref a129)] rfl ?_
        refine s_aload C at_167 (pc' := 169) rfl rfl rfl ?_
        refine s_aload C at_169 (pc' := 171) rfl rfl rfl ?_
        refine s_aload C at_171 (pc' := 173) rfl rfl rfl ?_
        have Vx152 := (Vx145.ext E129)
        have Vx153 := (Vx143.ext E129)
        have Vx154 := (Vx137.ext E129)
        have Vx155 := (Vx133.ext E129)
        refine s_callS0 C at_173 (pc' := 176) rfl (w11 hw) (w12 hw) (w13 hw) (w14 hw) (by decide) [(.ref a65), (.ref a24), (.ref a24)] [] pd5 rfl rfl (c_add l Z a0 hw t p_ a65 a24 a24 (0 : Int64) (0 : Int64) (0 : Int64) (0 : Int64) (0 : Int64) y0 y1 y2 y3 y4 y0 y1 y2 y3 y4 va va h129 n0 sz148 Od149 S_t S_p Vx152 Vx153 gn75 Vx154 Vx155 Vx155 na na la la) rfl (W := 0) rfl (by decide) (by decide) (k' := 8) rfl (by decide) (n' := 40) rfl (by decide) (fun h151 q151 => ?_)
        obtain ⟨K151, z151_0, z151_1, z151_2, z151_3, z151_4, v151, V151, N151, L151, C151⟩ := q151
        have sz156 : n0 ≤ h151.size := (Nat.le_trans sz148 K151.1)
        have Od157 : Old Z n0 h151 := Od149.keep K151 (allS gn75 all0)
        refine s_aload C at_176 (pc' := 178) rfl rfl rfl ?_
        refine s_aload C at_178 (pc' := 180) rfl rfl rfl ?_
        refine s_aload C at_180 (pc' := 182) rfl rfl rfl ?_
        have Vx159 := (Vx152.keep K151 (ninS ne74 nin0))
        have Vx160 := (Vx153.keep K151 (ninS ne72 nin0))
        have Vx161 := ((Vx139.ext E129).keep K151 (ninS (Ne.symm ne85) nin0))
        refine s_callS0 C at_182 (pc' := 185) rfl (w11 hw) (w12 hw) (w13 hw) (w14 hw) (by decide) [(.ref a78), (.ref a65), (.ref a65)] [] pd5 rfl rfl (c_add l Z a0 hw t p_ a78 a65 a65 (0 : Int64) (0 : Int64) (0 : Int64) (0 : Int64) (0 : Int64) z151_0 z151_1 z151_2 z151_3 z151_4 z151_0 z151_1 z151_2 z151_3 z151_4 v151 v151 h151 n0 sz156 Od157 S_t S_p Vx159 Vx160 gn90 Vx161 V151 V151 N151 N151 L151 L151) rfl (W := 0) rfl (by decide) (by decide) (k' := 8) rfl (by decide) (n' := 40) rfl (by decide) (fun h158 q158 => ?_)
        obtain ⟨K158, z158_0, z158_1, z158_2, z158_3, z158_4, v158, V158, N158, L158, C158⟩ := q158
        have sz162 : n0 ≤ h158.size := (Nat.le_trans sz156 K158.1)
        have Od163 : Old Z n0 h158 := Od157.keep K158 (allS gn90 all0)
        refine s_aload C at_185 (pc' := 187) rfl rfl rfl ?_
        refine s_aload C at_187 (pc' := 189) rfl rfl rfl ?_
        refine s_aload C at_189 (pc' := 191) rfl rfl rfl ?_
        have Vx165 := (Vx159.keep K158 (ninS ne89 nin0))
        have Vx166 := (Vx160.keep K158 (ninS ne87 nin0))
        have Vx167 := (((Vx141.ext E129).keep K151 (ninS (Ne.symm ne101) nin0)).keep K158 (ninS (Ne.symm ne102) nin0))
        refine s_callS0 C at_191 (pc' := 194) rfl (w11 hw) (w12 hw) (w13 hw) (w14 hw) (by decide) [(.ref a93), (.ref a78), (.ref a78)] [] pd5 rfl rfl (c_add l Z a0 hw t p_ a93 a78 a78 (0 : Int64) (0 : Int64) (0 : Int64) (0 : Int64) (0 : Int64) z158_0 z158_1 z158_2 z158_3 z158_4 z158_0 z158_1 z158_2 z158_3 z158_4 v158 v158 h158 n0 sz162 Od163 S_t S_p Vx165 Vx166 gn107 Vx167 V158 V158 N158 N158 L158 L158) rfl (W := 0) rfl (by decide) (by decide) (k' := 8) rfl (by decide) (n' := 40) rfl (by decide) (fun h164 q164 => ?_)
        obtain ⟨K164, z164_0, z164_1, z164_2, z164_3, z164_4, v164, V164, N164, L164, C164⟩ := q164
        have sz168 : n0 ≤ h164.size := (Nat.le_trans sz162 K164.1)
        have Od169 : Old Z n0 h164 := Od163.keep K164 (allS gn107 all0)
        refine s_aload C at_194 (pc' := 196) rfl rfl rfl ?_
        refine s_iload C at_196 (pc' := 198) rfl rfl ?_
        refine s_iconst C at_198 (pc' := 199) rfl (1 : Int32) rfl ?_
        refine s_iand C at_199 (pc' := 200) rfl ?_
        refine s_foldI C (y := (1 : Int32)) (by decide) ?_
        refine s_if_eq C at_200 (pc' := 203) rfl (pcY := 208) rfl (fun hc => by exfalso; revert hc; decide) (fun c170 => ?_)
        refine s_aload C at_203 (pc' := 205) rfl rfl rfl ?_
        refine s_goto C at_205 (pc' := 210) rfl ?_
        refine s_iload C at_210 (pc' := 212) rfl rfl ?_
        refine s_iconst C at_212 (pc' := 213) rfl (2 : Int32) rfl ?_
        refine s_iand C at_213 (pc' := 214) rfl ?_
        refine s_foldI C (y := (0 : Int32)) (by decide) ?_
        refine s_if_eq C at_214 (pc' := 217) rfl (pcY := 222) rfl (fun c171 => ?_) (fun hc => by exfalso; revert hc; decide)
        refine s_aload C at_222 (pc' := 224) rfl rfl rfl ?_
        have Vx173 := (Vx165.keep K164 (ninS ne106 nin0))
        have Vx174 := (Vx166.keep K164 (ninS ne104 nin0))
        have Vx175 := ((((A110.ext E129).keep K151 (ninS (Ne.symm ne118) nin0)).keep K158 (ninS (Ne.symm ne120) nin0)).keep K164 (ninS (Ne.symm ne121) nin0))
        have Vx176 := (((Vx155.keep K151 (ninS ne69 nin0)).keep K158 (ninS ne82 nin0)).keep K164 (ninS ne97 nin0))
        have Vx177 := ((((Vx135.ext E129).keep K151 (ninS ne70 nin0)).keep K158 (ninS ne84 nin0)).keep K164 (ninS ne99 nin0))
        refine s_callS0 C at_224 (pc' := 227) rfl (w11 hw) (w12 hw) (w13 hw) (w14 hw) (by decide) [(.ref a110), (.ref a24), (.ref a54)] [] pd5 rfl rfl (c_add l Z a0 hw t p_ a110 a24 a54 (0 : Int64) (0 : Int64) (0 : Int64) (0 : Int64) (0 : Int64) y0 y1 y2 y3 y4 (0 : Int64) (0 : Int64) (0 : Int64) (0 : Int64) (0 : Int64) va 0 h164 n0 sz168 Od169 S_t S_p Vx173 Vx174 gn126 Vx175 Vx176 Vx177 na own_zero la (by decide)) rfl (W := 0) rfl (by decide) (by decide) (k' := 8) rfl (by decide) (n' := 40) rfl (by decide) (fun h172 q172 => ?_)
        obtain ⟨K172, z172_0, z172_1, z172_2, z172_3, z172_4, v172, V172, N172, L172, C172⟩ := q172
        have sz178 : n0 ≤ h172.size := (Nat.le_trans sz168 K172.1)
        have Od179 : Old Z n0 h172 := Od169.keep K172 (allS gn126 all0)
        refine s_aload C at_227 (pc' := 229) rfl rfl rfl ?_
        refine s_aload C at_229 (pc' := 231) rfl rfl rfl ?_
        refine s_iload C at_231 (pc' := 233) rfl rfl ?_
        refine s_iconst C at_233 (pc' := 234) rfl (4 : Int32) rfl ?_
        refine s_iand C at_234 (pc' := 235) rfl ?_
        refine s_foldI C (y := (0 : Int32)) (by decide) ?_
        refine s_if_eq C at_235 (pc' := 238) rfl (pcY := 243) rfl (fun c180 => ?_) (fun hc => by exfalso; revert hc; decide)
        refine s_aload C at_243 (pc' := 245) rfl rfl rfl ?_
        have Vx182 := (Vx173.keep K172 (ninS ne125 nin0))
        have Vx183 := (Vx174.keep K172 (ninS ne123 nin0))
        have Vx184 := (Vx177.keep K172 (ninS ne116 nin0))
        refine s_callS0 C at_245 (pc' := 248) rfl (w11 hw) (w12 hw) (w13 hw) (w14 hw) (by decide) [(.ref a110), (.ref a110), (.ref a54)] [] pd5 rfl rfl (c_add l Z a0 hw t p_ a110 a110 a54 z172_0 z172_1 z172_2 z172_3 z172_4 z172_0 z172_1 z172_2 z172_3 z172_4 (0 : Int64) (0 : Int64) (0 : Int64) (0 : Int64) (0 : Int64) v172 0 h172 n0 sz178 Od179 S_t S_p Vx182 Vx183 gn126 V172 V172 Vx184 N172 own_zero L172 (by decide)) rfl (W := 0) rfl (by decide) (by decide) (k' := 8) rfl (by decide) (n' := 40) rfl (by decide) (fun h181 q181 => ?_)
        obtain ⟨K181, z181_0, z181_1, z181_2, z181_3, z181_4, v181, V181, N181, L181, C181⟩ := q181
        have sz185 : n0 ≤ h181.size := (Nat.le_trans sz178 K181.1)
        have Od186 : Old Z n0 h181 := Od179.keep K181 (allS gn126 all0)
        refine s_aload C at_248 (pc' := 250) rfl rfl rfl ?_
        refine s_aload C at_250 (pc' := 252) rfl rfl rfl ?_
        refine s_iload C at_252 (pc' := 254) rfl rfl ?_
        refine s_bipush C at_254 (pc' := 256) rfl (8 : Int32) rfl ?_
        refine s_iand C at_256 (pc' := 257) rfl ?_
        refine s_foldI C (y := (0 : Int32)) (by decide) ?_
        refine s_if_eq C at_257 (pc' := 260) rfl (pcY := 265) rfl (fun c187 => ?_) (fun hc => by exfalso; revert hc; decide)
        refine s_aload C at_265 (pc' := 267) rfl rfl rfl ?_
        have Vx189 := (Vx182.keep K181 (ninS ne125 nin0))
        have Vx190 := (Vx183.keep K181 (ninS ne123 nin0))
        have Vx191 := (Vx184.keep K181 (ninS ne116 nin0))
        refine s_callS0 C at_267 (pc' := 270) rfl (w11 hw) (w12 hw) (w13 hw) (w14 hw) (by decide) [(.ref a110), (.ref a110), (.ref a54)] [] pd5 rfl rfl (c_add l Z a0 hw t p_ a110 a110 a54 z181_0 z181_1 z181_2 z181_3 z181_4 z181_0 z181_1 z181_2 z181_3 z181_4 (0 : Int64) (0 : Int64) (0 : Int64) (0 : Int64) (0 : Int64) v181 0 h181 n0 sz185 Od186 S_t S_p Vx189 Vx190 gn126 V181 V181 Vx191 N181 own_zero L181 (by decide)) rfl (W := 0) rfl (by decide) (by decide) (k' := 8) rfl (by decide) (n' := 40) rfl (by decide) (fun h188 q188 => ?_)
        obtain ⟨K188, z188_0, z188_1, z188_2, z188_3, z188_4, v188, V188, N188, L188, C188⟩ := q188
        have sz192 : n0 ≤ h188.size := (Nat.le_trans sz185 K188.1)
        have Od193 : Old Z n0 h188 := Od186.keep K188 (allS gn126 all0)
        refine s_aload C at_270 (pc' := 272) rfl rfl rfl ?_
        refine s_aload C at_272 (pc' := 274) rfl rfl rfl ?_
        refine s_iload C at_274 (pc' := 276) rfl rfl ?_
        have Vx195 := ((((((A129.keep K151 (ninS (Ne.symm ne138) nin0)).keep K158 (ninS (Ne.symm ne140) nin0)).keep K164 (ninS (Ne.symm ne142) nin0)).keep K172 (ninS (Ne.symm ne132) nin0)).keep K181 (ninS (Ne.symm ne132) nin0)).keep K188 (ninS (Ne.symm ne132) nin0))
        have Vx196 := (((((((Vx130.ext E129).keep K151 (ninS ne67 nin0)).keep K158 (ninS ne80 nin0)).keep K164 (ninS ne95 nin0)).keep K172 (ninS ne112 nin0)).keep K181 (ninS ne112 nin0)).keep K188 (ninS ne112 nin0))
        refine s_callS0 C at_276 (pc' := 279) rfl (w22 hw) (w23 hw) (w13 hw) (w24 hw) (by decide) [(.ref a129), (.ref a1), (.int (1 : Int32))] [] pd3 rfl rfl (c_ms1 l Z a0 hw a129 a1 (0 : Int64) (0 : Int64) (0 : Int64) (0 : Int64) (0 : Int64) y0 y1 y2 y3 y4 va h188 n0 sz192 gn147 Vx195 Vx196 na la) rfl (W := 0) rfl (by decide) (by decide) (k' := 8) rfl (by decide) (n' := 40) rfl (by decide) (fun h194 q194 => ?_)
        obtain ⟨K194, z194_0, z194_1, z194_2, z194_3, z194_4, v194, V194, N194, L194, C194⟩ := q194
        have sz197 : n0 ≤ h194.size := (Nat.le_trans sz192 K194.1)
        have Od198 : Old Z n0 h194 := Od193.keep K194 (allS gn147 all0)
        refine s_aload C at_279 (pc' := 281) rfl rfl rfl ?_
        refine s_callSI C at_281 (pc' := 284) rfl (w26 hw) (w27 hw) (w5 hw) (w28 hw) (by decide) [(.ref a129)] [] pd0 rfl rfl (c_nmz l Z a0 hw a129 z194_0 z194_1 z194_2 z194_3 z194_4 h194 n0 sz197 V194) rfl (W := 0) rfl (by decide) (by decide) (k' := 8) rfl (by decide) (n' := 40) rfl (by decide) (fun _ _ q199 => ?_)
        obtain ⟨rfl, rfl⟩ := q199
        refine s_foldI C (y := (1 : Int32)) (own_nmz N194 L194) ?_
        refine s_if_ne C at_284 (pc' := 287) rfl (pcY := 289) rfl (fun c200 => ?_) (fun hc => by exfalso; revert hc; decide)
        refine s_aload C at_289 (pc' := 291) rfl rfl rfl ?_
        refine s_callSI C at_291 (pc' := 294) rfl (w3 hw) (w4 hw) (w5 hw) (w6 hw) (by decide) [(.ref a129)] [] pd0 rfl rfl (c_blw l Z a0 hw a129 z194_0 z194_1 z194_2 z194_3 z194_4 h194 n0 sz197 V194) rfl (W := 0) rfl (by decide) (by decide) (k' := 8) rfl (by decide) (n' := 40) rfl (by decide) (fun _ _ q201 => ?_)
        obtain ⟨rfl, rfl⟩ := q201
        refine s_foldI C (y := (1 : Int32)) ((own_blw N194).1 L194) ?_
        refine s_if_eq C at_294 (pc' := 297) rfl (pcY := 313) rfl (fun hc => by exfalso; revert hc; decide) (fun c202 => ?_)
        refine s_aload C at_297 (pc' := 299) rfl rfl rfl ?_
        refine s_aload C at_299 (pc' := 301) rfl rfl rfl ?_
        have hab : (v194 - v188) % 115792089210356248762697446949407573530086143415290314195533631308867097853951 = 0 := own_hab1 C151 C158 C164 C172 C181 C188 C194
        have Vx204 := ((Vx189.keep K188 (ninS ne125 nin0)).keep K194 (ninS ne146 nin0))
        have Vx205 := ((Vx190.keep K188 (ninS ne123 nin0)).keep K194 (ninS ne144 nin0))
        have Vx206 := (V188.keep K194 (ninS ne132 nin0))
        refine s_callSL C at_301 (pc' := 304) rfl (w31 hw) (w32 hw) (w13 hw) (w33 hw) (by decide) [(.ref a129), (.ref a110)] [] pd2 rfl rfl (c_eq l Z a0 hw t p_ a129 a110 z194_0 z194_1 z194_2 z194_3 z194_4 z188_0 z188_1 z188_2 z188_3 z188_4 v194 v188 h194 n0 sz197 Od198 S_t S_p Vx204 Vx205 V194 Vx206 N194 N188 L194 L188 hab) rfl (W := 0) rfl (by decide) (by decide) (k' := 10) rfl (by decide) (n' := 50) rfl (by decide) (fun _ h203 q203 => ?_)
        obtain ⟨rfl, K203⟩ := q203
        have sz207 : n0 ≤ h203.size := (Nat.le_trans sz197 K203.1)
        have Od208 : Old Z n0 h203 := Od198.keep K203 all0
        refine s_lconst C at_304 (pc' := 305) rfl (1 : Int64) rfl ?_
        refine s_lc_ne C at_305 (pc1 := 306) rfl at_306 (pc' := 309) rfl (pcY := 313) rfl (fun hc => by exfalso; revert hc; decide) (fun c209 => ?_)
        refine s_iconst C at_309 (pc' := 310) rfl (1 : Int32) rfl ?_
        refine s_goto C at_310 (pc' := 314) rfl ?_
        exact s_retN C (by simp) at_314 (by decide) (by decide) rfl
      · skip
        refine s_iconst C at_116 (pc' := 117) rfl (1 : Int32) rfl ?_
        refine s_goto C at_117 (pc' := 121) rfl ?_
        refine s_istoreP C at_121 (pc' := 123) rfl #[.val (.long x0), .second, .val (.long x1), .second, .val (.long x2), .second, .val (.long x3), .second, .val (.long x4), .second, .val (.int x5), .val (.long (4503599627370495 : Int64)), .second, .val (.ref a1), .val (.ref a24), .val (.int (1 : Int32)), .val (.int (1 : Int32)), .unset, .unset, .unset, .unset, .unset, .unset, .unset] rfl ?_
        refine s_iconst C at_123 (pc' := 124) rfl (5 : Int32) rfl ?_
        refine s_newarr C (cap := 5) at_124 (pc' := 126) rfl (w1 hw) (by decide) (by decide) (by decide) (k' := 3) rfl (by decide) (n' := 15) rfl (by decide) [(.long (0 : Int64)), (.long (0 : Int64)), (.long (0 : Int64)), (.long (0 : Int64)), (.long (0 : Int64))] rfl (fun h210 a210 E210 g210 A210 => ?_)
        have Vx211 := (Vx49.other W50 ne25)
        have ne212 : a1 ≠ a210 := Nat.ne_of_lt (by rw [g210]; exact Vx211.lt)
        have ne213 : a24 ≠ a210 := Nat.ne_of_lt (by rw [g210]; exact A50.lt)
        have Vx214 := ((((((Vx26.ext E24).other W34 ne27).other W38 ne27).other W42 ne27).other W46 ne27).other W50 ne27)
        have ne215 : p_ ≠ a210 := Nat.ne_of_lt (by rw [g210]; exact Vx214.lt)
        have Vx216 := ((((((Vx28.ext E24).other W34 ne29).other W38 ne29).other W42 ne29).other W46 ne29).other W50 ne29)
        have ne217 : t ≠ a210 := Nat.ne_of_lt (by rw [g210]; exact Vx216.lt)
        have gn218 : n0 ≤ a210 := by rw [g210]; exact sz51
        have sz219 : n0 ≤ h210.size := (Nat.le_trans sz51 E210.1)
        have Od220 : Old Z n0 h210 := Od52.ext E210
        refine s_astore C at_126 (pc' := 128) rfl rfl #[.val (.long x0), .second, .val (.long x1), .second, .val (.long x2), .second, .val (.long x3), .second, .val (.long x4), .second, .val (.int x5), .val (.long (4503599627370495 : Int64)), .second, .val (.ref a1), .val (.ref a24), .val (.int (1 : Int32)), .val (.int (1 : Int32)), .val (.ref a210), .unset, .unset, .unset, .unset, .unset, .unset] rfl ?_
        refine s_iconst C at_128 (pc' := 129) rfl (5 : Int32) rfl ?_
        refine s_newarr C (cap := 5) at_129 (pc' := 131) rfl (w1 hw) (by decide) (by decide) (by decide) (k' := 4) rfl (by decide) (n' := 20) rfl (by decide) [(.long (0 : Int64)), (.long (0 : Int64)), (.long (0 : Int64)), (.long (0 : Int64)), (.long (0 : Int64))] rfl (fun h221 a221 E221 g221 A221 => ?_)
        have Vx222 := (Vx211.ext E210)
        have ne223 : a1 ≠ a221 := Nat.ne_of_lt (by rw [g221]; exact Vx222.lt)
        have ne224 : a210 ≠ a221 := Nat.ne_of_lt (by rw [g221]; exact A210.lt)
        have Vx225 := (A50.ext E210)
        have ne226 : a24 ≠ a221 := Nat.ne_of_lt (by rw [g221]; exact Vx225.lt)
        have Vx227 := (Vx214.ext E210)
        have ne228 : p_ ≠ a221 := Nat.ne_of_lt (by rw [g221]; exact Vx227.lt)
        have Vx229 := (Vx216.ext E210)
        have ne230 : t ≠ a221 := Nat.ne_of_lt (by rw [g221]; exact Vx229.lt)
        have gn231 : n0 ≤ a221 := by rw [g221]; exact sz219
        have sz232 : n0 ≤ h221.size := (Nat.le_trans sz219 E221.1)
        have Od233 : Old Z n0 h221 := Od220.ext E221
        refine s_astore C at_131 (pc' := 133) rfl rfl #[.val (.long x0), .second, .val (.long x1), .second, .val (.long x2), .second, .val (.long x3), .second, .val (.long x4), .second, .val (.int x5), .val (.long (4503599627370495 : Int64)), .second, .val (.ref a1), .val (.ref a24), .val (.int (1 : Int32)), .val (.int (1 : Int32)), .val (.ref a210), .val (.ref a221), .unset, .unset, .unset, .unset, .unset] rfl ?_
        refine s_iconst C at_133 (pc' := 134) rfl (5 : Int32) rfl ?_
        refine s_newarr C (cap := 5) at_134 (pc' := 136) rfl (w1 hw) (by decide) (by decide) (by decide) (k' := 5) rfl (by decide) (n' := 25) rfl (by decide) [(.long (0 : Int64)), (.long (0 : Int64)), (.long (0 : Int64)), (.long (0 : Int64)), (.long (0 : Int64))] rfl (fun h234 a234 E234 g234 A234 => ?_)
        have Vx235 := (Vx222.ext E221)
        have ne236 : a1 ≠ a234 := Nat.ne_of_lt (by rw [g234]; exact Vx235.lt)
        have Vx237 := (A210.ext E221)
        have ne238 : a210 ≠ a234 := Nat.ne_of_lt (by rw [g234]; exact Vx237.lt)
        have ne239 : a221 ≠ a234 := Nat.ne_of_lt (by rw [g234]; exact A221.lt)
        have Vx240 := (Vx225.ext E221)
        have ne241 : a24 ≠ a234 := Nat.ne_of_lt (by rw [g234]; exact Vx240.lt)
        have Vx242 := (Vx227.ext E221)
        have ne243 : p_ ≠ a234 := Nat.ne_of_lt (by rw [g234]; exact Vx242.lt)
        have Vx244 := (Vx229.ext E221)
        have ne245 : t ≠ a234 := Nat.ne_of_lt (by rw [g234]; exact Vx244.lt)
        have gn246 : n0 ≤ a234 := by rw [g234]; exact sz232
        have sz247 : n0 ≤ h234.size := (Nat.le_trans sz232 E234.1)
        have Od248 : Old Z n0 h234 := Od233.ext E234
        refine s_astore C at_136 (pc' := 138) rfl rfl #[.val (.long x0), .second, .val (.long x1), .second, .val (.long x2), .second, .val (.long x3), .second, .val (.long x4), .second, .val (.int x5), .val (.long (4503599627370495 : Int64)), .second, .val (.ref a1), .val (.ref a24), .val (.int (1 : Int32)), .val (.int (1 : Int32)), .val (.ref a210), .val (.ref a221), .val (.ref a234), .unset, .unset, .unset, .unset] rfl ?_
        refine s_iconst C at_138 (pc' := 139) rfl (5 : Int32) rfl ?_
        refine s_newarr C (cap := 5) at_139 (pc' := 141) rfl (w1 hw) (by decide) (by decide) (by decide) (k' := 6) rfl (by decide) (n' := 30) rfl (by decide) [(.long (0 : Int64)), (.long (0 : Int64)), (.long (0 : Int64)), (.long (0 : Int64)), (.long (0 : Int64))] rfl (fun h249 a249 E249 g249 A249 => ?_)
        have Vx250 := (Vx235.ext E234)
        have ne251 : a1 ≠ a249 := Nat.ne_of_lt (by rw [g249]; exact Vx250.lt)
        have Vx252 := (Vx237.ext E234)
        have ne253 : a210 ≠ a249 := Nat.ne_of_lt (by rw [g249]; exact Vx252.lt)
        have Vx254 := (A221.ext E234)
        have ne255 : a221 ≠ a249 := Nat.ne_of_lt (by rw [g249]; exact Vx254.lt)
        have ne256 : a234 ≠ a249 := Nat.ne_of_lt (by rw [g249]; exact A234.lt)
        have Vx257 := (Vx240.ext E234)
        have ne258 : a24 ≠ a249 := Nat.ne_of_lt (by rw [g249]; exact Vx257.lt)
        have Vx259 := (Vx242.ext E234)
        have ne260 : p_ ≠ a249 := Nat.ne_of_lt (by rw [g249]; exact Vx259.lt)
        have Vx261 := (Vx244.ext E234)
        have ne262 : t ≠ a249 := Nat.ne_of_lt (by rw [g249]; exact Vx261.lt)
        have gn263 : n0 ≤ a249 := by rw [g249]; exact sz247
        have sz264 : n0 ≤ h249.size := (Nat.le_trans sz247 E249.1)
        have Od265 : Old Z n0 h249 := Od248.ext E249
        refine s_astore C at_141 (pc' := 143) rfl rfl #[.val (.long x0), .second, .val (.long x1), .second, .val (.long x2), .second, .val (.long x3), .second, .val (.long x4), .second, .val (.int x5), .val (.long (4503599627370495 : Int64)), .second, .val (.ref a1), .val (.ref a24), .val (.int (1 : Int32)), .val (.int (1 : Int32)), .val (.ref a210), .val (.ref a221), .val (.ref a234), .val (.ref a249), .unset, .unset, .unset] rfl ?_
        refine s_iconst C at_143 (pc' := 144) rfl (5 : Int32) rfl ?_
        refine s_newarr C (cap := 5) at_144 (pc' := 146) rfl (w1 hw) (by decide) (by decide) (by decide) (k' := 7) rfl (by decide) (n' := 35) rfl (by decide) [(.long (0 : Int64)), (.long (0 : Int64)), (.long (0 : Int64)), (.long (0 : Int64)), (.long (0 : Int64))] rfl (fun h266 a266 E266 g266 A266 => ?_)
        have Vx267 := (Vx250.ext E249)
        have ne268 : a1 ≠ a266 := Nat.ne_of_lt (by rw [g266]; exact Vx267.lt)
        have Vx269 := (Vx252.ext E249)
        have ne270 : a210 ≠ a266 := Nat.ne_of_lt (by rw [g266]; exact Vx269.lt)
        have Vx271 := (Vx254.ext E249)
        have ne272 : a221 ≠ a266 := Nat.ne_of_lt (by rw [g266]; exact Vx271.lt)
        have Vx273 := (A234.ext E249)
        have ne274 : a234 ≠ a266 := Nat.ne_of_lt (by rw [g266]; exact Vx273.lt)
        have Vx275 := (Vx257.ext E249)
        have ne276 : a24 ≠ a266 := Nat.ne_of_lt (by rw [g266]; exact Vx275.lt)
        have ne277 : a249 ≠ a266 := Nat.ne_of_lt (by rw [g266]; exact A249.lt)
        have Vx278 := (Vx259.ext E249)
        have ne279 : p_ ≠ a266 := Nat.ne_of_lt (by rw [g266]; exact Vx278.lt)
        have Vx280 := (Vx261.ext E249)
        have ne281 : t ≠ a266 := Nat.ne_of_lt (by rw [g266]; exact Vx280.lt)
        have gn282 : n0 ≤ a266 := by rw [g266]; exact sz264
        have sz283 : n0 ≤ h266.size := (Nat.le_trans sz264 E266.1)
        have Od284 : Old Z n0 h266 := Od265.ext E266
        refine s_astore C at_146 (pc' := 148) rfl rfl #[.val (.long x0), .second, .val (.long x1), .second, .val (.long x2), .second, .val (.long x3), .second, .val (.long x4), .second, .val (.int x5), .val (.long (4503599627370495 : Int64)), .second, .val (.ref a1), .val (.ref a24), .val (.int (1 : Int32)), .val (.int (1 : Int32)), .val (.ref a210), .val (.ref a221), .val (.ref a234), .val (.ref a249), .val (.ref a266), .unset, .unset] rfl ?_
        refine s_iconst C at_148 (pc' := 149) rfl (5 : Int32) rfl ?_
        refine s_newarr C (cap := 5) at_149 (pc' := 151) rfl (w1 hw) (by decide) (by decide) (by decide) (k' := 8) rfl (by decide) (n' := 40) rfl (by decide) [(.long (0 : Int64)), (.long (0 : Int64)), (.long (0 : Int64)), (.long (0 : Int64)), (.long (0 : Int64))] rfl (fun h285 a285 E285 g285 A285 => ?_)
        have Vx286 := (Vx267.ext E266)
        have ne287 : a1 ≠ a285 := Nat.ne_of_lt (by rw [g285]; exact Vx286.lt)
        have Vx288 := (Vx269.ext E266)
        have ne289 : a210 ≠ a285 := Nat.ne_of_lt (by rw [g285]; exact Vx288.lt)
        have Vx290 := (Vx271.ext E266)
        have ne291 : a221 ≠ a285 := Nat.ne_of_lt (by rw [g285]; exact Vx290.lt)
        have Vx292 := (Vx273.ext E266)
        have ne293 : a234 ≠ a285 := Nat.ne_of_lt (by rw [g285]; exact Vx292.lt)
        have Vx294 := (Vx275.ext E266)
        have ne295 : a24 ≠ a285 := Nat.ne_of_lt (by rw [g285]; exact Vx294.lt)
        have Vx296 := (A249.ext E266)
        have ne297 : a249 ≠ a285 := Nat.ne_of_lt (by rw [g285]; exact Vx296.lt)
        have ne298 : a266 ≠ a285 := Nat.ne_of_lt (by rw [g285]; exact A266.lt)
        have Vx299 := (Vx278.ext E266)
        have ne300 : p_ ≠ a285 := Nat.ne_of_lt (by rw [g285]; exact Vx299.lt)
        have Vx301 := (Vx280.ext E266)
        have ne302 : t ≠ a285 := Nat.ne_of_lt (by rw [g285]; exact Vx301.lt)
        have gn303 : n0 ≤ a285 := by rw [g285]; exact sz283
        have sz304 : n0 ≤ h285.size := (Nat.le_trans sz283 E285.1)
        have Od305 : Old Z n0 h285 := Od284.ext E285
        refine s_astore C at_151 (pc' := 153) rfl rfl #[.val (.long x0), .second, .val (.long x1), .second, .val (.long x2), .second, .val (.long x3), .second, .val (.long x4), .second, .val (.int x5), .val (.long (4503599627370495 : Int64)), .second, .val (.ref a1), .val (.ref a24), .val (.int (1 : Int32)), .val (.int (1 : Int32)), .val (.ref a210), .val (.ref a221), .val (.ref a234), .val (.ref a249), .val (.ref a266), .val (.ref a285), .unset] rfl ?_
        refine s_iload C at_153 (pc' := 155) rfl rfl ?_
        refine s_if_eq C at_155 (pc' := 158) rfl (pcY := 163) rfl (fun hc => by exfalso; revert hc; decide) (fun c306 => ?_)
        refine s_aload C at_158 (pc' := 160) rfl rfl rfl ?_
        refine s_goto C at_160 (pc' := 165) rfl ?_
        refine s_astore C at_165 (pc' := 167) rfl rfl #[.val (.long x0), .second, .val (.long x1), .second, .val (.long x2), .second, .val (.long x3), .second, .val (.long x4), .second, .val (.int x5), .val (.long (4503599627370495 : Int64)), .second, .val (.ref a1), .val (.ref a24), .val (.int (1 : Int32)), .val (.int (1 : Int32)), .val (.ref a210), .val (.ref a221), .val (.ref a234), .val (.ref a249), .val (.ref a266), .val (.ref a285), .val (.ref a1)] rfl ?_
        refine s_aload C at_167 (pc' := 169) rfl rfl rfl ?_
        refine s_aload C at_169 (pc' := 171) rfl rfl rfl ?_
        refine s_aload C at_171 (pc' := 173) rfl rfl rfl ?_
        have Vx308 := (Vx301.ext E285)
        have Vx309 := (Vx299.ext E285)
        have Vx310 := (Vx290.ext E285)
        have Vx311 := (Vx294.ext E285)
        refine s_callS0 C at_173 (pc' := 176) rfl (w11 hw) (w12 hw) (w13 hw) (w14 hw) (by decide) [(.ref a221), (.ref a24), (.ref a24)] [] pd5 rfl rfl (c_add l Z a0 hw t p_ a221 a24 a24 (0 : Int64) (0 : Int64) (0 : Int64) (0 : Int64) (0 : Int64) y0 y1 y2 y3 y4 y0 y1 y2 y3 y4 va va h285 n0 sz304 Od305 S_t S_p Vx308 Vx309 gn231 Vx310 Vx311 Vx311 na na la la) rfl (W := 0) rfl (by decide) (by decide) (k' := 8) rfl (by decide) (n' := 40) rfl (by decide) (fun h307 q307 => ?_)
        obtain ⟨K307, z307_0, z307_1, z307_2, z307_3, z307_4, v307, V307, N307, L307, C307⟩ := q307
        have sz312 : n0 ≤ h307.size := (Nat.le_trans sz304 K307.1)
        have Od313 : Old Z n0 h307 := Od305.keep K307 (allS gn231 all0)
        refine s_aload C at_176 (pc' := 178) rfl rfl rfl ?_
        refine s_aload C at_178 (pc' := 180) rfl rfl rfl ?_
        refine s_aload C at_180 (pc' := 182) rfl rfl rfl ?_
        have Vx315 := (Vx308.keep K307 (ninS ne230 nin0))
        have Vx316 := (Vx309.keep K307 (ninS ne228 nin0))
        have Vx317 := ((Vx292.ext E285).keep K307 (ninS (Ne.symm ne239) nin0))
        refine s_callS0 C at_182 (pc' := 185) rfl (w11 hw) (w12 hw) (w13 hw) (w14 hw) (by decide) [(.ref a234), (.ref a221), (.ref a221)] [] pd5 rfl rfl (c_add l Z a0 hw t p_ a234 a221 a221 (0 : Int64) (0 : Int64) (0 : Int64) (0 : Int64) (0 : Int64) z307_0 z307_1 z307_2 z307_3 z307_4 z307_0 z307_1 z307_2 z307_3 z307_4 v307 v307 h307 n0 sz312 Od313 S_t S_p Vx315 Vx316 gn246 Vx317 V307 V307 N307 N307 L307 L307) rfl (W := 0) rfl (by decide) (by decide) (k' := 8) rfl (by decide) (n' := 40) rfl (by decide) (fun h314 q314 => ?_)
        obtain ⟨K314, z314_0, z314_1, z314_2, z314_3, z314_4, v314, V314, N314, L314, C314⟩ := q314
        have sz318 : n0 ≤ h314.size := (Nat.le_trans sz312 K314.1)
        have Od319 : Old Z n0 h314 := Od313.keep K314 (allS gn246 all0)
        refine s_aload C at_185 (pc' := 187) rfl rfl rfl ?_
        refine s_aload C at_187 (pc' := 189) rfl rfl rfl ?_
        refine s_aload C at_189 (pc' := 191) rfl rfl rfl ?_
        have Vx321 := (Vx315.keep K314 (ninS ne245 nin0))
        have Vx322 := (Vx316.keep K314 (ninS ne243 nin0))
        have Vx323 := (((Vx296.ext E285).keep K307 (ninS (Ne.symm ne255) nin0)).keep K314 (ninS (Ne.symm ne256) nin0))
        refine s_callS0 C at_191 (pc' := 194) rfl (w11 hw) (w12 hw) (w13 hw) (w14 hw) (by decide) [(.ref a249), (.ref a234), (.ref a234)] [] pd5 rfl rfl (c_add l Z a0 hw t p_ a249 a234 a234 (0 : Int64) (0 : Int64) (0 : Int64) (0 : Int64) (0 : Int64) z314_0 z314_1 z314_2 z314_3 z314_4 z314_0 z314_1 z314_2 z314_3 z314_4 v314 v314 h314 n0 sz318 Od319 S_t S_p Vx321 Vx322 gn263 Vx323 V314 V314 N314 N314 L314 L314) rfl (W := 0) rfl (by decide) (by decide) (k' := 8) rfl (by decide) (n' := 40) rfl (by decide) (fun h320 q320 => ?_)
        obtain ⟨K320, z320_0, z320_1, z320_2, z320_3, z320_4, v320, V320, N320, L320, C320⟩ := q320
        have sz324 : n0 ≤ h320.size := (Nat.le_trans sz318 K320.1)
        have Od325 : Old Z n0 h320 := Od319.keep K320 (allS gn263 all0)
        refine s_aload C at_194 (pc' := 196) rfl rfl rfl ?_
        refine s_iload C at_196 (pc' := 198) rfl rfl ?_
        refine s_iconst C at_198 (pc' := 199) rfl (1 : Int32) rfl ?_
        refine s_iand C at_199 (pc' := 200) rfl ?_
        refine s_foldI C (y := (1 : Int32)) (by decide) ?_
        refine s_if_eq C at_200 (pc' := 203) rfl (pcY := 208) rfl (fun hc => by exfalso; revert hc; decide) (fun c326 => ?_)
        refine s_aload C at_203 (pc' := 205) rfl rfl rfl ?_
        refine s_goto C at_205 (pc' := 210) rfl ?_
        refine s_iload C at_210 (pc' := 212) rfl rfl ?_
        refine s_iconst C at_212 (pc' := 213) rfl (2 : Int32) rfl ?_
        refine s_iand C at_213 (pc' := 214) rfl ?_
        refine s_foldI C (y := (0 : Int32)) (by decide) ?_
        refine s_if_eq C at_214 (pc' := 217) rfl (pcY := 222) rfl (fun c327 => ?_) (fun hc => by exfalso; revert hc; decide)
        refine s_aload C at_222 (pc' := 224) rfl rfl rfl ?_
        have Vx329 := (Vx321.keep K320 (ninS ne262 nin0))
        have Vx330 := (Vx322.keep K320 (ninS ne260 nin0))
        have Vx331 := ((((A266.ext E285).keep K307 (ninS (Ne.symm ne272) nin0)).keep K314 (ninS (Ne.symm ne274) nin0)).keep K320 (ninS (Ne.symm ne277) nin0))
        have Vx332 := (((Vx311.keep K307 (ninS ne226 nin0)).keep K314 (ninS ne241 nin0)).keep K320 (ninS ne258 nin0))
        have Vx333 := ((((Vx288.ext E285).keep K307 (ninS ne224 nin0)).keep K314 (ninS ne238 nin0)).keep K320 (ninS ne253 nin0))
        refine s_callS0 C at_224 (pc' := 227) rfl (w11 hw) (w12 hw) (w13 hw) (w14 hw) (by decide) [(.ref a266), (.ref a24), (.ref a210)] [] pd5 rfl rfl (c_add l Z a0 hw t p_ a266 a24 a210 (0 : Int64) (0 : Int64) (0 : Int64) (0 : Int64) (0 : Int64) y0 y1 y2 y3 y4 (0 : Int64) (0 : Int64) (0 : Int64) (0 : Int64) (0 : Int64) va 0 h320 n0 sz324 Od325 S_t S_p Vx329 Vx330 gn282 Vx331 Vx332 Vx333 na own_zero la (by decide)) rfl (W := 0) rfl (by decide) (by decide) (k' := 8) rfl (by decide) (n' := 40) rfl (by decide) (fun h328 q328 => ?_)
        obtain ⟨K328, z328_0, z328_1, z328_2, z328_3, z328_4, v328, V328, N328, L328, C328⟩ := q328
        have sz334 : n0 ≤ h328.size := (Nat.le_trans sz324 K328.1)
        have Od335 : Old Z n0 h328 := Od325.keep K328 (allS gn282 all0)
        refine s_aload C at_227 (pc' := 229) rfl rfl rfl ?_
        refine s_aload C at_229 (pc' := 231) rfl rfl rfl ?_
        refine s_iload C at_231 (pc' := 233) rfl rfl ?_
        refine s_iconst C at_233 (pc' := 234) rfl (4 : Int32) rfl ?_
        refine s_iand C at_234 (pc' := 235) rfl ?_
        refine s_foldI C (y := (0 : Int32)) (by decide) ?_
        refine s_if_eq C at_235 (pc' := 238) rfl (pcY := 243) rfl (fun c336 => ?_) (fun hc => by exfalso; revert hc; decide)
        refine s_aload C at_243 (pc' := 245) rfl rfl rfl ?_
        have Vx338 := (Vx329.keep K328 (ninS ne281 nin0))
        have Vx339 := (Vx330.keep K328 (ninS ne279 nin0))
        have Vx340 := (Vx333.keep K328 (ninS ne270 nin0))
        refine s_callS0 C at_245 (pc' := 248) rfl (w11 hw) (w12 hw) (w13 hw) (w14 hw) (by decide) [(.ref a266), (.ref a266), (.ref a210)] [] pd5 rfl rfl (c_add l Z a0 hw t p_ a266 a266 a210 z328_0 z328_1 z328_2 z328_3 z328_4 z328_0 z328_1 z328_2 z328_3 z328_4 (0 : Int64) (0 : Int64) (0 : Int64) (0 : Int64) (0 : Int64) v328 0 h328 n0 sz334 Od335 S_t S_p Vx338 Vx339 gn282 V328 V328 Vx340 N328 own_zero L328 (by decide)) rfl (W := 0) rfl (by decide) (by decide) (k' := 8) rfl (by decide) (n' := 40) rfl (by decide) (fun h337 q337 => ?_)
        obtain ⟨K337, z337_0, z337_1, z337_2, z337_3, z337_4, v337, V337, N337, L337, C337⟩ := q337
        have sz341 : n0 ≤ h337.size := (Nat.le_trans sz334 K337.1)
        have Od342 : Old Z n0 h337 := Od335.keep K337 (allS gn282 all0)
        refine s_aload C at_248 (pc' := 250) rfl rfl rfl ?_
        refine s_aload C at_250 (pc' := 252) rfl rfl rfl ?_
        refine s_iload C at_252 (pc' := 254) rfl rfl ?_
        refine s_bipush C at_254 (pc' := 256) rfl (8 : Int32) rfl ?_
        refine s_iand C at_256 (pc' := 257) rfl ?_
        refine s_foldI C (y := (0 : Int32)) (by decide) ?_
        refine s_if_eq C at_257 (pc' := 260) rfl (pcY := 265) rfl (fun c343 => ?_) (fun hc => by exfalso; revert hc; decide)
        refine s_aload C at_265 (pc' := 267) rfl rfl rfl ?_
        have Vx345 := (Vx338.keep K337 (ninS ne281 nin0))
        have Vx346 := (Vx339.keep K337 (ninS ne279 nin0))
        have Vx347 := (Vx340.keep K337 (ninS ne270 nin0))
        refine s_callS0 C at_267 (pc' := 270) rfl (w11 hw) (w12 hw) (w13 hw) (w14 hw) (by decide) [(.ref a266), (.ref a266), (.ref a210)] [] pd5 rfl rfl (c_add l Z a0 hw t p_ a266 a266 a210 z337_0 z337_1 z337_2 z337_3 z337_4 z337_0 z337_1 z337_2 z337_3 z337_4 (0 : Int64) (0 : Int64) (0 : Int64) (0 : Int64) (0 : Int64) v337 0 h337 n0 sz341 Od342 S_t S_p Vx345 Vx346 gn282 V337 V337 Vx347 N337 own_zero L337 (by decide)) rfl (W := 0) rfl (by decide) (by decide) (k' := 8) rfl (by decide) (n' := 40) rfl (by decide) (fun h344 q344 => ?_)
        obtain ⟨K344, z344_0, z344_1, z344_2, z344_3, z344_4, v344, V344, N344, L344, C344⟩ := q344
        have sz348 : n0 ≤ h344.size := (Nat.le_trans sz341 K344.1)
        have Od349 : Old Z n0 h344 := Od342.keep K344 (allS gn282 all0)
        refine s_aload C at_270 (pc' := 272) rfl rfl rfl ?_
        refine s_aload C at_272 (pc' := 274) rfl rfl rfl ?_
        refine s_iload C at_274 (pc' := 276) rfl rfl ?_
        have Vx351 := (((((((Vx286.ext E285).keep K307 (ninS ne223 nin0)).keep K314 (ninS ne236 nin0)).keep K320 (ninS ne251 nin0)).keep K328 (ninS ne268 nin0)).keep K337 (ninS ne268 nin0)).keep K344 (ninS ne268 nin0))
        refine s_callS0 C at_276 (pc' := 279) rfl (w22 hw) (w23 hw) (w13 hw) (w24 hw) (by decide) [(.ref a1), (.ref a1), (.int (1 : Int32))] [] pd3 rfl rfl (c_ms1 l Z a0 hw a1 a1 y0 y1 y2 y3 y4 y0 y1 y2 y3 y4 va h344 n0 sz348 gn4 Vx351 Vx351 na la) rfl (W := 0) rfl (by decide) (by decide) (k' := 8) rfl (by decide) (n' := 40) rfl (by decide) (fun h350 q350 => ?_)
        obtain ⟨K350, z350_0, z350_1, z350_2, z350_3, z350_4, v350, V350, N350, L350, C350⟩ := q350
        have sz352 : n0 ≤ h350.size := (Nat.le_trans sz348 K350.1)
        have Od353 : Old Z n0 h350 := Od349.keep K350 (allS gn4 all0)
        refine s_aload C at_279 (pc' := 281) rfl rfl rfl ?_
        refine s_callSI C at_281 (pc' := 284) rfl (w26 hw) (w27 hw) (w5 hw) (w28 hw) (by decide) [(.ref a1)] [] pd0 rfl rfl (c_nmz l Z a0 hw a1 z350_0 z350_1 z350_2 z350_3 z350_4 h350 n0 sz352 V350) rfl (W := 0) rfl (by decide) (by decide) (k' := 8) rfl (by decide) (n' := 40) rfl (by decide) (fun _ _ q354 => ?_)
        obtain ⟨rfl, rfl⟩ := q354
        refine s_foldI C (y := (1 : Int32)) (own_nmz N350 L350) ?_
        refine s_if_ne C at_284 (pc' := 287) rfl (pcY := 289) rfl (fun c355 => ?_) (fun hc => by exfalso; revert hc; decide)
        refine s_aload C at_289 (pc' := 291) rfl rfl rfl ?_
        refine s_callSI C at_291 (pc' := 294) rfl (w3 hw) (w4 hw) (w5 hw) (w6 hw) (by decide) [(.ref a1)] [] pd0 rfl rfl (c_blw l Z a0 hw a1 z350_0 z350_1 z350_2 z350_3 z350_4 h350 n0 sz352 V350) rfl (W := 0) rfl (by decide) (by decide) (k' := 8) rfl (by decide) (n' := 40) rfl (by decide) (fun _ _ q356 => ?_)
        obtain ⟨rfl, rfl⟩ := q356
        refine s_foldI C (y := (1 : Int32)) ((own_blw N350).1 L350) ?_
        refine s_if_eq C at_294 (pc' := 297) rfl (pcY := 313) rfl (fun hc => by exfalso; revert hc; decide) (fun c357 => ?_)
        refine s_aload C at_297 (pc' := 299) rfl rfl rfl ?_
        refine s_aload C at_299 (pc' := 301) rfl rfl rfl ?_
        have hab : (v350 - v344) % 115792089210356248762697446949407573530086143415290314195533631308867097853951 = 0 := own_hab1 C307 C314 C320 C328 C337 C344 C350
        have Vx359 := ((Vx345.keep K344 (ninS ne281 nin0)).keep K350 (ninS ne3 nin0))
        have Vx360 := ((Vx346.keep K344 (ninS ne279 nin0)).keep K350 (ninS ne2 nin0))
        have Vx361 := (V344.keep K350 (ninS (Ne.symm ne268) nin0))
        refine s_callSL C at_301 (pc' := 304) rfl (w31 hw) (w32 hw) (w13 hw) (w33 hw) (by decide) [(.ref a1), (.ref a266)] [] pd2 rfl rfl (c_eq l Z a0 hw t p_ a1 a266 z350_0 z350_1 z350_2 z350_3 z350_4 z344_0 z344_1 z344_2 z344_3 z344_4 v350 v344 h350 n0 sz352 Od353 S_t S_p Vx359 Vx360 V350 Vx361 N350 N344 L350 L344 hab) rfl (W := 0) rfl (by decide) (by decide) (k' := 10) rfl (by decide) (n' := 50) rfl (by decide) (fun _ h358 q358 => ?_)
        obtain ⟨rfl, K358⟩ := q358
        have sz362 : n0 ≤ h358.size := (Nat.le_trans sz352 K358.1)
        have Od363 : Old Z n0 h358 := Od353.keep K358 all0
        refine s_lconst C at_304 (pc' := 305) rfl (1 : Int64) rfl ?_
        refine s_lc_ne C at_305 (pc1 := 306) rfl at_306 (pc' := 309) rfl (pcY := 313) rfl (fun hc => by exfalso; revert hc; decide) (fun c364 => ?_)
        refine s_iconst C at_309 (pc' := 310) rfl (1 : Int32) rfl ?_
        refine s_goto C at_310 (pc' := 314) rfl ?_
        exact s_retN C (by simp) at_314 (by decide) (by decide) rfl
    · subst q
      refine s_istoreP C at_106 (pc' := 108) rfl #[.val (.long x0), .second, .val (.long x1), .second, .val (.long x2), .second, .val (.long x3), .second, .val (.long x4), .second, .val (.int x5), .val (.long (4503599627370495 : Int64)), .second, .val (.ref a1), .val (.ref a24), .val (.int (2 : Int32)), .unset, .unset, .unset, .unset, .unset, .unset, .unset, .unset] rfl ?_
      refine s_iload C at_108 (pc' := 110) rfl rfl ?_
      refine s_bipush C at_110 (pc' := 112) rfl (8 : Int32) rfl ?_
      refine s_iand C at_112 (pc' := 113) rfl ?_
      refine s_if_eq C at_113 (pc' := 116) rfl (pcY := 120) rfl (fun c365 => ?_) (fun c365 => ?_)
      · skip
        refine s_iconst C at_120 (pc' := 121) rfl (0 : Int32) rfl ?_
        refine s_istoreP C at_121 (pc' := 123) rfl #[.val (.long x0), .second, .val (.long x1), .second, .val (.long x2), .second, .val (.long x3), .second, .val (.long x4), .second, .val (.int x5), .val (.long (4503599627370495 : Int64)), .second, .val (.ref a1), .val (.ref a24), .val (.int (2 : Int32)), .val (.int (0 : Int32)), .unset, .unset, .unset, .unset, .unset, .unset, .unset] rfl ?_
        refine s_iconst C at_123 (pc' := 124) rfl (5 : Int32) rfl ?_
        refine s_newarr C (cap := 5) at_124 (pc' := 126) rfl (w1 hw) (by decide) (by decide) (by decide) (k' := 3) rfl (by decide) (n' := 15) rfl (by decide) [(.long (0 : Int64)), (.long (0 : Int64)), (.long (0 : Int64)), (.long (0 : Int64)), (.long (0 : Int64))] rfl (fun h366 a366 E366 g366 A366 => ?_)
        have Vx367 := (Vx49.other W50 ne25)
        have ne368 : a1 ≠ a366 := Nat.ne_of_lt (by rw [g366]; exact Vx367.lt)
        have ne369 : a24 ≠ a366 := Nat.ne_of_lt (by rw [g366]; exact A50.lt)
        have Vx370 := ((((((Vx26.ext E24).other W34 ne27).other W38 ne27).other W42 ne27).other W46 ne27).other W50 ne27)
        have ne371 : p_ ≠ a366 := Nat.ne_of_lt (by rw [g366]; exact Vx370.lt)
        have Vx372 := ((((((Vx28.ext E24).other W34 ne29).other W38 ne29).other W42 ne29).other W46 ne29).other W50 ne29)
        have ne373 : t ≠ a366 := Nat.ne_of_lt (by rw [g366]; exact Vx372.lt)
        have gn374 : n0 ≤ a366 := by rw [g366]; exact sz51
        have sz375 : n0 ≤ h366.size := (Nat.le_trans sz51 E366.1)
        have Od376 : Old Z n0 h366 := Od52.ext E366
        refine s_astore C at_126 (pc' := 128) rfl rfl #[.val (.long x0), .second, .val (.long x1), .second, .val (.long x2), .second, .val (.long x3), .second, .val (.long x4), .second, .val (.int x5), .val (.long (4503599627370495 : Int64)), .second, .val (.ref a1), .val (.ref a24), .val (.int (2 : Int32)), .val (.int (0 : Int32)), .val (.ref a366), .unset, .unset, .unset, .unset, .unset, .unset] rfl ?_
        refine s_iconst C at_128 (pc' := 129) rfl (5 : Int32) rfl ?_
        refine s_newarr C (cap := 5) at_129 (pc' := 131) rfl (w1 hw) (by decide) (by decide) (by decide) (k' := 4) rfl (by decide) (n' := 20) rfl (by decide) [(.long (0 : Int64)), (.long (0 : Int64)), (.long (0 : Int64)), (.long (0 : Int64)), (.long (0 : Int64))] rfl (fun h377 a377 E377 g377 A377 => ?_)
        have Vx378 := (Vx367.ext E366)
        have ne379 : a1 ≠ a377 := Nat.ne_of_lt (by rw [g377]; exact Vx378.lt)
        have Vx380 := (A50.ext E366)
        have ne381 : a24 ≠ a377 := Nat.ne_of_lt (by rw [g377]; exact Vx380.lt)
        have ne382 : a366 ≠ a377 := Nat.ne_of_lt (by rw [g377]; exact A366.lt)
        have Vx383 := (Vx370.ext E366)
        have ne384 : p_ ≠ a377 := Nat.ne_of_lt (by rw [g377]; exact Vx383.lt)
        have Vx385 := (Vx372.ext E366)
        have ne386 : t ≠ a377 := Nat.ne_of_lt (by rw [g377]; exact Vx385.lt)
        have gn387 : n0 ≤ a377 := by rw [g377]; exact sz375
        have sz388 : n0 ≤ h377.size := (Nat.le_trans sz375 E377.1)
        have Od389 : Old Z n0 h377 := Od376.ext E377
        refine s_astore C at_131 (pc' := 133) rfl rfl #[.val (.long x0), .second, .val (.long x1), .second, .val (.long x2), .second, .val (.long x3), .second, .val (.long x4), .second, .val (.int x5), .val (.long (4503599627370495 : Int64)), .second, .val (.ref a1), .val (.ref a24), .val (.int (2 : Int32)), .val (.int (0 : Int32)), .val (.ref a366), .val (.ref a377), .unset, .unset, .unset, .unset, .unset] rfl ?_
        refine s_iconst C at_133 (pc' := 134) rfl (5 : Int32) rfl ?_
        refine s_newarr C (cap := 5) at_134 (pc' := 136) rfl (w1 hw) (by decide) (by decide) (by decide) (k' := 5) rfl (by decide) (n' := 25) rfl (by decide) [(.long (0 : Int64)), (.long (0 : Int64)), (.long (0 : Int64)), (.long (0 : Int64)), (.long (0 : Int64))] rfl (fun h390 a390 E390 g390 A390 => ?_)
        have Vx391 := (Vx378.ext E377)
        have ne392 : a1 ≠ a390 := Nat.ne_of_lt (by rw [g390]; exact Vx391.lt)
        have Vx393 := (Vx380.ext E377)
        have ne394 : a24 ≠ a390 := Nat.ne_of_lt (by rw [g390]; exact Vx393.lt)
        have Vx395 := (A366.ext E377)
        have ne396 : a366 ≠ a390 := Nat.ne_of_lt (by rw [g390]; exact Vx395.lt)
        have ne397 : a377 ≠ a390 := Nat.ne_of_lt (by rw [g390]; exact A377.lt)
        have Vx398 := (Vx383.ext E377)
        have ne399 : p_ ≠ a390 := Nat.ne_of_lt (by rw [g390]; exact Vx398.lt)
        have Vx400 := (Vx385.ext E377)
        have ne401 : t ≠ a390 := Nat.ne_of_lt (by rw [g390]; exact Vx400.lt)
        have gn402 : n0 ≤ a390 := by rw [g390]; exact sz388
        have sz403 : n0 ≤ h390.size := (Nat.le_trans sz388 E390.1)
        have Od404 : Old Z n0 h390 := Od389.ext E390
        refine s_astore C at_136 (pc' := 138) rfl rfl #[.val (.long x0), .second, .val (.long x1), .second, .val (.long x2), .second, .val (.long x3), .second, .val (.long x4), .second, .val (.int x5), .val (.long (4503599627370495 : Int64)), .second, .val (.ref a1), .val (.ref a24), .val (.int (2 : Int32)), .val (.int (0 : Int32)), .val (.ref a366), .val (.ref a377), .val (.ref a390), .unset, .unset, .unset, .unset] rfl ?_
        refine s_iconst C at_138 (pc' := 139) rfl (5 : Int32) rfl ?_
        refine s_newarr C (cap := 5) at_139 (pc' := 141) rfl (w1 hw) (by decide) (by decide) (by decide) (k' := 6) rfl (by decide) (n' := 30) rfl (by decide) [(.long (0 : Int64)), (.long (0 : Int64)), (.long (0 : Int64)), (.long (0 : Int64)), (.long (0 : Int64))] rfl (fun h405 a405 E405 g405 A405 => ?_)
        have Vx406 := (Vx391.ext E390)
        have ne407 : a1 ≠ a405 := Nat.ne_of_lt (by rw [g405]; exact Vx406.lt)
        have Vx408 := (Vx393.ext E390)
        have ne409 : a24 ≠ a405 := Nat.ne_of_lt (by rw [g405]; exact Vx408.lt)
        have Vx410 := (Vx395.ext E390)
        have ne411 : a366 ≠ a405 := Nat.ne_of_lt (by rw [g405]; exact Vx410.lt)
        have Vx412 := (A377.ext E390)
        have ne413 : a377 ≠ a405 := Nat.ne_of_lt (by rw [g405]; exact Vx412.lt)
        have ne414 : a390 ≠ a405 := Nat.ne_of_lt (by rw [g405]; exact A390.lt)
        have Vx415 := (Vx398.ext E390)
        have ne416 : p_ ≠ a405 := Nat.ne_of_lt (by rw [g405]; exact Vx415.lt)
        have Vx417 := (Vx400.ext E390)
        have ne418 : t ≠ a405 := Nat.ne_of_lt (by rw [g405]; exact Vx417.lt)
        have gn419 : n0 ≤ a405 := by rw [g405]; exact sz403
        have sz420 : n0 ≤ h405.size := (Nat.le_trans sz403 E405.1)
        have Od421 : Old Z n0 h405 := Od404.ext E405
        refine s_astore C at_141 (pc' := 143) rfl rfl #[.val (.long x0), .second, .val (.long x1), .second, .val (.long x2), .second, .val (.long x3), .second, .val (.long x4), .second, .val (.int x5), .val (.long (4503599627370495 : Int64)), .second, .val (.ref a1), .val (.ref a24), .val (.int (2 : Int32)), .val (.int (0 : Int32)), .val (.ref a366), .val (.ref a377), .val (.ref a390), .val (.ref a405), .unset, .unset, .unset] rfl ?_
        refine s_iconst C at_143 (pc' := 144) rfl (5 : Int32) rfl ?_
        refine s_newarr C (cap := 5) at_144 (pc' := 146) rfl (w1 hw) (by decide) (by decide) (by decide) (k' := 7) rfl (by decide) (n' := 35) rfl (by decide) [(.long (0 : Int64)), (.long (0 : Int64)), (.long (0 : Int64)), (.long (0 : Int64)), (.long (0 : Int64))] rfl (fun h422 a422 E422 g422 A422 => ?_)
        have Vx423 := (Vx406.ext E405)
        have ne424 : a1 ≠ a422 := Nat.ne_of_lt (by rw [g422]; exact Vx423.lt)
        have Vx425 := (Vx408.ext E405)
        have ne426 : a24 ≠ a422 := Nat.ne_of_lt (by rw [g422]; exact Vx425.lt)
        have Vx427 := (Vx410.ext E405)
        have ne428 : a366 ≠ a422 := Nat.ne_of_lt (by rw [g422]; exact Vx427.lt)
        have Vx429 := (Vx412.ext E405)
        have ne430 : a377 ≠ a422 := Nat.ne_of_lt (by rw [g422]; exact Vx429.lt)
        have Vx431 := (A390.ext E405)
        have ne432 : a390 ≠ a422 := Nat.ne_of_lt (by rw [g422]; exact Vx431.lt)
        have ne433 : a405 ≠ a422 := Nat.ne_of_lt (by rw [g422]; exact A405.lt)
        have Vx434 := (Vx415.ext E405)
        have ne435 : p_ ≠ a422 := Nat.ne_of_lt (by rw [g422]; exact Vx434.lt)
        have Vx436 := (Vx417.ext E405)
        have ne437 : t ≠ a422 := Nat.ne_of_lt (by rw [g422]; exact Vx436.lt)
        have gn438 : n0 ≤ a422 := by rw [g422]; exact sz420
        have sz439 : n0 ≤ h422.size := (Nat.le_trans sz420 E422.1)
        have Od440 : Old Z n0 h422 := Od421.ext E422
        refine s_astore C at_146 (pc' := 148) rfl rfl #[.val (.long x0), .second, .val (.long x1), .second, .val (.long x2), .second, .val (.long x3), .second, .val (.long x4), .second, .val (.int x5), .val (.long (4503599627370495 : Int64)), .second, .val (.ref a1), .val (.ref a24), .val (.int (2 : Int32)), .val (.int (0 : Int32)), .val (.ref a366), .val (.ref a377), .val (.ref a390), .val (.ref a405), .val (.ref a422), .unset, .unset] rfl ?_
        refine s_iconst C at_148 (pc' := 149) rfl (5 : Int32) rfl ?_
        refine s_newarr C (cap := 5) at_149 (pc' := 151) rfl (w1 hw) (by decide) (by decide) (by decide) (k' := 8) rfl (by decide) (n' := 40) rfl (by decide) [(.long (0 : Int64)), (.long (0 : Int64)), (.long (0 : Int64)), (.long (0 : Int64)), (.long (0 : Int64))] rfl (fun h441 a441 E441 g441 A441 => ?_)
        have Vx442 := (Vx423.ext E422)
        have ne443 : a1 ≠ a441 := Nat.ne_of_lt (by rw [g441]; exact Vx442.lt)
        have Vx444 := (Vx425.ext E422)
        have ne445 : a24 ≠ a441 := Nat.ne_of_lt (by rw [g441]; exact Vx444.lt)
        have Vx446 := (Vx427.ext E422)
        have ne447 : a366 ≠ a441 := Nat.ne_of_lt (by rw [g441]; exact Vx446.lt)
        have Vx448 := (Vx429.ext E422)
        have ne449 : a377 ≠ a441 := Nat.ne_of_lt (by rw [g441]; exact Vx448.lt)
        have Vx450 := (Vx431.ext E422)
        have ne451 : a390 ≠ a441 := Nat.ne_of_lt (by rw [g441]; exact Vx450.lt)
        have Vx452 := (A405.ext E422)
        have ne453 : a405 ≠ a441 := Nat.ne_of_lt (by rw [g441]; exact Vx452.lt)
        have ne454 : a422 ≠ a441 := Nat.ne_of_lt (by rw [g441]; exact A422.lt)
        have Vx455 := (Vx434.ext E422)
        have ne456 : p_ ≠ a441 := Nat.ne_of_lt (by rw [g441]; exact Vx455.lt)
        have Vx457 := (Vx436.ext E422)
        have ne458 : t ≠ a441 := Nat.ne_of_lt (by rw [g441]; exact Vx457.lt)
        have gn459 : n0 ≤ a441 := by rw [g441]; exact sz439
        have sz460 : n0 ≤ h441.size := (Nat.le_trans sz439 E441.1)
        have Od461 : Old Z n0 h441 := Od440.ext E441
        refine s_astore C at_151 (pc' := 153) rfl rfl #[.val (.long x0), .second, .val (.long x1), .second, .val (.long x2), .second, .val (.long x3), .second, .val (.long x4), .second, .val (.int x5), .val (.long (4503599627370495 : Int64)), .second, .val (.ref a1), .val (.ref a24), .val (.int (2 : Int32)), .val (.int (0 : Int32)), .val (.ref a366), .val (.ref a377), .val (.ref a390), .val (.ref a405), .val (.ref a422), .val (.ref a441), .unset] rfl ?_
        refine s_iload C at_153 (pc' := 155) rfl rfl ?_
        refine s_if_eq C at_155 (pc' := 158) rfl (pcY := 163) rfl (fun c462 => ?_) (fun hc => by exfalso; revert hc; decide)
        refine s_aload C at_163 (pc' := 165) rfl rfl rfl ?_
        refine s_astore C at_165 (pc' := 167) rfl rfl #[.val (.long x0), .second, .val (.long x1), .second, .val (.long x2), .second, .val (.long x3), .second, .val (.long x4), .second, .val (.int x5), .val (.long (4503599627370495 : Int64)), .second, .val (.ref a1), .val (.ref a24), .val (.int (2 : Int32)), .val (.int (0 : Int32)), .val (.ref a366), .val (.ref a377), .val (.ref a390), .val (.ref a405), .val (.ref a422), .val (.ref a441), .val (.ref a441)] rfl ?_
        refine s_aload C at_167 (pc' := 169) rfl rfl rfl ?_
        refine s_aload C at_169 (pc' := 171) rfl rfl rfl ?_
        refine s_aload C at_171 (pc' := 173) rfl rfl rfl ?_
        have Vx464 := (Vx457.ext E441)
        have Vx465 := (Vx455.ext E441)
        have Vx466 := (Vx448.ext E441)
        have Vx467 := (Vx444.ext E441)
        refine s_callS0 C at_173 (pc' := 176) rfl (w11 hw) (w12 hw) (w13 hw) (w14 hw) (by decide) [(.ref a377), (.ref a24), (.ref a24)] [] pd5 rfl rfl (c_add l Z a0 hw t p_ a377 a24 a24 (0 : Int64) (0 : Int64) (0 : Int64) (0 : Int64) (0 : Int64) y0 y1 y2 y3 y4 y0 y1 y2 y3 y4 va va h441 n0 sz460 Od461 S_t S_p Vx464 Vx465 gn387 Vx466 Vx467 Vx467 na na la la) rfl (W := 0) rfl (by decide) (by decide) (k' := 8) rfl (by decide) (n' := 40) rfl (by decide) (fun h463 q463 => ?_)
        obtain ⟨K463, z463_0, z463_1, z463_2, z463_3, z463_4, v463, V463, N463, L463, C463⟩ := q463
        have sz468 : n0 ≤ h463.size := (Nat.le_trans sz460 K463.1)
        have Od469 : Old Z n0 h463 := Od461.keep K463 (allS gn387 all0)
        refine s_aload C at_176 (pc' := 178) rfl rfl rfl ?_
        refine s_aload C at_178 (pc' := 180) rfl rfl rfl ?_
        refine s_aload C at_180 (pc' := 182) rfl rfl rfl ?_
        have Vx471 := (Vx464.keep K463 (ninS ne386 nin0))
        have Vx472 := (Vx465.keep K463 (ninS ne384 nin0))
        have Vx473 := ((Vx450.ext E441).keep K463 (ninS (Ne.symm ne397) nin0))
        refine s_callS0 C at_182 (pc' := 185) rfl (w11 hw) (w12 hw) (w13 hw) (w14 hw) (by decide) [(.ref a390), (.ref a377), (.ref a377)] [] pd5 rfl rfl (c_add l Z a0 hw t p_ a390 a377 a377 (0 : Int64) (0 : Int64) (0 : Int64) (0 : Int64) (0 : Int64) z463_0 z463_1 z463_2 z463_3 z463_4 z463_0 z463_1 z463_2 z463_3 z463_4 v463 v463 h463 n0 sz468 Od469 S_t S_p Vx471 Vx472 gn402 Vx473 V463 V463 N463 N463 L463 L463) rfl (W := 0) rfl (by decide) (by decide) (k' := 8) rfl (by decide) (n' := 40) rfl (by decide) (fun h470 q470 => ?_)
        obtain ⟨K470, z470_0, z470_1, z470_2, z470_3, z470_4, v470, V470, N470, L470, C470⟩ := q470
        have sz474 : n0 ≤ h470.size := (Nat.le_trans sz468 K470.1)
        have Od475 : Old Z n0 h470 := Od469.keep K470 (allS gn402 all0)
        refine s_aload C at_185 (pc' := 187) rfl rfl rfl ?_
        refine s_aload C at_187 (pc' := 189) rfl rfl rfl ?_
        refine s_aload C at_189 (pc' := 191) rfl rfl rfl ?_
        have Vx477 := (Vx471.keep K470 (ninS ne401 nin0))
        have Vx478 := (Vx472.keep K470 (ninS ne399 nin0))
        have Vx479 := (((Vx452.ext E441).keep K463 (ninS (Ne.symm ne413) nin0)).keep K470 (ninS (Ne.symm ne414) nin0))
        refine s_callS0 C at_191 (pc' := 194) rfl (w11 hw) (w12 hw) (w13 hw) (w14 hw) (by decide) [(.ref a405), (.ref a390), (.ref a390)] [] pd5 rfl rfl (c_add l Z a0 hw t p_ a405 a390 a390 (0 : Int64) (0 : Int64) (0 : Int64) (0 : Int64) (0 : Int64) z470_0 z470_1 z470_2 z470_3 z470_4 z470_0 z470_1 z470_2 z470_3 z470_4 v470 v470 h470 n0 sz474 Od475 S_t S_p Vx477 Vx478 gn419 Vx479 V470 V470 N470 N470 L470 L470) rfl (W := 0) rfl (by decide) (by decide) (k' := 8) rfl (by decide) (n' := 40) rfl (by decide) (fun h476 q476 => ?_)
        obtain ⟨K476, z476_0, z476_1, z476_2, z476_3, z476_4, v476, V476, N476, L476, C476⟩ := q476
        have sz480 : n0 ≤ h476.size := (Nat.le_trans sz474 K476.1)
        have Od481 : Old Z n0 h476 := Od475.keep K476 (allS gn419 all0)
        refine s_aload C at_194 (pc' := 196) rfl rfl rfl ?_
        refine s_iload C at_196 (pc' := 198) rfl rfl ?_
        refine s_iconst C at_198 (pc' := 199) rfl (1 : Int32) rfl ?_
        refine s_iand C at_199 (pc' := 200) rfl ?_
        refine s_foldI C (y := (0 : Int32)) (by decide) ?_
        refine s_if_eq C at_200 (pc' := 203) rfl (pcY := 208) rfl (fun c482 => ?_) (fun hc => by exfalso; revert hc; decide)
        refine s_aload C at_208 (pc' := 210) rfl rfl rfl ?_
        refine s_iload C at_210 (pc' := 212) rfl rfl ?_
        refine s_iconst C at_212 (pc' := 213) rfl (2 : Int32) rfl ?_
        refine s_iand C at_213 (pc' := 214) rfl ?_
        refine s_foldI C (y := (2 : Int32)) (by decide) ?_
        refine s_if_eq C at_214 (pc' := 217) rfl (pcY := 222) rfl (fun hc => by exfalso; revert hc; decide) (fun c483 => ?_)
        refine s_aload C at_217 (pc' := 219) rfl rfl rfl ?_
        refine s_goto C at_219 (pc' := 224) rfl ?_
        have Vx485 := (Vx477.keep K476 (ninS ne418 nin0))
        have Vx486 := (Vx478.keep K476 (ninS ne416 nin0))
        have Vx487 := ((((A422.ext E441).keep K463 (ninS (Ne.symm ne430) nin0)).keep K470 (ninS (Ne.symm ne432) nin0)).keep K476 (ninS (Ne.symm ne433) nin0))
        have Vx488 := ((((Vx446.ext E441).keep K463 (ninS ne382 nin0)).keep K470 (ninS ne396 nin0)).keep K476 (ninS ne411 nin0))
        have Vx489 := ((V463.keep K470 (ninS ne397 nin0)).keep K476 (ninS ne413 nin0))
        refine s_callS0 C at_224 (pc' := 227) rfl (w11 hw) (w12 hw) (w13 hw) (w14 hw) (by decide) [(.ref a422), (.ref a366), (.ref a377)] [] pd5 rfl rfl (c_add l Z a0 hw t p_ a422 a366 a377 (0 : Int64) (0 : Int64) (0 : Int64) (0 : Int64) (0 : Int64) (0 : Int64) (0 : Int64) (0 : Int64) (0 : Int64) (0 : Int64) z463_0 z463_1 z463_2 z463_3 z463_4 0 v463 h476 n0 sz480 Od481 S_t S_p Vx485 Vx486 gn438 Vx487 Vx488 Vx489 own_zero N463 (by decide) L463) rfl (W := 0) rfl (by decide) (by decide) (k' := 8) rfl (by decide) (n' := 40) rfl (by decide) (fun h484 q484 => ?_)
        obtain ⟨K484, z484_0, z484_1, z484_2, z484_3, z484_4, v484, V484, N484, L484, C484⟩ := q484
        have sz490 : n0 ≤ h484.size := (Nat.le_trans sz480 K484.1)
        have Od491 : Old Z n0 h484 := Od481.keep K484 (allS gn438 all0)
        refine s_aload C at_227 (pc' := 229) rfl rfl rfl ?_
        refine s_aload C at_229 (pc' := 231) rfl rfl rfl ?_
        refine s_iload C at_231 (pc' := 233) rfl rfl ?_
        refine s_iconst C at_233 (pc' := 234) rfl (4 : Int32) rfl ?_
        refine s_iand C at_234 (pc' := 235) rfl ?_
        refine s_foldI C (y := (0 : Int32)) (by decide) ?_
        refine s_if_eq C at_235 (pc' := 238) rfl (pcY := 243) rfl (fun c492 => ?_) (fun hc => by exfalso; revert hc; decide)
        refine s_aload C at_243 (pc' := 245) rfl rfl rfl ?_
        have Vx494 := (Vx485.keep K484 (ninS ne437 nin0))
        have Vx495 := (Vx486.keep K484 (ninS ne435 nin0))
        have Vx496 := (Vx488.keep K484 (ninS ne428 nin0))
        refine s_callS0 C at_245 (pc' := 248) rfl (w11 hw) (w12 hw) (w13 hw) (w14 hw) (by decide) [(.ref a422), (.ref a422), (.ref a366)] [] pd5 rfl rfl (c_add l Z a0 hw t p_ a422 a422 a366 z484_0 z484_1 z484_2 z484_3 z484_4 z484_0 z484_1 z484_2 z484_3 z484_4 (0 : Int64) (0 : Int64) (0 : Int64) (0 : Int64) (0 : Int64) v484 0 h484 n0 sz490 Od491 S_t S_p Vx494 Vx495 gn438 V484 V484 Vx496 N484 own_zero L484 (by decide)) rfl (W := 0) rfl (by decide) (by decide) (k' := 8) rfl (by decide) (n' := 40) rfl (by decide) (fun h493 q493 => ?_)
        obtain ⟨K493, z493_0, z493_1, z493_2, z493_3, z493_4, v493, V493, N493, L493, C493⟩ := q493
        have sz497 : n0 ≤ h493.size := (Nat.le_trans sz490 K493.1)
        have Od498 : Old Z n0 h493 := Od491.keep K493 (allS gn438 all0)
        refine s_aload C at_248 (pc' := 250) rfl rfl rfl ?_
        refine s_aload C at_250 (pc' := 252) rfl rfl rfl ?_
        refine s_iload C at_252 (pc' := 254) rfl rfl ?_
        refine s_bipush C at_254 (pc' := 256) rfl (8 : Int32) rfl ?_
        refine s_iand C at_256 (pc' := 257) rfl ?_
        refine s_foldI C (y := (0 : Int32)) (by decide) ?_
        refine s_if_eq C at_257 (pc' := 260) rfl (pcY := 265) rfl (fun c499 => ?_) (fun hc => by exfalso; revert hc; decide)
        refine s_aload C at_265 (pc' := 267) rfl rfl rfl ?_
        have Vx501 := (Vx494.keep K493 (ninS ne437 nin0))
        have Vx502 := (Vx495.keep K493 (ninS ne435 nin0))
        have Vx503 := (Vx496.keep K493 (ninS ne428 nin0))
        refine s_callS0 C at_267 (pc' := 270) rfl (w11 hw) (w12 hw) (w13 hw) (w14 hw) (by decide) [(.ref a422), (.ref a422), (.ref a366)] [] pd5 rfl rfl (c_add l Z a0 hw t p_ a422 a422 a366 z493_0 z493_1 z493_2 z493_3 z493_4 z493_0 z493_1 z493_2 z493_3 z493_4 (0 : Int64) (0 : Int64) (0 : Int64) (0 : Int64) (0 : Int64) v493 0 h493 n0 sz497 Od498 S_t S_p Vx501 Vx502 gn438 V493 V493 Vx503 N493 own_zero L493 (by decide)) rfl (W := 0) rfl (by decide) (by decide) (k' := 8) rfl (by decide) (n' := 40) rfl (by decide) (fun h500 q500 => ?_)
        obtain ⟨K500, z500_0, z500_1, z500_2, z500_3, z500_4, v500, V500, N500, L500, C500⟩ := q500
        have sz504 : n0 ≤ h500.size := (Nat.le_trans sz497 K500.1)
        have Od505 : Old Z n0 h500 := Od498.keep K500 (allS gn438 all0)
        refine s_aload C at_270 (pc' := 272) rfl rfl rfl ?_
        refine s_aload C at_272 (pc' := 274) rfl rfl rfl ?_
        refine s_iload C at_274 (pc' := 276) rfl rfl ?_
        have Vx507 := ((((((A441.keep K463 (ninS (Ne.symm ne449) nin0)).keep K470 (ninS (Ne.symm ne451) nin0)).keep K476 (ninS (Ne.symm ne453) nin0)).keep K484 (ninS (Ne.symm ne454) nin0)).keep K493 (ninS (Ne.symm ne454) nin0)).keep K500 (ninS (Ne.symm ne454) nin0))
        have Vx508 := (((((((Vx442.ext E441).keep K463 (ninS ne379 nin0)).keep K470 (ninS ne392 nin0)).keep K476 (ninS ne407 nin0)).keep K484 (ninS ne424 nin0)).keep K493 (ninS ne424 nin0)).keep K500 (ninS ne424 nin0))
        refine s_callS0 C at_276 (pc' := 279) rfl (w22 hw) (w23 hw) (w13 hw) (w24 hw) (by decide) [(.ref a441), (.ref a1), (.int (2 : Int32))] [] pd3 rfl rfl (c_ms2 l Z a0 hw a441 a1 (0 : Int64) (0 : Int64) (0 : Int64) (0 : Int64) (0 : Int64) y0 y1 y2 y3 y4 va h500 n0 sz504 gn459 Vx507 Vx508 na la) rfl (W := 0) rfl (by decide) (by decide) (k' := 8) rfl (by decide) (n' := 40) rfl (by decide) (fun h506 q506 => ?_)
        obtain ⟨K506, z506_0, z506_1, z506_2, z506_3, z506_4, v506, V506, N506, L506, C506⟩ := q506
        have sz509 : n0 ≤ h506.size := (Nat.le_trans sz504 K506.1)
        have Od510 : Old Z n0 h506 := Od505.keep K506 (allS gn459 all0)
        refine s_aload C at_279 (pc' := 281) rfl rfl rfl ?_
        refine s_callSI C at_281 (pc' := 284) rfl (w26 hw) (w27 hw) (w5 hw) (w28 hw) (by decide) [(.ref a441)] [] pd0 rfl rfl (c_nmz l Z a0 hw a441 z506_0 z506_1 z506_2 z506_3 z506_4 h506 n0 sz509 V506) rfl (W := 0) rfl (by decide) (by decide) (k' := 8) rfl (by decide) (n' := 40) rfl (by decide) (fun _ _ q511 => ?_)
        obtain ⟨rfl, rfl⟩ := q511
        refine s_foldI C (y := (1 : Int32)) (own_nmz N506 L506) ?_
        refine s_if_ne C at_284 (pc' := 287) rfl (pcY := 289) rfl (fun c512 => ?_) (fun hc => by exfalso; revert hc; decide)
        refine s_aload C at_289 (pc' := 291) rfl rfl rfl ?_
        refine s_callSI C at_291 (pc' := 294) rfl (w3 hw) (w4 hw) (w5 hw) (w6 hw) (by decide) [(.ref a441)] [] pd0 rfl rfl (c_blw l Z a0 hw a441 z506_0 z506_1 z506_2 z506_3 z506_4 h506 n0 sz509 V506) rfl (W := 0) rfl (by decide) (by decide) (k' := 8) rfl (by decide) (n' := 40) rfl (by decide) (fun _ _ q513 => ?_)
        obtain ⟨rfl, rfl⟩ := q513
        refine s_foldI C (y := (1 : Int32)) ((own_blw N506).1 L506) ?_
        refine s_if_eq C at_294 (pc' := 297) rfl (pcY := 313) rfl (fun hc => by exfalso; revert hc; decide) (fun c514 => ?_)
        refine s_aload C at_297 (pc' := 299) rfl rfl rfl ?_
        refine s_aload C at_299 (pc' := 301) rfl rfl rfl ?_
        have hab : (v506 - v500) % 115792089210356248762697446949407573530086143415290314195533631308867097853951 = 0 := own_hab2 C463 C470 C476 C484 C493 C500 C506
        have Vx516 := ((Vx501.keep K500 (ninS ne437 nin0)).keep K506 (ninS ne458 nin0))
        have Vx517 := ((Vx502.keep K500 (ninS ne435 nin0)).keep K506 (ninS ne456 nin0))
        have Vx518 := (V500.keep K506 (ninS ne454 nin0))
        refine s_callSL C at_301 (pc' := 304) rfl (w31 hw) (w32 hw) (w13 hw) (w33 hw) (by decide) [(.ref a441), (.ref a422)] [] pd2 rfl rfl (c_eq l Z a0 hw t p_ a441 a422 z506_0 z506_1 z506_2 z506_3 z506_4 z500_0 z500_1 z500_2 z500_3 z500_4 v506 v500 h506 n0 sz509 Od510 S_t S_p Vx516 Vx517 V506 Vx518 N506 N500 L506 L500 hab) rfl (W := 0) rfl (by decide) (by decide) (k' := 10) rfl (by decide) (n' := 50) rfl (by decide) (fun _ h515 q515 => ?_)
        obtain ⟨rfl, K515⟩ := q515
        have sz519 : n0 ≤ h515.size := (Nat.le_trans sz509 K515.1)
        have Od520 : Old Z n0 h515 := Od510.keep K515 all0
        refine s_lconst C at_304 (pc' := 305) rfl (1 : Int64) rfl ?_
        refine s_lc_ne C at_305 (pc1 := 306) rfl at_306 (pc' := 309) rfl (pcY := 313) rfl (fun hc => by exfalso; revert hc; decide) (fun c521 => ?_)
        refine s_iconst C at_309 (pc' := 310) rfl (1 : Int32) rfl ?_
        refine s_goto C at_310 (pc' := 314) rfl ?_
        exact s_retN C (by simp) at_314 (by decide) (by decide) rfl
      · skip
        refine s_iconst C at_116 (pc' := 117) rfl (1 : Int32) rfl ?_
        refine s_goto C at_117 (pc' := 121) rfl ?_
        refine s_istoreP C at_121 (pc' := 123) rfl #[.val (.long x0), .second, .val (.long x1), .second, .val (.long x2), .second, .val (.long x3), .second, .val (.long x4), .second, .val (.int x5), .val (.long (4503599627370495 : Int64)), .second, .val (.ref a1), .val (.ref a24), .val (.int (2 : Int32)), .val (.int (1 : Int32)), .unset, .unset, .unset, .unset, .unset, .unset, .unset] rfl ?_
        refine s_iconst C at_123 (pc' := 124) rfl (5 : Int32) rfl ?_
        refine s_newarr C (cap := 5) at_124 (pc' := 126) rfl (w1 hw) (by decide) (by decide) (by decide) (k' := 3) rfl (by decide) (n' := 15) rfl (by decide) [(.long (0 : Int64)), (.long (0 : Int64)), (.long (0 : Int64)), (.long (0 : Int64)), (.long (0 : Int64))] rfl (fun h522 a522 E522 g522 A522 => ?_)
        have Vx523 := (Vx49.other W50 ne25)
        have ne524 : a1 ≠ a522 := Nat.ne_of_lt (by rw [g522]; exact Vx523.lt)
        have ne525 : a24 ≠ a522 := Nat.ne_of_lt (by rw [g522]; exact A50.lt)
        have Vx526 := ((((((Vx26.ext E24).other W34 ne27).other W38 ne27).other W42 ne27).other W46 ne27).other W50 ne27)
        have ne527 : p_ ≠ a522 := Nat.ne_of_lt (by rw [g522]; exact Vx526.lt)
        have Vx528 := ((((((Vx28.ext E24).other W34 ne29).other W38 ne29).other W42 ne29).other W46 ne29).other W50 ne29)
        have ne529 : t ≠ a522 := Nat.ne_of_lt (by rw [g522]; exact Vx528.lt)
        have gn530 : n0 ≤ a522 := by rw [g522]; exact sz51
        have sz531 : n0 ≤ h522.size := (Nat.le_trans sz51 E522.1)
        have Od532 : Old Z n0 h522 := Od52.ext E522
        refine s_astore C at_126 (pc' := 128) rfl rfl #[.val (.long x0), .second, .val (.long x1), .second, .val (.long x2), .second, .val (.long x3), .second, .val (.long x4), .second, .val (.int x5), .val (.long (4503599627370495 : Int64)), .second, .val (.ref a1), .val (.ref a24), .val (.int (2 : Int32)), .val (.int (1 : Int32)), .val (.ref a522), .unset, .unset, .unset, .unset, .unset, .unset] rfl ?_
        refine s_iconst C at_128 (pc' := 129) rfl (5 : Int32) rfl ?_
        refine s_newarr C (cap := 5) at_129 (pc' := 131) rfl (w1 hw) (by decide) (by decide) (by decide) (k' := 4) rfl (by decide) (n' := 20) rfl (by decide) [(.long (0 : Int64)), (.long (0 : Int64)), (.long (0 : Int64)), (.long (0 : Int64)), (.long (0 : Int64))] rfl (fun h533 a533 E533 g533 A533 => ?_)
        have Vx534 := (Vx523.ext E522)
        have ne535 : a1 ≠ a533 := Nat.ne_of_lt (by rw [g533]; exact Vx534.lt)
        have Vx536 := (A50.ext E522)
        have ne537 : a24 ≠ a533 := Nat.ne_of_lt (by rw [g533]; exact Vx536.lt)
        have ne538 : a522 ≠ a533 := Nat.ne_of_lt (by rw [g533]; exact A522.lt)
        have Vx539 := (Vx526.ext E522)
        have ne540 : p_ ≠ a533 := Nat.ne_of_lt (by rw [g533]; exact Vx539.lt)
        have Vx541 := (Vx528.ext E522)
        have ne542 : t ≠ a533 := Nat.ne_of_lt (by rw [g533]; exact Vx541.lt)
        have gn543 : n0 ≤ a533 := by rw [g533]; exact sz531
        have sz544 : n0 ≤ h533.size := (Nat.le_trans sz531 E533.1)
        have Od545 : Old Z n0 h533 := Od532.ext E533
        refine s_astore C at_131 (pc' := 133) rfl rfl #[.val (.long x0), .second, .val (.long x1), .second, .val (.long x2), .second, .val (.long x3), .second, .val (.long x4), .second, .val (.int x5), .val (.long (4503599627370495 : Int64)), .second, .val (.ref a1), .val (.ref a24), .val (.int (2 : Int32)), .val (.int (1 : Int32)), .val (.ref a522), .val (.ref a533), .unset, .unset, .unset, .unset, .unset] rfl ?_
        refine s_iconst C at_133 (pc' := 134) rfl (5 : Int32) rfl ?_
        refine s_newarr C (cap := 5) at_134 (pc' := 136) rfl (w1 hw) (by decide) (by decide) (by decide) (k' := 5) rfl (by decide) (n' := 25) rfl (by decide) [(.long (0 : Int64)), (.long (0 : Int64)), (.long (0 : Int64)), (.long (0 : Int64)), (.long (0 : Int64))] rfl (fun h546 a546 E546 g546 A546 => ?_)
        have Vx547 := (Vx534.ext E533)
        have ne548 : a1 ≠ a546 := Nat.ne_of_lt (by rw [g546]; exact Vx547.lt)
        have Vx549 := (Vx536.ext E533)
        have ne550 : a24 ≠ a546 := Nat.ne_of_lt (by rw [g546]; exact Vx549.lt)
        have Vx551 := (A522.ext E533)
        have ne552 : a522 ≠ a546 := Nat.ne_of_lt (by rw [g546]; exact Vx551.lt)
        have ne553 : a533 ≠ a546 := Nat.ne_of_lt (by rw [g546]; exact A533.lt)
        have Vx554 := (Vx539.ext E533)
        have ne555 : p_ ≠ a546 := Nat.ne_of_lt (by rw [g546]; exact Vx554.lt)
        have Vx556 := (Vx541.ext E533)
        have ne557 : t ≠ a546 := Nat.ne_of_lt (by rw [g546]; exact Vx556.lt)
        have gn558 : n0 ≤ a546 := by rw [g546]; exact sz544
        have sz559 : n0 ≤ h546.size := (Nat.le_trans sz544 E546.1)
        have Od560 : Old Z n0 h546 := Od545.ext E546
        refine s_astore C at_136 (pc' := 138) rfl rfl #[.val (.long x0), .second, .val (.long x1), .second, .val (.long x2), .second, .val (.long x3), .second, .val (.long x4), .second, .val (.int x5), .val (.long (4503599627370495 : Int64)), .second, .val (.ref a1), .val (.ref a24), .val (.int (2 : Int32)), .val (.int (1 : Int32)), .val (.ref a522), .val (.ref a533), .val (.ref a546), .unset, .unset, .unset, .unset] rfl ?_
        refine s_iconst C at_138 (pc' := 139) rfl (5 : Int32) rfl ?_
        refine s_newarr C (cap := 5) at_139 (pc' := 141) rfl (w1 hw) (by decide) (by decide) (by decide) (k' := 6) rfl (by decide) (n' := 30) rfl (by decide) [(.long (0 : Int64)), (.long (0 : Int64)), (.long (0 : Int64)), (.long (0 : Int64)), (.long (0 : Int64))] rfl (fun h561 a561 E561 g561 A561 => ?_)
        have Vx562 := (Vx547.ext E546)
        have ne563 : a1 ≠ a561 := Nat.ne_of_lt (by rw [g561]; exact Vx562.lt)
        have Vx564 := (Vx549.ext E546)
        have ne565 : a24 ≠ a561 := Nat.ne_of_lt (by rw [g561]; exact Vx564.lt)
        have Vx566 := (Vx551.ext E546)
        have ne567 : a522 ≠ a561 := Nat.ne_of_lt (by rw [g561]; exact Vx566.lt)
        have Vx568 := (A533.ext E546)
        have ne569 : a533 ≠ a561 := Nat.ne_of_lt (by rw [g561]; exact Vx568.lt)
        have ne570 : a546 ≠ a561 := Nat.ne_of_lt (by rw [g561]; exact A546.lt)
        have Vx571 := (Vx554.ext E546)
        have ne572 : p_ ≠ a561 := Nat.ne_of_lt (by rw [g561]; exact Vx571.lt)
        have Vx573 := (Vx556.ext E546)
        have ne574 : t ≠ a561 := Nat.ne_of_lt (by rw [g561]; exact Vx573.lt)
        have gn575 : n0 ≤ a561 := by rw [g561]; exact sz559
        have sz576 : n0 ≤ h561.size := (Nat.le_trans sz559 E561.1)
        have Od577 : Old Z n0 h561 := Od560.ext E561
        refine s_astore C at_141 (pc' := 143) rfl rfl #[.val (.long x0), .second, .val (.long x1), .second, .val (.long x2), .second, .val (.long x3), .second, .val (.long x4), .second, .val (.int x5), .val (.long (4503599627370495 : Int64)), .second, .val (.ref a1), .val (.ref a24), .val (.int (2 : Int32)), .val (.int (1 : Int32)), .val (.ref a522), .val (.ref a533), .val (.ref a546), .val (.ref a561), .unset, .unset, .unset] rfl ?_
        refine s_iconst C at_143 (pc' := 144) rfl (5 : Int32) rfl ?_
        refine s_newarr C (cap := 5) at_144 (pc' := 146) rfl (w1 hw) (by decide) (by decide) (by decide) (k' := 7) rfl (by decide) (n' := 35) rfl (by decide) [(.long (0 : Int64)), (.long (0 : Int64)), (.long (0 : Int64)), (.long (0 : Int64)), (.long (0 : Int64))] rfl (fun h578 a578 E578 g578 A578 => ?_)
        have Vx579 := (Vx562.ext E561)
        have ne580 : a1 ≠ a578 := Nat.ne_of_lt (by rw [g578]; exact Vx579.lt)
        have Vx581 := (Vx564.ext E561)
        have ne582 : a24 ≠ a578 := Nat.ne_of_lt (by rw [g578]; exact Vx581.lt)
        have Vx583 := (Vx566.ext E561)
        have ne584 : a522 ≠ a578 := Nat.ne_of_lt (by rw [g578]; exact Vx583.lt)
        have Vx585 := (Vx568.ext E561)
        have ne586 : a533 ≠ a578 := Nat.ne_of_lt (by rw [g578]; exact Vx585.lt)
        have Vx587 := (A546.ext E561)
        have ne588 : a546 ≠ a578 := Nat.ne_of_lt (by rw [g578]; exact Vx587.lt)
        have ne589 : a561 ≠ a578 := Nat.ne_of_lt (by rw [g578]; exact A561.lt)
        have Vx590 := (Vx571.ext E561)
        have ne591 : p_ ≠ a578 := Nat.ne_of_lt (by rw [g578]; exact Vx590.lt)
        have Vx592 := (Vx573.ext E561)
        have ne593 : t ≠ a578 := Nat.ne_of_lt (by rw [g578]; exact Vx592.lt)
        have gn594 : n0 ≤ a578 := by rw [g578]; exact sz576
        have sz595 : n0 ≤ h578.size := (Nat.le_trans sz576 E578.1)
        have Od596 : Old Z n0 h578 := Od577.ext E578
        refine s_astore C at_146 (pc' := 148) rfl rfl #[.val (.long x0), .second, .val (.long x1), .second, .val (.long x2), .second, .val (.long x3), .second, .val (.long x4), .second, .val (.int x5), .val (.long (4503599627370495 : Int64)), .second, .val (.ref a1), .val (.ref a24), .val (.int (2 : Int32)), .val (.int (1 : Int32)), .val (.ref a522), .val (.ref a533), .val (.ref a546), .val (.ref a561), .val (.ref a578), .unset, .unset] rfl ?_
        refine s_iconst C at_148 (pc' := 149) rfl (5 : Int32) rfl ?_
        refine s_newarr C (cap := 5) at_149 (pc' := 151) rfl (w1 hw) (by decide) (by decide) (by decide) (k' := 8) rfl (by decide) (n' := 40) rfl (by decide) [(.long (0 : Int64)), (.long (0 : Int64)), (.long (0 : Int64)), (.long (0 : Int64)), (.long (0 : Int64))] rfl (fun h597 a597 E597 g597 A597 => ?_)
        have Vx598 := (Vx579.ext E578)
        have ne599 : a1 ≠ a597 := Nat.ne_of_lt (by rw [g597]; exact Vx598.lt)
        have Vx600 := (Vx581.ext E578)
        have ne601 : a24 ≠ a597 := Nat.ne_of_lt (by rw [g597]; exact Vx600.lt)
        have Vx602 := (Vx583.ext E578)
        have ne603 : a522 ≠ a597 := Nat.ne_of_lt (by rw [g597]; exact Vx602.lt)
        have Vx604 := (Vx585.ext E578)
        have ne605 : a533 ≠ a597 := Nat.ne_of_lt (by rw [g597]; exact Vx604.lt)
        have Vx606 := (Vx587.ext E578)
        have ne607 : a546 ≠ a597 := Nat.ne_of_lt (by rw [g597]; exact Vx606.lt)
        have Vx608 := (A561.ext E578)
        have ne609 : a561 ≠ a597 := Nat.ne_of_lt (by rw [g597]; exact Vx608.lt)
        have ne610 : a578 ≠ a597 := Nat.ne_of_lt (by rw [g597]; exact A578.lt)
        have Vx611 := (Vx590.ext E578)
        have ne612 : p_ ≠ a597 := Nat.ne_of_lt (by rw [g597]; exact Vx611.lt)
        have Vx613 := (Vx592.ext E578)
        have ne614 : t ≠ a597 := Nat.ne_of_lt (by rw [g597]; exact Vx613.lt)
        have gn615 : n0 ≤ a597 := by rw [g597]; exact sz595
        have sz616 : n0 ≤ h597.size := (Nat.le_trans sz595 E597.1)
        have Od617 : Old Z n0 h597 := Od596.ext E597
        refine s_astore C at_151 (pc' := 153) rfl rfl #[.val (.long x0), .second, .val (.long x1), .second, .val (.long x2), .second, .val (.long x3), .second, .val (.long x4), .second, .val (.int x5), .val (.long (4503599627370495 : Int64)), .second, .val (.ref a1), .val (.ref a24), .val (.int (2 : Int32)), .val (.int (1 : Int32)), .val (.ref a522), .val (.ref a533), .val (.ref a546), .val (.ref a561), .val (.ref a578), .val (.ref a597), .unset] rfl ?_
        refine s_iload C at_153 (pc' := 155) rfl rfl ?_
        refine s_if_eq C at_155 (pc' := 158) rfl (pcY := 163) rfl (fun hc => by exfalso; revert hc; decide) (fun c618 => ?_)
        refine s_aload C at_158 (pc' := 160) rfl rfl rfl ?_
        refine s_goto C at_160 (pc' := 165) rfl ?_
        refine s_astore C at_165 (pc' := 167) rfl rfl #[.val (.long x0), .second, .val (.long x1), .second, .val (.long x2), .second, .val (.long x3), .second, .val (.long x4), .second, .val (.int x5), .val (.long (4503599627370495 : Int64)), .second, .val (.ref a1), .val (.ref a24), .val (.int (2 : Int32)), .val (.int (1 : Int32)), .val (.ref a522), .val (.ref a533), .val (.ref a546), .val (.ref a561), .val (.ref a578), .val (.ref a597), .val (.ref a1)] rfl ?_
        refine s_aload C at_167 (pc' := 169) rfl rfl rfl ?_
        refine s_aload C at_169 (pc' := 171) rfl rfl rfl ?_
        refine s_aload C at_171 (pc' := 173) rfl rfl rfl ?_
        have Vx620 := (Vx613.ext E597)
        have Vx621 := (Vx611.ext E597)
        have Vx622 := (Vx604.ext E597)
        have Vx623 := (Vx600.ext E597)
        refine s_callS0 C at_173 (pc' := 176) rfl (w11 hw) (w12 hw) (w13 hw) (w14 hw) (by decide) [(.ref a533), (.ref a24), (.ref a24)] [] pd5 rfl rfl (c_add l Z a0 hw t p_ a533 a24 a24 (0 : Int64) (0 : Int64) (0 : Int64) (0 : Int64) (0 : Int64) y0 y1 y2 y3 y4 y0 y1 y2 y3 y4 va va h597 n0 sz616 Od617 S_t S_p Vx620 Vx621 gn543 Vx622 Vx623 Vx623 na na la la) rfl (W := 0) rfl (by decide) (by decide) (k' := 8) rfl (by decide) (n' := 40) rfl (by decide) (fun h619 q619 => ?_)
        obtain ⟨K619, z619_0, z619_1, z619_2, z619_3, z619_4, v619, V619, N619, L619, C619⟩ := q619
        have sz624 : n0 ≤ h619.size := (Nat.le_trans sz616 K619.1)
        have Od625 : Old Z n0 h619 := Od617.keep K619 (allS gn543 all0)
        refine s_aload C at_176 (pc' := 178) rfl rfl rfl ?_
        refine s_aload C at_178 (pc' := 180) rfl rfl rfl ?_
        refine s_aload C at_180 (pc' := 182) rfl rfl rfl ?_
        have Vx627 := (Vx620.keep K619 (ninS ne542 nin0))
        have Vx628 := (Vx621.keep K619 (ninS ne540 nin0))
        have Vx629 := ((Vx606.ext E597).keep K619 (ninS (Ne.symm ne553) nin0))
        refine s_callS0 C at_182 (pc' := 185) rfl (w11 hw) (w12 hw) (w13 hw) (w14 hw) (by decide) [(.ref a546), (.ref a533), (.ref a533)] [] pd5 rfl rfl (c_add l Z a0 hw t p_ a546 a533 a533 (0 : Int64) (0 : Int64) (0 : Int64) (0 : Int64) (0 : Int64) z619_0 z619_1 z619_2 z619_3 z619_4 z619_0 z619_1 z619_2 z619_3 z619_4 v619 v619 h619 n0 sz624 Od625 S_t S_p Vx627 Vx628 gn558 Vx629 V619 V619 N619 N619 L619 L619) rfl (W := 0) rfl (by decide) (by decide) (k' := 8) rfl (by decide) (n' := 40) rfl (by decide) (fun h626 q626 => ?_)
        obtain ⟨K626, z626_0, z626_1, z626_2, z626_3, z626_4, v626, V626, N626, L626, C626⟩ := q626
        have sz630 : n0 ≤ h626.size := (Nat.le_trans sz624 K626.1)
        have Od631 : Old Z n0 h626 := Od625.keep K626 (allS gn558 all0)
        refine s_aload C at_185 (pc' := 187) rfl rfl rfl ?_
        refine s_aload C at_187 (pc' := 189) rfl rfl rfl ?_
        refine s_aload C at_189 (pc' := 191) rfl rfl rfl ?_
        have Vx633 := (Vx627.keep K626 (ninS ne557 nin0))
        have Vx634 := (Vx628.keep K626 (ninS ne555 nin0))
        have Vx635 := (((Vx608.ext E597).keep K619 (ninS (Ne.symm ne569) nin0)).keep K626 (ninS (Ne.symm ne570) nin0))
        refine s_callS0 C at_191 (pc' := 194) rfl (w11 hw) (w12 hw) (w13 hw) (w14 hw) (by decide) [(.ref a561), (.ref a546), (.ref a546)] [] pd5 rfl rfl (c_add l Z a0 hw t p_ a561 a546 a546 (0 : Int64) (0 : Int64) (0 : Int64) (0 : Int64) (0 : Int64) z626_0 z626_1 z626_2 z626_3 z626_4 z626_0 z626_1 z626_2 z626_3 z626_4 v626 v626 h626 n0 sz630 Od631 S_t S_p Vx633 Vx634 gn575 Vx635 V626 V626 N626 N626 L626 L626) rfl (W := 0) rfl (by decide) (by decide) (k' := 8) rfl (by decide) (n' := 40) rfl (by decide) (fun h632 q632 => ?_)
        obtain ⟨K632, z632_0, z632_1, z632_2, z632_3, z632_4, v632, V632, N632, L632, C632⟩ := q632
        have sz636 : n0 ≤ h632.size := (Nat.le_trans sz630 K632.1)
        have Od637 : Old Z n0 h632 := Od631.keep K632 (allS gn575 all0)
        refine s_aload C at_194 (pc' := 196) rfl rfl rfl ?_
        refine s_iload C at_196 (pc' := 198) rfl rfl ?_
        refine s_iconst C at_198 (pc' := 199) rfl (1 : Int32) rfl ?_
        refine s_iand C at_199 (pc' := 200) rfl ?_
        refine s_foldI C (y := (0 : Int32)) (by decide) ?_
        refine s_if_eq C at_200 (pc' := 203) rfl (pcY := 208) rfl (fun c638 => ?_) (fun hc => by exfalso; revert hc; decide)
        refine s_aload C at_208 (pc' := 210) rfl rfl rfl ?_
        refine s_iload C at_210 (pc' := 212) rfl rfl ?_
        refine s_iconst C at_212 (pc' := 213) rfl (2 : Int32) rfl ?_
        refine s_iand C at_213 (pc' := 214) rfl ?_
        refine s_foldI C (y := (2 : Int32)) (by decide) ?_
        refine s_if_eq C at_214 (pc' := 217) rfl (pcY := 222) rfl (fun hc => by exfalso; revert hc; decide) (fun c639 => ?_)
        refine s_aload C at_217 (pc' := 219) rfl rfl rfl ?_
        refine s_goto C at_219 (pc' := 224) rfl ?_
        have Vx641 := (Vx633.keep K632 (ninS ne574 nin0))
        have Vx642 := (Vx634.keep K632 (ninS ne572 nin0))
        have Vx643 := ((((A578.ext E597).keep K619 (ninS (Ne.symm ne586) nin0)).keep K626 (ninS (Ne.symm ne588) nin0)).keep K632 (ninS (Ne.symm ne589) nin0))
        have Vx644 := ((((Vx602.ext E597).keep K619 (ninS ne538 nin0)).keep K626 (ninS ne552 nin0)).keep K632 (ninS ne567 nin0))
        have Vx645 := ((V619.keep K626 (ninS ne553 nin0)).keep K632 (ninS ne569 nin0))
        refine s_callS0 C at_224 (pc' := 227) rfl (w11 hw) (w12 hw) (w13 hw) (w14 hw) (by decide) [(.ref a578), (.ref a522), (.ref a533)] [] pd5 rfl rfl (c_add l Z a0 hw t p_ a578 a522 a533 (0 : Int64) (0 : Int64) (0 : Int64) (0 : Int64) (0 : Int64) (0 : Int64) (0 : Int64) (0 : Int64) (0 : Int64) (0 : Int64) z619_0 z619_1 z619_2 z619_3 z619_4 0 v619 h632 n0 sz636 Od637 S_t S_p Vx641 Vx642 gn594 Vx643 Vx644 Vx645 own_zero N619 (by decide) L619) rfl (W := 0) rfl (by decide) (by decide) (k' := 8) rfl (by decide) (n' := 40) rfl (by decide) (fun h640 q640 => ?_)
        obtain ⟨K640, z640_0, z640_1, z640_2, z640_3, z640_4, v640, V640, N640, L640, C640⟩ := q640
        have sz646 : n0 ≤ h640.size := (Nat.le_trans sz636 K640.1)
        have Od647 : Old Z n0 h640 := Od637.keep K640 (allS gn594 all0)
        refine s_aload C at_227 (pc' := 229) rfl rfl rfl ?_
        refine s_aload C at_229 (pc' := 231) rfl rfl rfl ?_
        refine s_iload C at_231 (pc' := 233) rfl rfl ?_
        refine s_iconst C at_233 (pc' := 234) rfl (4 : Int32) rfl ?_
        refine s_iand C at_234 (pc' := 235) rfl ?_
        refine s_foldI C (y := (0 : Int32)) (by decide) ?_
        refine s_if_eq C at_235 (pc' := 238) rfl (pcY := 243) rfl (fun c648 => ?_) (fun hc => by exfalso; revert hc; decide)
        refine s_aload C at_243 (pc' := 245) rfl rfl rfl ?_
        have Vx650 := (Vx641.keep K640 (ninS ne593 nin0))
        have Vx651 := (Vx642.keep K640 (ninS ne591 nin0))
        have Vx652 := (Vx644.keep K640 (ninS ne584 nin0))
        refine s_callS0 C at_245 (pc' := 248) rfl (w11 hw) (w12 hw) (w13 hw) (w14 hw) (by decide) [(.ref a578), (.ref a578), (.ref a522)] [] pd5 rfl rfl (c_add l Z a0 hw t p_ a578 a578 a522 z640_0 z640_1 z640_2 z640_3 z640_4 z640_0 z640_1 z640_2 z640_3 z640_4 (0 : Int64) (0 : Int64) (0 : Int64) (0 : Int64) (0 : Int64) v640 0 h640 n0 sz646 Od647 S_t S_p Vx650 Vx651 gn594 V640 V640 Vx652 N640 own_zero L640 (by decide)) rfl (W := 0) rfl (by decide) (by decide) (k' := 8) rfl (by decide) (n' := 40) rfl (by decide) (fun h649 q649 => ?_)
        obtain ⟨K649, z649_0, z649_1, z649_2, z649_3, z649_4, v649, V649, N649, L649, C649⟩ := q649
        have sz653 : n0 ≤ h649.size := (Nat.le_trans sz646 K649.1)
        have Od654 : Old Z n0 h649 := Od647.keep K649 (allS gn594 all0)
        refine s_aload C at_248 (pc' := 250) rfl rfl rfl ?_
        refine s_aload C at_250 (pc' := 252) rfl rfl rfl ?_
        refine s_iload C at_252 (pc' := 254) rfl rfl ?_
        refine s_bipush C at_254 (pc' := 256) rfl (8 : Int32) rfl ?_
        refine s_iand C at_256 (pc' := 257) rfl ?_
        refine s_foldI C (y := (0 : Int32)) (by decide) ?_
        refine s_if_eq C at_257 (pc' := 260) rfl (pcY := 265) rfl (fun c655 => ?_) (fun hc => by exfalso; revert hc; decide)
        refine s_aload C at_265 (pc' := 267) rfl rfl rfl ?_
        have Vx657 := (Vx650.keep K649 (ninS ne593 nin0))
        have Vx658 := (Vx651.keep K649 (ninS ne591 nin0))
        have Vx659 := (Vx652.keep K649 (ninS ne584 nin0))
        refine s_callS0 C at_267 (pc' := 270) rfl (w11 hw) (w12 hw) (w13 hw) (w14 hw) (by decide) [(.ref a578), (.ref a578), (.ref a522)] [] pd5 rfl rfl (c_add l Z a0 hw t p_ a578 a578 a522 z649_0 z649_1 z649_2 z649_3 z649_4 z649_0 z649_1 z649_2 z649_3 z649_4 (0 : Int64) (0 : Int64) (0 : Int64) (0 : Int64) (0 : Int64) v649 0 h649 n0 sz653 Od654 S_t S_p Vx657 Vx658 gn594 V649 V649 Vx659 N649 own_zero L649 (by decide)) rfl (W := 0) rfl (by decide) (by decide) (k' := 8) rfl (by decide) (n' := 40) rfl (by decide) (fun h656 q656 => ?_)
        obtain ⟨K656, z656_0, z656_1, z656_2, z656_3, z656_4, v656, V656, N656, L656, C656⟩ := q656
        have sz660 : n0 ≤ h656.size := (Nat.le_trans sz653 K656.1)
        have Od661 : Old Z n0 h656 := Od654.keep K656 (allS gn594 all0)
        refine s_aload C at_270 (pc' := 272) rfl rfl rfl ?_
        refine s_aload C at_272 (pc' := 274) rfl rfl rfl ?_
        refine s_iload C at_274 (pc' := 276) rfl rfl ?_
        have Vx663 := (((((((Vx598.ext E597).keep K619 (ninS ne535 nin0)).keep K626 (ninS ne548 nin0)).keep K632 (ninS ne563 nin0)).keep K640 (ninS ne580 nin0)).keep K649 (ninS ne580 nin0)).keep K656 (ninS ne580 nin0))
        refine s_callS0 C at_276 (pc' := 279) rfl (w22 hw) (w23 hw) (w13 hw) (w24 hw) (by decide) [(.ref a1), (.ref a1), (.int (2 : Int32))] [] pd3 rfl rfl (c_ms2 l Z a0 hw a1 a1 y0 y1 y2 y3 y4 y0 y1 y2 y3 y4 va h656 n0 sz660 gn4 Vx663 Vx663 na la) rfl (W := 0) rfl (by decide) (by decide) (k' := 8) rfl (by decide) (n' := 40) rfl (by decide) (fun h662 q662 => ?_)
        obtain ⟨K662, z662_0, z662_1, z662_2, z662_3, z662_4, v662, V662, N662, L662, C662⟩ := q662
        have sz664 : n0 ≤ h662.size := (Nat.le_trans sz660 K662.1)
        have Od665 : Old Z n0 h662 := Od661.keep K662 (allS gn4 all0)
        refine s_aload C at_279 (pc' := 281) rfl rfl rfl ?_
        refine s_callSI C at_281 (pc' := 284) rfl (w26 hw) (w27 hw) (w5 hw) (w28 hw) (by decide) [(.ref a1)] [] pd0 rfl rfl (c_nmz l Z a0 hw a1 z662_0 z662_1 z662_2 z662_3 z662_4 h662 n0 sz664 V662) rfl (W := 0) rfl (by decide) (by decide) (k' := 8) rfl (by decide) (n' := 40) rfl (by decide) (fun _ _ q666 => ?_)
        obtain ⟨rfl, rfl⟩ := q666
        refine s_foldI C (y := (1 : Int32)) (own_nmz N662 L662) ?_
        refine s_if_ne C at_284 (pc' := 287) rfl (pcY := 289) rfl (fun c667 => ?_) (fun hc => by exfalso; revert hc; decide)
        refine s_aload C at_289 (pc' := 291) rfl rfl rfl ?_
        refine s_callSI C at_291 (pc' := 294) rfl (w3 hw) (w4 hw) (w5 hw) (w6 hw) (by decide) [(.ref a1)] [] pd0 rfl rfl (c_blw l Z a0 hw a1 z662_0 z662_1 z662_2 z662_3 z662_4 h662 n0 sz664 V662) rfl (W := 0) rfl (by decide) (by decide) (k' := 8) rfl (by decide) (n' := 40) rfl (by decide) (fun _ _ q668 => ?_)
        obtain ⟨rfl, rfl⟩ := q668
        refine s_foldI C (y := (1 : Int32)) ((own_blw N662).1 L662) ?_
        refine s_if_eq C at_294 (pc' := 297) rfl (pcY := 313) rfl (fun hc => by exfalso; revert hc; decide) (fun c669 => ?_)
        refine s_aload C at_297 (pc' := 299) rfl rfl rfl ?_
        refine s_aload C at_299 (pc' := 301) rfl rfl rfl ?_
        have hab : (v662 - v656) % 115792089210356248762697446949407573530086143415290314195533631308867097853951 = 0 := own_hab2 C619 C626 C632 C640 C649 C656 C662
        have Vx671 := ((Vx657.keep K656 (ninS ne593 nin0)).keep K662 (ninS ne3 nin0))
        have Vx672 := ((Vx658.keep K656 (ninS ne591 nin0)).keep K662 (ninS ne2 nin0))
        have Vx673 := (V656.keep K662 (ninS (Ne.symm ne580) nin0))
        refine s_callSL C at_301 (pc' := 304) rfl (w31 hw) (w32 hw) (w13 hw) (w33 hw) (by decide) [(.ref a1), (.ref a578)] [] pd2 rfl rfl (c_eq l Z a0 hw t p_ a1 a578 z662_0 z662_1 z662_2 z662_3 z662_4 z656_0 z656_1 z656_2 z656_3 z656_4 v662 v656 h662 n0 sz664 Od665 S_t S_p Vx671 Vx672 V662 Vx673 N662 N656 L662 L656 hab) rfl (W := 0) rfl (by decide) (by decide) (k' := 10) rfl (by decide) (n' := 50) rfl (by decide) (fun _ h670 q670 => ?_)
        obtain ⟨rfl, K670⟩ := q670
        have sz674 : n0 ≤ h670.size := (Nat.le_trans sz664 K670.1)
        have Od675 : Old Z n0 h670 := Od665.keep K670 all0
        refine s_lconst C at_304 (pc' := 305) rfl (1 : Int64) rfl ?_
        refine s_lc_ne C at_305 (pc1 := 306) rfl at_306 (pc' := 309) rfl (pcY := 313) rfl (fun hc => by exfalso; revert hc; decide) (fun c676 => ?_)
        refine s_iconst C at_309 (pc' := 310) rfl (1 : Int32) rfl ?_
        refine s_goto C at_310 (pc' := 314) rfl ?_
        exact s_retN C (by simp) at_314 (by decide) (by decide) rfl
    · subst q
      refine s_istoreP C at_106 (pc' := 108) rfl #[.val (.long x0), .second, .val (.long x1), .second, .val (.long x2), .second, .val (.long x3), .second, .val (.long x4), .second, .val (.int x5), .val (.long (4503599627370495 : Int64)), .second, .val (.ref a1), .val (.ref a24), .val (.int (3 : Int32)), .unset, .unset, .unset, .unset, .unset, .unset, .unset, .unset] rfl ?_
      refine s_iload C at_108 (pc' := 110) rfl rfl ?_
      refine s_bipush C at_110 (pc' := 112) rfl (8 : Int32) rfl ?_
      refine s_iand C at_112 (pc' := 113) rfl ?_
      refine s_if_eq C at_113 (pc' := 116) rfl (pcY := 120) rfl (fun c677 => ?_) (fun c677 => ?_)
      · skip
        refine s_iconst C at_120 (pc' := 121) rfl (0 : Int32) rfl ?_
        refine s_istoreP C at_121 (pc' := 123) rfl #[.val (.long x0), .second, .val (.long x1), .second, .val (.long x2), .second, .val (.long x3), .second, .val (.long x4), .second, .val (.int x5), .val (.long (4503599627370495 : Int64)), .second, .val (.ref a1), .val (.ref a24), .val (.int (3 : Int32)), .val (.int (0 : Int32)), .unset, .unset, .unset, .unset, .unset, .unset, .unset] rfl ?_
        refine s_iconst C at_123 (pc' := 124) rfl (5 : Int32) rfl ?_
        refine s_newarr C (cap := 5) at_124 (pc' := 126) rfl (w1 hw) (by decide) (by decide) (by decide) (k' := 3) rfl (by decide) (n' := 15) rfl (by decide) [(.long (0 : Int64)), (.long (0 : Int64)), (.long (0 : Int64)), (.long (0 : Int64)), (.long (0 : Int64))] rfl (fun h678 a678 E678 g678 A678 => ?_)
        have Vx679 := (Vx49.other W50 ne25)
        have ne680 : a1 ≠ a678 := Nat.ne_of_lt (by rw [g678]; exact Vx679.lt)
        have ne681 : a24 ≠ a678 := Nat.ne_of_lt (by rw [g678]; exact A50.lt)
        have Vx682 := ((((((Vx26.ext E24).other W34 ne27).other W38 ne27).other W42 ne27).other W46 ne27).other W50 ne27)
        have ne683 : p_ ≠ a678 := Nat.ne_of_lt (by rw [g678]; exact Vx682.lt)
        have Vx684 := ((((((Vx28.ext E24).other W34 ne29).other W38 ne29).other W42 ne29).other W46 ne29).other W50 ne29)
        have ne685 : t ≠ a678 := Nat.ne_of_lt (by rw [g678]; exact Vx684.lt)
        have gn686 : n0 ≤ a678 := by rw [g678]; exact sz51
        have sz687 : n0 ≤ h678.size := (Nat.le_trans sz51 E678.1)
        have Od688 : Old Z n0 h678 := Od52.ext E678
        refine s_astore C at_126 (pc' := 128) rfl rfl #[.val (.long x0), .second, .val (.long x1), .second, .val (.long x2), .second, .val (.long x3), .second, .val (.long x4), .second, .val (.int x5), .val (.long (4503599627370495 : Int64)), .second, .val (.ref a1), .val (.ref a24), .val (.int (3 : Int32)), .val (.int (0 : Int32)), .val (.ref a678), .unset, .unset, .unset, .unset, .unset, .unset] rfl ?_
        refine s_iconst C at_128 (pc' := 129) rfl (5 : Int32) rfl ?_
        refine s_newarr C (cap := 5) at_129 (pc' := 131) rfl (w1 hw) (by decide) (by decide) (by decide) (k' := 4) rfl (by decide) (n' := 20) rfl (by decide) [(.long (0 : Int64)), (.long (0 : Int64)), (.long (0 : Int64)), (.long (0 : Int64)), (.long (0 : Int64))] rfl (fun h689 a689 E689 g689 A689 => ?_)
        have Vx690 := (Vx679.ext E678)
        have ne691 : a1 ≠ a689 := Nat.ne_of_lt (by rw [g689]; exact Vx690.lt)
        have Vx692 := (A50.ext E678)
        have ne693 : a24 ≠ a689 := Nat.ne_of_lt (by rw [g689]; exact Vx692.lt)
        have ne694 : a678 ≠ a689 := Nat.ne_of_lt (by rw [g689]; exact A678.lt)
        have Vx695 := (Vx682.ext E678)
        have ne696 : p_ ≠ a689 := Nat.ne_of_lt (by rw [g689]; exact Vx695.lt)
        have Vx697 := (Vx684.ext E678)
        have ne698 : t ≠ a689 := Nat.ne_of_lt (by rw [g689]; exact Vx697.lt)
        have gn699 : n0 ≤ a689 := by rw [g689]; exact sz687
        have sz700 : n0 ≤ h689.size := (Nat.le_trans sz687 E689.1)
        have Od701 : Old Z n0 h689 := Od688.ext E689
        refine s_astore C at_131 (pc' := 133) rfl rfl #[.val (.long x0), .second, .val (.long x1), .second, .val (.long x2), .second, .val (.long x3), .second, .val (.long x4), .second, .val (.int x5), .val (.long (4503599627370495 : Int64)), .second, .val (.ref a1), .val (.ref a24), .val (.int (3 : Int32)), .val (.int (0 : Int32)), .val (.ref a678), .val (.ref a689), .unset, .unset, .unset, .unset, .unset] rfl ?_
        refine s_iconst C at_133 (pc' := 134) rfl (5 : Int32) rfl ?_
        refine s_newarr C (cap := 5) at_134 (pc' := 136) rfl (w1 hw) (by decide) (by decide) (by decide) (k' := 5) rfl (by decide) (n' := 25) rfl (by decide) [(.long (0 : Int64)), (.long (0 : Int64)), (.long (0 : Int64)), (.long (0 : Int64)), (.long (0 : Int64))] rfl (fun h702 a702 E702 g702 A702 => ?_)
        have Vx703 := (Vx690.ext E689)
        have ne704 : a1 ≠ a702 := Nat.ne_of_lt (by rw [g702]; exact Vx703.lt)
        have Vx705 := (Vx692.ext E689)
        have ne706 : a24 ≠ a702 := Nat.ne_of_lt (by rw [g702]; exact Vx705.lt)
        have Vx707 := (A678.ext E689)
        have ne708 : a678 ≠ a702 := Nat.ne_of_lt (by rw [g702]; exact Vx707.lt)
        have ne709 : a689 ≠ a702 := Nat.ne_of_lt (by rw [g702]; exact A689.lt)
        have Vx710 := (Vx695.ext E689)
        have ne711 : p_ ≠ a702 := Nat.ne_of_lt (by rw [g702]; exact Vx710.lt)
        have Vx712 := (Vx697.ext E689)
        have ne713 : t ≠ a702 := Nat.ne_of_lt (by rw [g702]; exact Vx712.lt)
        have gn714 : n0 ≤ a702 := by rw [g702]; exact sz700
        have sz715 : n0 ≤ h702.size := (Nat.le_trans sz700 E702.1)
        have Od716 : Old Z n0 h702 := Od701.ext E702
        refine s_astore C at_136 (pc' := 138) rfl rfl #[.val (.long x0), .second, .val (.long x1), .second, .val (.long x2), .second, .val (.long x3), .second, .val (.long x4), .second, .val (.int x5), .val (.long (4503599627370495 : Int64)), .second, .val (.ref a1), .val (.ref a24), .val (.int (3 : Int32)), .val (.int (0 : Int32)), .val (.ref a678), .val (.ref a689), .val (.ref a702), .unset, .unset, .unset, .unset] rfl ?_
        refine s_iconst C at_138 (pc' := 139) rfl (5 : Int32) rfl ?_
        refine s_newarr C (cap := 5) at_139 (pc' := 141) rfl (w1 hw) (by decide) (by decide) (by decide) (k' := 6) rfl (by decide) (n' := 30) rfl (by decide) [(.long (0 : Int64)), (.long (0 : Int64)), (.long (0 : Int64)), (.long (0 : Int64)), (.long (0 : Int64))] rfl (fun h717 a717 E717 g717 A717 => ?_)
        have Vx718 := (Vx703.ext E702)
        have ne719 : a1 ≠ a717 := Nat.ne_of_lt (by rw [g717]; exact Vx718.lt)
        have Vx720 := (Vx705.ext E702)
        have ne721 : a24 ≠ a717 := Nat.ne_of_lt (by rw [g717]; exact Vx720.lt)
        have Vx722 := (Vx707.ext E702)
        have ne723 : a678 ≠ a717 := Nat.ne_of_lt (by rw [g717]; exact Vx722.lt)
        have Vx724 := (A689.ext E702)
        have ne725 : a689 ≠ a717 := Nat.ne_of_lt (by rw [g717]; exact Vx724.lt)
        have ne726 : a702 ≠ a717 := Nat.ne_of_lt (by rw [g717]; exact A702.lt)
        have Vx727 := (Vx710.ext E702)
        have ne728 : p_ ≠ a717 := Nat.ne_of_lt (by rw [g717]; exact Vx727.lt)
        have Vx729 := (Vx712.ext E702)
        have ne730 : t ≠ a717 := Nat.ne_of_lt (by rw [g717]; exact Vx729.lt)
        have gn731 : n0 ≤ a717 := by rw [g717]; exact sz715
        have sz732 : n0 ≤ h717.size := (Nat.le_trans sz715 E717.1)
        have Od733 : Old Z n0 h717 := Od716.ext E717
        refine s_astore C at_141 (pc' := 143) rfl rfl #[.val (.long x0), .second, .val (.long x1), .second, .val (.long x2), .second, .val (.long x3), .second, .val (.long x4), .second, .val (.int x5), .val (.long (4503599627370495 : Int64)), .second, .val (.ref a1), .val (.ref a24), .val (.int (3 : Int32)), .val (.int (0 : Int32)), .val (.ref a678), .val (.ref a689), .val (.ref a702), .val (.ref a717), .unset, .unset, .unset] rfl ?_
        refine s_iconst C at_143 (pc' := 144) rfl (5 : Int32) rfl ?_
        refine s_newarr C (cap := 5) at_144 (pc' := 146) rfl (w1 hw) (by decide) (by decide) (by decide) (k' := 7) rfl (by decide) (n' := 35) rfl (by decide) [(.long (0 : Int64)), (.long (0 : Int64)), (.long (0 : Int64)), (.long (0 : Int64)), (.long (0 : Int64))] rfl (fun h734 a734 E734 g734 A734 => ?_)
        have Vx735 := (Vx718.ext E717)
        have ne736 : a1 ≠ a734 := Nat.ne_of_lt (by rw [g734]; exact Vx735.lt)
        have Vx737 := (Vx720.ext E717)
        have ne738 : a24 ≠ a734 := Nat.ne_of_lt (by rw [g734]; exact Vx737.lt)
        have Vx739 := (Vx722.ext E717)
        have ne740 : a678 ≠ a734 := Nat.ne_of_lt (by rw [g734]; exact Vx739.lt)
        have Vx741 := (Vx724.ext E717)
        have ne742 : a689 ≠ a734 := Nat.ne_of_lt (by rw [g734]; exact Vx741.lt)
        have Vx743 := (A702.ext E717)
        have ne744 : a702 ≠ a734 := Nat.ne_of_lt (by rw [g734]; exact Vx743.lt)
        have ne745 : a717 ≠ a734 := Nat.ne_of_lt (by rw [g734]; exact A717.lt)
        have Vx746 := (Vx727.ext E717)
        have ne747 : p_ ≠ a734 := Nat.ne_of_lt (by rw [g734]; exact Vx746.lt)
        have Vx748 := (Vx729.ext E717)
        have ne749 : t ≠ a734 := Nat.ne_of_lt (by rw [g734]; exact Vx748.lt)
        have gn750 : n0 ≤ a734 := by rw [g734]; exact sz732
        have sz751 : n0 ≤ h734.size := (Nat.le_trans sz732 E734.1)
        have Od752 : Old Z n0 h734 := Od733.ext E734
        refine s_astore C at_146 (pc' := 148) rfl rfl #[.val (.long x0), .second, .val (.long x1), .second, .val (.long x2), .second, .val (.long x3), .second, .val (.long x4), .second, .val (.int x5), .val (.long (4503599627370495 : Int64)), .second, .val (.ref a1), .val (.ref a24), .val (.int (3 : Int32)), .val (.int (0 : Int32)), .val (.ref a678), .val (.ref a689), .val (.ref a702), .val (.ref a717), .val (.ref a734), .unset, .unset] rfl ?_
        refine s_iconst C at_148 (pc' := 149) rfl (5 : Int32) rfl ?_
        refine s_newarr C (cap := 5) at_149 (pc' := 151) rfl (w1 hw) (by decide) (by decide) (by decide) (k' := 8) rfl (by decide) (n' := 40) rfl (by decide) [(.long (0 : Int64)), (.long (0 : Int64)), (.long (0 : Int64)), (.long (0 : Int64)), (.long (0 : Int64))] rfl (fun h753 a753 E753 g753 A753 => ?_)
        have Vx754 := (Vx735.ext E734)
        have ne755 : a1 ≠ a753 := Nat.ne_of_lt (by rw [g753]; exact Vx754.lt)
        have Vx756 := (Vx737.ext E734)
        have ne757 : a24 ≠ a753 := Nat.ne_of_lt (by rw [g753]; exact Vx756.lt)
        have Vx758 := (Vx739.ext E734)
        have ne759 : a678 ≠ a753 := Nat.ne_of_lt (by rw [g753]; exact Vx758.lt)
        have Vx760 := (Vx741.ext E734)
        have ne761 : a689 ≠ a753 := Nat.ne_of_lt (by rw [g753]; exact Vx760.lt)
        have Vx762 := (Vx743.ext E734)
        have ne763 : a702 ≠ a753 := Nat.ne_of_lt (by rw [g753]; exact Vx762.lt)
        have Vx764 := (A717.ext E734)
        have ne765 : a717 ≠ a753 := Nat.ne_of_lt (by rw [g753]; exact Vx764.lt)
        have ne766 : a734 ≠ a753 := Nat.ne_of_lt (by rw [g753]; exact A734.lt)
        have Vx767 := (Vx746.ext E734)
        have ne768 : p_ ≠ a753 := Nat.ne_of_lt (by rw [g753]; exact Vx767.lt)
        have Vx769 := (Vx748.ext E734)
        have ne770 : t ≠ a753 := Nat.ne_of_lt (by rw [g753]; exact Vx769.lt)
        have gn771 : n0 ≤ a753 := by rw [g753]; exact sz751
        have sz772 : n0 ≤ h753.size := (Nat.le_trans sz751 E753.1)
        have Od773 : Old Z n0 h753 := Od752.ext E753
        refine s_astore C at_151 (pc' := 153) rfl rfl #[.val (.long x0), .second, .val (.long x1), .second, .val (.long x2), .second, .val (.long x3), .second, .val (.long x4), .second, .val (.int x5), .val (.long (4503599627370495 : Int64)), .second, .val (.ref a1), .val (.ref a24), .val (.int (3 : Int32)), .val (.int (0 : Int32)), .val (.ref a678), .val (.ref a689), .val (.ref a702), .val (.ref a717), .val (.ref a734), .val (.ref a753), .unset] rfl ?_
        refine s_iload C at_153 (pc' := 155) rfl rfl ?_
        refine s_if_eq C at_155 (pc' := 158) rfl (pcY := 163) rfl (fun c774 => ?_) (fun hc => by exfalso; revert hc; decide)
        refine s_aload C at_163 (pc' := 165) rfl rfl rfl ?_
        refine s_astore C at_165 (pc' := 167) rfl rfl #[.val (.long x0), .second, .val (.long x1), .second, .val (.long x2), .second, .val (.long x3), .second, .val (.long x4), .second, .val (.int x5), .val (.long (4503599627370495 : Int64)), .second, .val (.ref a1), .val (.ref a24), .val (.int (3 : Int32)), .val (.int (0 : Int32)), .val (.ref a678), .val (.ref a689), .val (.ref a702), .val (.ref a717), .val (.ref a734), .val (.ref a753), .val (.ref a753)] rfl ?_
        refine s_aload C at_167 (pc' := 169) rfl rfl rfl ?_
        refine s_aload C at_169 (pc' := 171) rfl rfl rfl ?_
        refine s_aload C at_171 (pc' := 173) rfl rfl rfl ?_
        have Vx776 := (Vx769.ext E753)
        have Vx777 := (Vx767.ext E753)
        have Vx778 := (Vx760.ext E753)
        have Vx779 := (Vx756.ext E753)
        refine s_callS0 C at_173 (pc' := 176) rfl (w11 hw) (w12 hw) (w13 hw) (w14 hw) (by decide) [(.ref a689), (.ref a24), (.ref a24)] [] pd5 rfl rfl (c_add l Z a0 hw t p_ a689 a24 a24 (0 : Int64) (0 : Int64) (0 : Int64) (0 : Int64) (0 : Int64) y0 y1 y2 y3 y4 y0 y1 y2 y3 y4 va va h753 n0 sz772 Od773 S_t S_p Vx776 Vx777 gn699 Vx778 Vx779 Vx779 na na la la) rfl (W := 0) rfl (by decide) (by decide) (k' := 8) rfl (by decide) (n' := 40) rfl (by decide) (fun h775 q775 => ?_)
        obtain ⟨K775, z775_0, z775_1, z775_2, z775_3, z775_4, v775, V775, N775, L775, C775⟩ := q775
        have sz780 : n0 ≤ h775.size := (Nat.le_trans sz772 K775.1)
        have Od781 : Old Z n0 h775 := Od773.keep K775 (allS gn699 all0)
        refine s_aload C at_176 (pc' := 178) rfl rfl rfl ?_
        refine s_aload C at_178 (pc' := 180) rfl rfl rfl ?_
        refine s_aload C at_180 (pc' := 182) rfl rfl rfl ?_
        have Vx783 := (Vx776.keep K775 (ninS ne698 nin0))
        have Vx784 := (Vx777.keep K775 (ninS ne696 nin0))
        have Vx785 := ((Vx762.ext E753).keep K775 (ninS (Ne.symm ne709) nin0))
        refine s_callS0 C at_182 (pc' := 185) rfl (w11 hw) (w12 hw) (w13 hw) (w14 hw) (by decide) [(.ref a702), (.ref a689), (.ref a689)] [] pd5 rfl rfl (c_add l Z a0 hw t p_ a702 a689 a689 (0 : Int64) (0 : Int64) (0 : Int64) (0 : Int64) (0 : Int64) z775_0 z775_1 z775_2 z775_3 z775_4 z775_0 z775_1 z775_2 z775_3 z775_4 v775 v775 h775 n0 sz780 Od781 S_t S_p Vx783 Vx784 gn714 Vx785 V775 V775 N775 N775 L775 L775) rfl (W := 0) rfl (by decide) (by decide) (k' := 8) rfl (by decide) (n' := 40) rfl (by decide) (fun h782 q782 => ?_)
        obtain ⟨K782, z782_0, z782_1, z782_2, z782_3, z782_4, v782, V782, N782, L782, C782⟩ := q782
        have sz786 : n0 ≤ h782.size := (Nat.le_trans sz780 K782.1)
        have Od787 : Old Z n0 h782 := Od781.keep K782 (allS gn714 all0)
        refine s_aload C at_185 (pc' := 187) rfl rfl rfl ?_
        refine s_aload C at_187 (pc' := 189) rfl rfl rfl ?_
        refine s_aload C at_189 (pc' := 191) rfl rfl rfl ?_
        have Vx789 := (Vx783.keep K782 (ninS ne713 nin0))
        have Vx790 := (Vx784.keep K782 (ninS ne711 nin0))
        have Vx791 := (((Vx764.ext E753).keep K775 (ninS (Ne.symm ne725) nin0)).keep K782 (ninS (Ne.symm ne726) nin0))
        refine s_callS0 C at_191 (pc' := 194) rfl (w11 hw) (w12 hw) (w13 hw) (w14 hw) (by decide) [(.ref a717), (.ref a702), (.ref a702)] [] pd5 rfl rfl (c_add l Z a0 hw t p_ a717 a702 a702 (0 : Int64) (0 : Int64) (0 : Int64) (0 : Int64) (0 : Int64) z782_0 z782_1 z782_2 z782_3 z782_4 z782_0 z782_1 z782_2 z782_3 z782_4 v782 v782 h782 n0 sz786 Od787 S_t S_p Vx789 Vx790 gn731 Vx791 V782 V782 N782 N782 L782 L782) rfl (W := 0) rfl (by decide) (by decide) (k' := 8) rfl (by decide) (n' := 40) rfl (by decide) (fun h788 q788 => ?_)
        obtain ⟨K788, z788_0, z788_1, z788_2, z788_3, z788_4, v788, V788, N788, L788, C788⟩ := q788
        have sz792 : n0 ≤ h788.size := (Nat.le_trans sz786 K788.1)
        have Od793 : Old Z n0 h788 := Od787.keep K788 (allS gn731 all0)
        refine s_aload C at_194 (pc' := 196) rfl rfl rfl ?_
        refine s_iload C at_196 (pc' := 198) rfl rfl ?_
        refine s_iconst C at_198 (pc' := 199) rfl (1 : Int32) rfl ?_
        refine s_iand C at_199 (pc' := 200) rfl ?_
        refine s_foldI C (y := (1 : Int32)) (by decide) ?_
        refine s_if_eq C at_200 (pc' := 203) rfl (pcY := 208) rfl (fun hc => by exfalso; revert hc; decide) (fun c794 => ?_)
        refine s_aload C at_203 (pc' := 205) rfl rfl rfl ?_
        refine s_goto C at_205 (pc' := 210) rfl ?_
        refine s_iload C at_210 (pc' := 212) rfl rfl ?_
        refine s_iconst C at_212 (pc' := 213) rfl (2 : Int32) rfl ?_
        refine s_iand C at_213 (pc' := 214) rfl ?_
        refine s_foldI C (y := (2 : Int32)) (by decide) ?_
        refine s_if_eq C at_214 (pc' := 217) rfl (pcY := 222) rfl (fun hc => by exfalso; revert hc; decide) (fun c795 => ?_)
        refine s_aload C at_217 (pc' := 219) rfl rfl rfl ?_
        refine s_goto C at_219 (pc' := 224) rfl ?_
        have Vx797 := (Vx789.keep K788 (ninS ne730 nin0))
        have Vx798 := (Vx790.keep K788 (ninS ne728 nin0))
        have Vx799 := ((((A734.ext E753).keep K775 (ninS (Ne.symm ne742) nin0)).keep K782 (ninS (Ne.symm ne744) nin0)).keep K788 (ninS (Ne.symm ne745) nin0))
        have Vx800 := (((Vx779.keep K775 (ninS ne693 nin0)).keep K782 (ninS ne706 nin0)).keep K788 (ninS ne721 nin0))
        have Vx801 := ((V775.keep K782 (ninS ne709 nin0)).keep K788 (ninS ne725 nin0))
        refine s_callS0 C at_224 (pc' := 227) rfl (w11 hw) (w12 hw) (w13 hw) (w14 hw) (by decide) [(.ref a734), (.ref a24), (.ref a689)] [] pd5 rfl rfl (c_add l Z a0 hw t p_ a734 a24 a689 (0 : Int64) (0 : Int64) (0 : Int64) (0 : Int64) (0 : Int64) y0 y1 y2 y3 y4 z775_0 z775_1 z775_2 z775_3 z775_4 va v775 h788 n0 sz792 Od793 S_t S_p Vx797 Vx798 gn750 Vx799 Vx800 Vx801 na N775 la L775) rfl (W := 0) rfl (by decide) (by decide) (k' := 8) rfl (by decide) (n' := 40) rfl (by decide) (fun h796 q796 => ?_)
        obtain ⟨K796, z796_0, z796_1, z796_2, z796_3, z796_4, v796, V796, N796, L796, C796⟩ := q796
        have sz802 : n0 ≤ h796.size := (Nat.le_trans sz792 K796.1)
        have Od803 : Old Z n0 h796 := Od793.keep K796 (allS gn750 all0)
        refine s_aload C at_227 (pc' := 229) rfl rfl rfl ?_
        refine s_aload C at_229 (pc' := 231) rfl rfl rfl ?_
        refine s_iload C at_231 (pc' := 233) rfl rfl ?_
        refine s_iconst C at_233 (pc' := 234) rfl (4 : Int32) rfl ?_
        refine s_iand C at_234 (pc' := 235) rfl ?_
        refine s_foldI C (y := (0 : Int32)) (by decide) ?_
        refine s_if_eq C at_235 (pc' := 238) rfl (pcY := 243) rfl (fun c804 => ?_) (fun hc => by exfalso; revert hc; decide)
        refine s_aload C at_243 (pc' := 245) rfl rfl rfl ?_
        have Vx806 := (Vx797.keep K796 (ninS ne749 nin0))
        have Vx807 := (Vx798.keep K796 (ninS ne747 nin0))
        have Vx808 := (((((Vx758.ext E753).keep K775 (ninS ne694 nin0)).keep K782 (ninS ne708 nin0)).keep K788 (ninS ne723 nin0)).keep K796 (ninS ne740 nin0))
        refine s_callS0 C at_245 (pc' := 248) rfl (w11 hw) (w12 hw) (w13 hw) (w14 hw) (by decide) [(.ref a734), (.ref a734), (.ref a678)] [] pd5 rfl rfl (c_add l Z a0 hw t p_ a734 a734 a678 z796_0 z796_1 z796_2 z796_3 z796_4 z796_0 z796_1 z796_2 z796_3 z796_4 (0 : Int64) (0 : Int64) (0 : Int64) (0 : Int64) (0 : Int64) v796 0 h796 n0 sz802 Od803 S_t S_p Vx806 Vx807 gn750 V796 V796 Vx808 N796 own_zero L796 (by decide)) rfl (W := 0) rfl (by decide) (by decide) (k' := 8) rfl (by decide) (n' := 40) rfl (by decide) (fun h805 q805 => ?_)
        obtain ⟨K805, z805_0, z805_1, z805_2, z805_3, z805_4, v805, V805, N805, L805, C805⟩ := q805
        have sz809 : n0 ≤ h805.size := (Nat.le_trans sz802 K805.1)
        have Od810 : Old Z n0 h805 := Od803.keep K805 (allS gn750 all0)
        refine s_aload C at_248 (pc' := 250) rfl rfl rfl ?_
        refine s_aload C at_250 (pc' := 252) rfl rfl rfl ?_
        refine s_iload C at_252 (pc' := 254) rfl rfl ?_
        refine s_bipush C at_254 (pc' := 256) rfl (8 : Int32) rfl ?_
        refine s_iand C at_256 (pc' := 257) rfl ?_
        refine s_foldI C (y := (0 : Int32)) (by decide) ?_
        refine s_if_eq C at_257 (pc' := 260) rfl (pcY := 265) rfl (fun c811 => ?_) (fun hc => by exfalso; revert hc; decide)
        refine s_aload C at_265 (pc' := 267) rfl rfl rfl ?_
        have Vx813 := (Vx806.keep K805 (ninS ne749 nin0))
        have Vx814 := (Vx807.keep K805 (ninS ne747 nin0))
        have Vx815 := (Vx808.keep K805 (ninS ne740 nin0))
        refine s_callS0 C at_267 (pc' := 270) rfl (w11 hw) (w12 hw) (w13 hw) (w14 hw) (by decide) [(.ref a734), (.ref a734), (.ref a678)] [] pd5 rfl rfl (c_add l Z a0 hw t p_ a734 a734 a678 z805_0 z805_1 z805_2 z805_3 z805_4 z805_0 z805_1 z805_2 z805_3 z805_4 (0 : Int64) (0 : Int64) (0 : Int64) (0 : Int64) (0 : Int64) v805 0 h805 n0 sz809 Od810 S_t S_p Vx813 Vx814 gn750 V805 V805 Vx815 N805 own_zero L805 (by decide)) rfl (W := 0) rfl (by decide) (by decide) (k' := 8) rfl (by decide) (n' := 40) rfl (by decide) (fun h812 q812 => ?_)
        obtain ⟨K812, z812_0, z812_1, z812_2, z812_3, z812_4, v812, V812, N812, L812, C812⟩ := q812
        have sz816 : n0 ≤ h812.size := (Nat.le_trans sz809 K812.1)
        have Od817 : Old Z n0 h812 := Od810.keep K812 (allS gn750 all0)
        refine s_aload C at_270 (pc' := 272) rfl rfl rfl ?_
        refine s_aload C at_272 (pc' := 274) rfl rfl rfl ?_
        refine s_iload C at_274 (pc' := 276) rfl rfl ?_
        have Vx819 := ((((((A753.keep K775 (ninS (Ne.symm ne761) nin0)).keep K782 (ninS (Ne.symm ne763) nin0)).keep K788 (ninS (Ne.symm ne765) nin0)).keep K796 (ninS (Ne.symm ne766) nin0)).keep K805 (ninS (Ne.symm ne766) nin0)).keep K812 (ninS (Ne.symm ne766) nin0))
        have Vx820 := (((((((Vx754.ext E753).keep K775 (ninS ne691 nin0)).keep K782 (ninS ne704 nin0)).keep K788 (ninS ne719 nin0)).keep K796 (ninS ne736 nin0)).keep K805 (ninS ne736 nin0)).keep K812 (ninS ne736 nin0))
        refine s_callS0 C at_276 (pc' := 279) rfl (w22 hw) (w23 hw) (w13 hw) (w24 hw) (by decide) [(.ref a753), (.ref a1), (.int (3 : Int32))] [] pd3 rfl rfl (c_ms3 l Z a0 hw a753 a1 (0 : Int64) (0 : Int64) (0 : Int64) (0 : Int64) (0 : Int64) y0 y1 y2 y3 y4 va h812 n0 sz816 gn771 Vx819 Vx820 na la) rfl (W := 0) rfl (by decide) (by decide) (k' := 8) rfl (by decide) (n' := 40) rfl (by decide) (fun h818 q818 => ?_)
        obtain ⟨K818, z818_0, z818_1, z818_2, z818_3, z818_4, v818, V818, N818, L818, C818⟩ := q818
        have sz821 : n0 ≤ h818.size := (Nat.le_trans sz816 K818.1)
        have Od822 : Old Z n0 h818 := Od817.keep K818 (allS gn771 all0)
        refine s_aload C at_279 (pc' := 281) rfl rfl rfl ?_
        refine s_callSI C at_281 (pc' := 284) rfl (w26 hw) (w27 hw) (w5 hw) (w28 hw) (by decide) [(.ref a753)] [] pd0 rfl rfl (c_nmz l Z a0 hw a753 z818_0 z818_1 z818_2 z818_3 z818_4 h818 n0 sz821 V818) rfl (W := 0) rfl (by decide) (by decide) (k' := 8) rfl (by decide) (n' := 40) rfl (by decide) (fun _ _ q823 => ?_)
        obtain ⟨rfl, rfl⟩ := q823
        refine s_foldI C (y := (1 : Int32)) (own_nmz N818 L818) ?_
        refine s_if_ne C at_284 (pc' := 287) rfl (pcY := 289) rfl (fun c824 => ?_) (fun hc => by exfalso; revert hc; decide)
        refine s_aload C at_289 (pc' := 291) rfl rfl rfl ?_
        refine s_callSI C at_291 (pc' := 294) rfl (w3 hw) (w4 hw) (w5 hw) (w6 hw) (by decide) [(.ref a753)] [] pd0 rfl rfl (c_blw l Z a0 hw a753 z818_0 z818_1 z818_2 z818_3 z818_4 h818 n0 sz821 V818) rfl (W := 0) rfl (by decide) (by decide) (k' := 8) rfl (by decide) (n' := 40) rfl (by decide) (fun _ _ q825 => ?_)
        obtain ⟨rfl, rfl⟩ := q825
        refine s_foldI C (y := (1 : Int32)) ((own_blw N818).1 L818) ?_
        refine s_if_eq C at_294 (pc' := 297) rfl (pcY := 313) rfl (fun hc => by exfalso; revert hc; decide) (fun c826 => ?_)
        refine s_aload C at_297 (pc' := 299) rfl rfl rfl ?_
        refine s_aload C at_299 (pc' := 301) rfl rfl rfl ?_
        have hab : (v818 - v812) % 115792089210356248762697446949407573530086143415290314195533631308867097853951 = 0 := own_hab3 C775 C782 C788 C796 C805 C812 C818
        have Vx828 := ((Vx813.keep K812 (ninS ne749 nin0)).keep K818 (ninS ne770 nin0))
        have Vx829 := ((Vx814.keep K812 (ninS ne747 nin0)).keep K818 (ninS ne768 nin0))
        have Vx830 := (V812.keep K818 (ninS ne766 nin0))
        refine s_callSL C at_301 (pc' := 304) rfl (w31 hw) (w32 hw) (w13 hw) (w33 hw) (by decide) [(.ref a753), (.ref a734)] [] pd2 rfl rfl (c_eq l Z a0 hw t p_ a753 a734 z818_0 z818_1 z818_2 z818_3 z818_4 z812_0 z812_1 z812_2 z812_3 z812_4 v818 v812 h818 n0 sz821 Od822 S_t S_p Vx828 Vx829 V818 Vx830 N818 N812 L818 L812 hab) rfl (W := 0) rfl (by decide) (by decide) (k' := 10) rfl (by decide) (n' := 50) rfl (by decide) (fun _ h827 q827 => ?_)
        obtain ⟨rfl, K827⟩ := q827
        have sz831 : n0 ≤ h827.size := (Nat.le_trans sz821 K827.1)
        have Od832 : Old Z n0 h827 := Od822.keep K827 all0
        refine s_lconst C at_304 (pc' := 305) rfl (1 : Int64) rfl ?_
        refine s_lc_ne C at_305 (pc1 := 306) rfl at_306 (pc' := 309) rfl (pcY := 313) rfl (fun hc => by exfalso; revert hc; decide) (fun c833 => ?_)
        refine s_iconst C at_309 (pc' := 310) rfl (1 : Int32) rfl ?_
        refine s_goto C at_310 (pc' := 314) rfl ?_
        exact s_retN C (by simp) at_314 (by decide) (by decide) rfl
      · skip
        refine s_iconst C at_116 (pc' := 117) rfl (1 : Int32) rfl ?_
        refine s_goto C at_117 (pc' := 121) rfl ?_
        refine s_istoreP C at_121 (pc' := 123) rfl #[.val (.long x0), .second, .val (.long x1), .second, .val (.long x2), .second, .val (.long x3), .second, .val (.long x4), .second, .val (.int x5), .val (.long (4503599627370495 : Int64)), .second, .val (.ref a1), .val (.ref a24), .val (.int (3 : Int32)), .val (.int (1 : Int32)), .unset, .unset, .unset, .unset, .unset, .unset, .unset] rfl ?_
        refine s_iconst C at_123 (pc' := 124) rfl (5 : Int32) rfl ?_
        refine s_newarr C (cap := 5) at_124 (pc' := 126) rfl (w1 hw) (by decide) (by decide) (by decide) (k' := 3) rfl (by decide) (n' := 15) rfl (by decide) [(.long (0 : Int64)), (.long (0 : Int64)), (.long (0 : Int64)), (.long (0 : Int64)), (.long (0 : Int64))] rfl (fun h834 a834 E834 g834 A834 => ?_)
        have Vx835 := (Vx49.other W50 ne25)
        have ne836 : a1 ≠ a834 := Nat.ne_of_lt (by rw [g834]; exact Vx835.lt)
        have ne837 : a24 ≠ a834 := Nat.ne_of_lt (by rw [g834]; exact A50.lt)
        have Vx838 := ((((((Vx26.ext E24).other W34 ne27).other W38 ne27).other W42 ne27).other W46 ne27).other W50 ne27)
        have ne839 : p_ ≠ a834 := Nat.ne_of_lt (by rw [g834]; exact Vx838.lt)
        have Vx840 := ((((((Vx28.ext E24).other W34 ne29).other W38 ne29).other W42 ne29).other W46 ne29).other W50 ne29)
        have ne841 : t ≠ a834 := Nat.ne_of_lt (by rw [g834]; exact Vx840.lt)
        have gn842 : n0 ≤ a834 := by rw [g834]; exact sz51
        have sz843 : n0 ≤ h834.size := (Nat.le_trans sz51 E834.1)
        have Od844 : Old Z n0 h834 := Od52.ext E834
        refine s_astore C at_126 (pc' := 128) rfl rfl #[.val (.long x0), .second, .val (.long x1), .second, .val (.long x2), .second, .val (.long x3), .second, .val (.long x4), .second, .val (.int x5), .val (.long (4503599627370495 : Int64)), .second, .val (.ref a1), .val (.ref a24), .val (.int (3 : Int32)), .val (.int (1 : Int32)), .val (.ref a834), .unset, .unset, .unset, .unset, .unset, .unset] rfl ?_
        refine s_iconst C at_128 (pc' := 129) rfl (5 : Int32) rfl ?_
        refine s_newarr C (cap := 5) at_129 (pc' := 131) rfl (w1 hw) (by decide) (by decide) (by decide) (k' := 4) rfl (by decide) (n' := 20) rfl (by decide) [(.long (0 : Int64)), (.long (0 : Int64)), (.long (0 : Int64)), (.long (0 : Int64)), (.long (0 : Int64))] rfl (fun h845 a845 E845 g845 A845 => ?_)
        have Vx846 := (Vx835.ext E834)
        have ne847 : a1 ≠ a845 := Nat.ne_of_lt (by rw [g845]; exact Vx846.lt)
        have Vx848 := (A50.ext E834)
        have ne849 : a24 ≠ a845 := Nat.ne_of_lt (by rw [g845]; exact Vx848.lt)
        have ne850 : a834 ≠ a845 := Nat.ne_of_lt (by rw [g845]; exact A834.lt)
        have Vx851 := (Vx838.ext E834)
        have ne852 : p_ ≠ a845 := Nat.ne_of_lt (by rw [g845]; exact Vx851.lt)
        have Vx853 := (Vx840.ext E834)
        have ne854 : t ≠ a845 := Nat.ne_of_lt (by rw [g845]; exact Vx853.lt)
        have gn855 : n0 ≤ a845 := by rw [g845]; exact sz843
        have sz856 : n0 ≤ h845.size := (Nat.le_trans sz843 E845.1)
        have Od857 : Old Z n0 h845 := Od844.ext E845
        refine s_astore C at_131 (pc' := 133) rfl rfl #[.val (.long x0), .second, .val (.long x1), .second, .val (.long x2), .second, .val (.long x3), .second, .val (.long x4), .second, .val (.int x5), .val (.long (4503599627370495 : Int64)), .second, .val (.ref a1), .val (.ref a24), .val (.int (3 : Int32)), .val (.int (1 : Int32)), .val (.ref a834), .val (.ref a845), .unset, .unset, .unset, .unset, .unset] rfl ?_
        refine s_iconst C at_133 (pc' := 134) rfl (5 : Int32) rfl ?_
        refine s_newarr C (cap := 5) at_134 (pc' := 136) rfl (w1 hw) (by decide) (by decide) (by decide) (k' := 5) rfl (by decide) (n' := 25) rfl (by decide) [(.long (0 : Int64)), (.long (0 : Int64)), (.long (0 : Int64)), (.long (0 : Int64)), (.long (0 : Int64))] rfl (fun h858 a858 E858 g858 A858 => ?_)
        have Vx859 := (Vx846.ext E845)
        have ne860 : a1 ≠ a858 := Nat.ne_of_lt (by rw [g858]; exact Vx859.lt)
        have Vx861 := (Vx848.ext E845)
        have ne862 : a24 ≠ a858 := Nat.ne_of_lt (by rw [g858]; exact Vx861.lt)
        have Vx863 := (A834.ext E845)
        have ne864 : a834 ≠ a858 := Nat.ne_of_lt (by rw [g858]; exact Vx863.lt)
        have ne865 : a845 ≠ a858 := Nat.ne_of_lt (by rw [g858]; exact A845.lt)
        have Vx866 := (Vx851.ext E845)
        have ne867 : p_ ≠ a858 := Nat.ne_of_lt (by rw [g858]; exact Vx866.lt)
        have Vx868 := (Vx853.ext E845)
        have ne869 : t ≠ a858 := Nat.ne_of_lt (by rw [g858]; exact Vx868.lt)
        have gn870 : n0 ≤ a858 := by rw [g858]; exact sz856
        have sz871 : n0 ≤ h858.size := (Nat.le_trans sz856 E858.1)
        have Od872 : Old Z n0 h858 := Od857.ext E858
        refine s_astore C at_136 (pc' := 138) rfl rfl #[.val (.long x0), .second, .val (.long x1), .second, .val (.long x2), .second, .val (.long x3), .second, .val (.long x4), .second, .val (.int x5), .val (.long (4503599627370495 : Int64)), .second, .val (.ref a1), .val (.ref a24), .val (.int (3 : Int32)), .val (.int (1 : Int32)), .val (.ref a834), .val (.ref a845), .val (.ref a858), .unset, .unset, .unset, .unset] rfl ?_
        refine s_iconst C at_138 (pc' := 139) rfl (5 : Int32) rfl ?_
        refine s_newarr C (cap := 5) at_139 (pc' := 141) rfl (w1 hw) (by decide) (by decide) (by decide) (k' := 6) rfl (by decide) (n' := 30) rfl (by decide) [(.long (0 : Int64)), (.long (0 : Int64)), (.long (0 : Int64)), (.long (0 : Int64)), (.long (0 : Int64))] rfl (fun h873 a873 E873 g873 A873 => ?_)
        have Vx874 := (Vx859.ext E858)
        have ne875 : a1 ≠ a873 := Nat.ne_of_lt (by rw [g873]; exact Vx874.lt)
        have Vx876 := (Vx861.ext E858)
        have ne877 : a24 ≠ a873 := Nat.ne_of_lt (by rw [g873]; exact Vx876.lt)
        have Vx878 := (Vx863.ext E858)
        have ne879 : a834 ≠ a873 := Nat.ne_of_lt (by rw [g873]; exact Vx878.lt)
        have Vx880 := (A845.ext E858)
        have ne881 : a845 ≠ a873 := Nat.ne_of_lt (by rw [g873]; exact Vx880.lt)
        have ne882 : a858 ≠ a873 := Nat.ne_of_lt (by rw [g873]; exact A858.lt)
        have Vx883 := (Vx866.ext E858)
        have ne884 : p_ ≠ a873 := Nat.ne_of_lt (by rw [g873]; exact Vx883.lt)
        have Vx885 := (Vx868.ext E858)
        have ne886 : t ≠ a873 := Nat.ne_of_lt (by rw [g873]; exact Vx885.lt)
        have gn887 : n0 ≤ a873 := by rw [g873]; exact sz871
        have sz888 : n0 ≤ h873.size := (Nat.le_trans sz871 E873.1)
        have Od889 : Old Z n0 h873 := Od872.ext E873
        refine s_astore C at_141 (pc' := 143) rfl rfl #[.val (.long x0), .second, .val (.long x1), .second, .val (.long x2), .second, .val (.long x3), .second, .val (.long x4), .second, .val (.int x5), .val (.long (4503599627370495 : Int64)), .second, .val (.ref a1), .val (.ref a24), .val (.int (3 : Int32)), .val (.int (1 : Int32)), .val (.ref a834), .val (.ref a845), .val (.ref a858), .val (.ref a873), .unset, .unset, .unset] rfl ?_
        refine s_iconst C at_143 (pc' := 144) rfl (5 : Int32) rfl ?_
        refine s_newarr C (cap := 5) at_144 (pc' := 146) rfl (w1 hw) (by decide) (by decide) (by decide) (k' := 7) rfl (by decide) (n' := 35) rfl (by decide) [(.long (0 : Int64)), (.long (0 : Int64)), (.long (0 : Int64)), (.long (0 : Int64)), (.long (0 : Int64))] rfl (fun h890 a890 E890 g890 A890 => ?_)
        have Vx891 := (Vx874.ext E873)
        have ne892 : a1 ≠ a890 := Nat.ne_of_lt (by rw [g890]; exact Vx891.lt)
        have Vx893 := (Vx876.ext E873)
        have ne894 : a24 ≠ a890 := Nat.ne_of_lt (by rw [g890]; exact Vx893.lt)
        have Vx895 := (Vx878.ext E873)
        have ne896 : a834 ≠ a890 := Nat.ne_of_lt (by rw [g890]; exact Vx895.lt)
        have Vx897 := (Vx880.ext E873)
        have ne898 : a845 ≠ a890 := Nat.ne_of_lt (by rw [g890]; exact Vx897.lt)
        have Vx899 := (A858.ext E873)
        have ne900 : a858 ≠ a890 := Nat.ne_of_lt (by rw [g890]; exact Vx899.lt)
        have ne901 : a873 ≠ a890 := Nat.ne_of_lt (by rw [g890]; exact A873.lt)
        have Vx902 := (Vx883.ext E873)
        have ne903 : p_ ≠ a890 := Nat.ne_of_lt (by rw [g890]; exact Vx902.lt)
        have Vx904 := (Vx885.ext E873)
        have ne905 : t ≠ a890 := Nat.ne_of_lt (by rw [g890]; exact Vx904.lt)
        have gn906 : n0 ≤ a890 := by rw [g890]; exact sz888
        have sz907 : n0 ≤ h890.size := (Nat.le_trans sz888 E890.1)
        have Od908 : Old Z n0 h890 := Od889.ext E890
        refine s_astore C at_146 (pc' := 148) rfl rfl #[.val (.long x0), .second, .val (.long x1), .second, .val (.long x2), .second, .val (.long x3), .second, .val (.long x4), .second, .val (.int x5), .val (.long (4503599627370495 : Int64)), .second, .val (.ref a1), .val (.ref a24), .val (.int (3 : Int32)), .val (.int (1 : Int32)), .val (.ref a834), .val (.ref a845), .val (.ref a858), .val (.ref a873), .val (.ref a890), .unset, .unset] rfl ?_
        refine s_iconst C at_148 (pc' := 149) rfl (5 : Int32) rfl ?_
        refine s_newarr C (cap := 5) at_149 (pc' := 151) rfl (w1 hw) (by decide) (by decide) (by decide) (k' := 8) rfl (by decide) (n' := 40) rfl (by decide) [(.long (0 : Int64)), (.long (0 : Int64)), (.long (0 : Int64)), (.long (0 : Int64)), (.long (0 : Int64))] rfl (fun h909 a909 E909 g909 A909 => ?_)
        have Vx910 := (Vx891.ext E890)
        have ne911 : a1 ≠ a909 := Nat.ne_of_lt (by rw [g909]; exact Vx910.lt)
        have Vx912 := (Vx893.ext E890)
        have ne913 : a24 ≠ a909 := Nat.ne_of_lt (by rw [g909]; exact Vx912.lt)
        have Vx914 := (Vx895.ext E890)
        have ne915 : a834 ≠ a909 := Nat.ne_of_lt (by rw [g909]; exact Vx914.lt)
        have Vx916 := (Vx897.ext E890)
        have ne917 : a845 ≠ a909 := Nat.ne_of_lt (by rw [g909]; exact Vx916.lt)
        have Vx918 := (Vx899.ext E890)
        have ne919 : a858 ≠ a909 := Nat.ne_of_lt (by rw [g909]; exact Vx918.lt)
        have Vx920 := (A873.ext E890)
        have ne921 : a873 ≠ a909 := Nat.ne_of_lt (by rw [g909]; exact Vx920.lt)
        have ne922 : a890 ≠ a909 := Nat.ne_of_lt (by rw [g909]; exact A890.lt)
        have Vx923 := (Vx902.ext E890)
        have ne924 : p_ ≠ a909 := Nat.ne_of_lt (by rw [g909]; exact Vx923.lt)
        have Vx925 := (Vx904.ext E890)
        have ne926 : t ≠ a909 := Nat.ne_of_lt (by rw [g909]; exact Vx925.lt)
        have gn927 : n0 ≤ a909 := by rw [g909]; exact sz907
        have sz928 : n0 ≤ h909.size := (Nat.le_trans sz907 E909.1)
        have Od929 : Old Z n0 h909 := Od908.ext E909
        refine s_astore C at_151 (pc' := 153) rfl rfl #[.val (.long x0), .second, .val (.long x1), .second, .val (.long x2), .second, .val (.long x3), .second, .val (.long x4), .second, .val (.int x5), .val (.long (4503599627370495 : Int64)), .second, .val (.ref a1), .val (.ref a24), .val (.int (3 : Int32)), .val (.int (1 : Int32)), .val (.ref a834), .val (.ref a845), .val (.ref a858), .val (.ref a873), .val (.ref a890), .val (.ref a909), .unset] rfl ?_
        refine s_iload C at_153 (pc' := 155) rfl rfl ?_
        refine s_if_eq C at_155 (pc' := 158) rfl (pcY := 163) rfl (fun hc => by exfalso; revert hc; decide) (fun c930 => ?_)
        refine s_aload C at_158 (pc' := 160) rfl rfl rfl ?_
        refine s_goto C at_160 (pc' := 165) rfl ?_
        refine s_astore C at_165 (pc' := 167) rfl rfl #[.val (.long x0), .second, .val (.long x1), .second, .val (.long x2), .second, .val (.long x3), .second, .val (.long x4), .second, .val (.int x5), .val (.long (4503599627370495 : Int64)), .second, .val (.ref a1), .val (.ref a24), .val (.int (3 : Int32)), .val (.int (1 : Int32)), .val (.ref a834), .val (.ref a845), .val (.ref a858), .val (.ref a873), .val (.ref a890), .val (.ref a909), .val (.ref a1)] rfl ?_
        refine s_aload C at_167 (pc' := 169) rfl rfl rfl ?_
        refine s_aload C at_169 (pc' := 171) rfl rfl rfl ?_
        refine s_aload C at_171 (pc' := 173) rfl rfl rfl ?_
        have Vx932 := (Vx925.ext E909)
        have Vx933 := (Vx923.ext E909)
        have Vx934 := (Vx916.ext E909)
        have Vx935 := (Vx912.ext E909)
        refine s_callS0 C at_173 (pc' := 176) rfl (w11 hw) (w12 hw) (w13 hw) (w14 hw) (by decide) [(.ref a845), (.ref a24), (.ref a24)] [] pd5 rfl rfl (c_add l Z a0 hw t p_ a845 a24 a24 (0 : Int64) (0 : Int64) (0 : Int64) (0 : Int64) (0 : Int64) y0 y1 y2 y3 y4 y0 y1 y2 y3 y4 va va h909 n0 sz928 Od929 S_t S_p Vx932 Vx933 gn855 Vx934 Vx935 Vx935 na na la la) rfl (W := 0) rfl (by decide) (by decide) (k' := 8) rfl (by decide) (n' := 40) rfl (by decide) (fun h931 q931 => ?_)
        obtain ⟨K931, z931_0, z931_1, z931_2, z931_3, z931_4, v931, V931, N931, L931, C931⟩ := q931
        have sz936 : n0 ≤ h931.size := (Nat.le_trans sz928 K931.1)
        have Od937 : Old Z n0 h931 := Od929.keep K931 (allS gn855 all0)
        refine s_aload C at_176 (pc' := 178) rfl rfl rfl ?_
        refine s_aload C at_178 (pc' := 180) rfl rfl rfl ?_
        refine s_aload C at_180 (pc' := 182) rfl rfl rfl ?_
        have Vx939 := (Vx932.keep K931 (ninS ne854 nin0))
        have Vx940 := (Vx933.keep K931 (ninS ne852 nin0))
        have Vx941 := ((Vx918.ext E909).keep K931 (ninS (Ne.symm ne865) nin0))
        refine s_callS0 C at_182 (pc' := 185) rfl (w11 hw) (w12 hw) (w13 hw) (w14 hw) (by decide) [(.ref a858), (.ref a845), (.ref a845)] [] pd5 rfl rfl (c_add l Z a0 hw t p_ a858 a845 a845 (0 : Int64) (0 : Int64) (0 : Int64) (0 : Int64) (0 : Int64) z931_0 z931_1 z931_2 z931_3 z931_4 z931_0 z931_1 z931_2 z931_3 z931_4 v931 v931 h931 n0 sz936 Od937 S_t S_p Vx939 Vx940 gn870 Vx941 V931 V931 N931 N931 L931 L931) rfl (W := 0) rfl (by decide) (by decide) (k' := 8) rfl (by decide) (n' := 40) rfl (by decide) (fun h938 q938 => ?_)
        obtain ⟨K938, z938_0, z938_1, z938_2, z938_3, z938_4, v938, V938, N938, L938, C938⟩ := q938
        have sz942 : n0 ≤ h938.size := (Nat.le_trans sz936 K938.1)
        have Od943 : Old Z n0 h938 := Od937.keep K938 (allS gn870 all0)
        refine s_aload C at_185 (pc' := 187) rfl rfl rfl ?_
        refine s_aload C at_187 (pc' := 189) rfl rfl rfl ?_
        refine s_aload C at_189 (pc' := 191) rfl rfl rfl ?_
        have Vx945 := (Vx939.keep K938 (ninS ne869 nin0))
        have Vx946 := (Vx940.keep K938 (ninS ne867 nin0))
        have Vx947 := (((Vx920.ext E909).keep K931 (ninS (Ne.symm ne881) nin0)).keep K938 (ninS (Ne.symm ne882) nin0))
        refine s_callS0 C at_191 (pc' := 194) rfl (w11 hw) (w12 hw) (w13 hw) (w14 hw) (by decide) [(.ref a873), (.ref a858), (.ref a858)] [] pd5 rfl rfl (c_add l Z a0 hw t p_ a873 a858 a858 (0 : Int64) (0 : Int64) (0 : Int64) (0 : Int64) (0 : Int64) z938_0 z938_1 z938_2 z938_3 z938_4 z938_0 z938_1 z938_2 z938_3 z938_4 v938 v938 h938 n0 sz942 Od943 S_t S_p Vx945 Vx946 gn887 Vx947 V938 V938 N938 N938 L938 L938) rfl (W := 0) rfl (by decide) (by decide) (k' := 8) rfl (by decide) (n' := 40) rfl (by decide) (fun h944 q944 => ?_)
        obtain ⟨K944, z944_0, z944_1, z944_2, z944_3, z944_4, v944, V944, N944, L944, C944⟩ := q944
        have sz948 : n0 ≤ h944.size := (Nat.le_trans sz942 K944.1)
        have Od949 : Old Z n0 h944 := Od943.keep K944 (allS gn887 all0)
        refine s_aload C at_194 (pc' := 196) rfl rfl rfl ?_
        refine s_iload C at_196 (pc' := 198) rfl rfl ?_
        refine s_iconst C at_198 (pc' := 199) rfl (1 : Int32) rfl ?_
        refine s_iand C at_199 (pc' := 200) rfl ?_
        refine s_foldI C (y := (1 : Int32)) (by decide) ?_
        refine s_if_eq C at_200 (pc' := 203) rfl (pcY := 208) rfl (fun hc => by exfalso; revert hc; decide) (fun c950 => ?_)
        refine s_aload C at_203 (pc' := 205) rfl rfl rfl ?_
        refine s_goto C at_205 (pc' := 210) rfl ?_
        refine s_iload C at_210 (pc' := 212) rfl rfl ?_
        refine s_iconst C at_212 (pc' := 213) rfl (2 : Int32) rfl ?_
        refine s_iand C at_213 (pc' := 214) rfl ?_
        refine s_foldI C (y := (2 : Int32)) (by decide) ?_
        refine s_if_eq C at_214 (pc' := 217) rfl (pcY := 222) rfl (fun hc => by exfalso; revert hc; decide) (fun c951 => ?_)
        refine s_aload C at_217 (pc' := 219) rfl rfl rfl ?_
        refine s_goto C at_219 (pc' := 224) rfl ?_
        have Vx953 := (Vx945.keep K944 (ninS ne886 nin0))
        have Vx954 := (Vx946.keep K944 (ninS ne884 nin0))
        have Vx955 := ((((A890.ext E909).keep K931 (ninS (Ne.symm ne898) nin0)).keep K938 (ninS (Ne.symm ne900) nin0)).keep K944 (ninS (Ne.symm ne901) nin0))
        have Vx956 := (((Vx935.keep K931 (ninS ne849 nin0)).keep K938 (ninS ne862 nin0)).keep K944 (ninS ne877 nin0))
        have Vx957 := ((V931.keep K938 (ninS ne865 nin0)).keep K944 (ninS ne881 nin0))
        refine s_callS0 C at_224 (pc' := 227) rfl (w11 hw) (w12 hw) (w13 hw) (w14 hw) (by decide) [(.ref a890), (.ref a24), (.ref a845)] [] pd5 rfl rfl (c_add l Z a0 hw t p_ a890 a24 a845 (0 : Int64) (0 : Int64) (0 : Int64) (0 : Int64) (0 : Int64) y0 y1 y2 y3 y4 z931_0 z931_1 z931_2 z931_3 z931_4 va v931 h944 n0 sz948 Od949 S_t S_p Vx953 Vx954 gn906 Vx955 Vx956 Vx957 na N931 la L931) rfl (W := 0) rfl (by decide) (by decide) (k' := 8) rfl (by decide) (n' := 40) rfl (by decide) (fun h952 q952 => ?_)
        obtain ⟨K952, z952_0, z952_1, z952_2, z952_3, z952_4, v952, V952, N952, L952, C952⟩ := q952
        have sz958 : n0 ≤ h952.size := (Nat.le_trans sz948 K952.1)
        have Od959 : Old Z n0 h952 := Od949.keep K952 (allS gn906 all0)
        refine s_aload C at_227 (pc' := 229) rfl rfl rfl ?_
        refine s_aload C at_229 (pc' := 231) rfl rfl rfl ?_
        refine s_iload C at_231 (pc' := 233) rfl rfl ?_
        refine s_iconst C at_233 (pc' := 234) rfl (4 : Int32) rfl ?_
        refine s_iand C at_234 (pc' := 235) rfl ?_
        refine s_foldI C (y := (0 : Int32)) (by decide) ?_
        refine s_if_eq C at_235 (pc' := 238) rfl (pcY := 243) rfl (fun c960 => ?_) (fun hc => by exfalso; revert hc; decide)
        refine s_aload C at_243 (pc' := 245) rfl rfl rfl ?_
        have Vx962 := (Vx953.keep K952 (ninS ne905 nin0))
        have Vx963 := (Vx954.keep K952 (ninS ne903 nin0))
        have Vx964 := (((((Vx914.ext E909).keep K931 (ninS ne850 nin0)).keep K938 (ninS ne864 nin0)).keep K944 (ninS ne879 nin0)).keep K952 (ninS ne896 nin0))
        refine s_callS0 C at_245 (pc' := 248) rfl (w11 hw) (w12 hw) (w13 hw) (w14 hw) (by decide) [(.ref a890), (.ref a890), (.ref a834)] [] pd5 rfl rfl (c_add l Z a0 hw t p_ a890 a890 a834 z952_0 z952_1 z952_2 z952_3 z952_4 z952_0 z952_1 z952_2 z952_3 z952_4 (0 : Int64) (0 : Int64) (0 : Int64) (0 : Int64) (0 : Int64) v952 0 h952 n0 sz958 Od959 S_t S_p Vx962 Vx963 gn906 V952 V952 Vx964 N952 own_zero L952 (by decide)) rfl (W := 0) rfl (by decide) (by decide) (k' := 8) rfl (by decide) (n' := 40) rfl (by decide) (fun h961 q961 => ?_)
        obtain ⟨K961, z961_0, z961_1, z961_2, z961_3, z961_4, v961, V961, N961, L961, C961⟩ := q961
        have sz965 : n0 ≤ h961.size := (Nat.le_trans sz958 K961.1)
        have Od966 : Old Z n0 h961 := Od959.keep K961 (allS gn906 all0)
        refine s_aload C at_248 (pc' := 250) rfl rfl rfl ?_
        refine s_aload C at_250 (pc' := 252) rfl rfl rfl ?_
        refine s_iload C at_252 (pc' := 254) rfl rfl ?_
        refine s_bipush C at_254 (pc' := 256) rfl (8 : Int32) rfl ?_
        refine s_iand C at_256 (pc' := 257) rfl ?_
        refine s_foldI C (y := (0 : Int32)) (by decide) ?_
        refine s_if_eq C at_257 (pc' := 260) rfl (pcY := 265) rfl (fun c967 => ?_) (fun hc => by exfalso; revert hc; decide)
        refine s_aload C at_265 (pc' := 267) rfl rfl rfl ?_
        have Vx969 := (Vx962.keep K961 (ninS ne905 nin0))
        have Vx970 := (Vx963.keep K961 (ninS ne903 nin0))
        have Vx971 := (Vx964.keep K961 (ninS ne896 nin0))
        refine s_callS0 C at_267 (pc' := 270) rfl (w11 hw) (w12 hw) (w13 hw) (w14 hw) (by decide) [(.ref a890), (.ref a890), (.ref a834)] [] pd5 rfl rfl (c_add l Z a0 hw t p_ a890 a890 a834 z961_0 z961_1 z961_2 z961_3 z961_4 z961_0 z961_1 z961_2 z961_3 z961_4 (0 : Int64) (0 : Int64) (0 : Int64) (0 : Int64) (0 : Int64) v961 0 h961 n0 sz965 Od966 S_t S_p Vx969 Vx970 gn906 V961 V961 Vx971 N961 own_zero L961 (by decide)) rfl (W := 0) rfl (by decide) (by decide) (k' := 8) rfl (by decide) (n' := 40) rfl (by decide) (fun h968 q968 => ?_)
        obtain ⟨K968, z968_0, z968_1, z968_2, z968_3, z968_4, v968, V968, N968, L968, C968⟩ := q968
        have sz972 : n0 ≤ h968.size := (Nat.le_trans sz965 K968.1)
        have Od973 : Old Z n0 h968 := Od966.keep K968 (allS gn906 all0)
        refine s_aload C at_270 (pc' := 272) rfl rfl rfl ?_
        refine s_aload C at_272 (pc' := 274) rfl rfl rfl ?_
        refine s_iload C at_274 (pc' := 276) rfl rfl ?_
        have Vx975 := (((((((Vx910.ext E909).keep K931 (ninS ne847 nin0)).keep K938 (ninS ne860 nin0)).keep K944 (ninS ne875 nin0)).keep K952 (ninS ne892 nin0)).keep K961 (ninS ne892 nin0)).keep K968 (ninS ne892 nin0))
        refine s_callS0 C at_276 (pc' := 279) rfl (w22 hw) (w23 hw) (w13 hw) (w24 hw) (by decide) [(.ref a1), (.ref a1), (.int (3 : Int32))] [] pd3 rfl rfl (c_ms3 l Z a0 hw a1 a1 y0 y1 y2 y3 y4 y0 y1 y2 y3 y4 va h968 n0 sz972 gn4 Vx975 Vx975 na la) rfl (W := 0) rfl (by decide) (by decide) (k' := 8) rfl (by decide) (n' := 40) rfl (by decide) (fun h974 q974 => ?_)
        obtain ⟨K974, z974_0, z974_1, z974_2, z974_3, z974_4, v974, V974, N974, L974, C974⟩ := q974
        have sz976 : n0 ≤ h974.size := (Nat.le_trans sz972 K974.1)
        have Od977 : Old Z n0 h974 := Od973.keep K974 (allS gn4 all0)
        refine s_aload C at_279 (pc' := 281) rfl rfl rfl ?_
        refine s_callSI C at_281 (pc' := 284) rfl (w26 hw) (w27 hw) (w5 hw) (w28 hw) (by decide) [(.ref a1)] [] pd0 rfl rfl (c_nmz l Z a0 hw a1 z974_0 z974_1 z974_2 z974_3 z974_4 h974 n0 sz976 V974) rfl (W := 0) rfl (by decide) (by decide) (k' := 8) rfl (by decide) (n' := 40) rfl (by decide) (fun _ _ q978 => ?_)
        obtain ⟨rfl, rfl⟩ := q978
        refine s_foldI C (y := (1 : Int32)) (own_nmz N974 L974) ?_
        refine s_if_ne C at_284 (pc' := 287) rfl (pcY := 289) rfl (fun c979 => ?_) (fun hc => by exfalso; revert hc; decide)
        refine s_aload C at_289 (pc' := 291) rfl rfl rfl ?_
        refine s_callSI C at_291 (pc' := 294) rfl (w3 hw) (w4 hw) (w5 hw) (w6 hw) (by decide) [(.ref a1)] [] pd0 rfl rfl (c_blw l Z a0 hw a1 z974_0 z974_1 z974_2 z974_3 z974_4 h974 n0 sz976 V974) rfl (W := 0) rfl (by decide) (by decide) (k' := 8) rfl (by decide) (n' := 40) rfl (by decide) (fun _ _ q980 => ?_)
        obtain ⟨rfl, rfl⟩ := q980
        refine s_foldI C (y := (1 : Int32)) ((own_blw N974).1 L974) ?_
        refine s_if_eq C at_294 (pc' := 297) rfl (pcY := 313) rfl (fun hc => by exfalso; revert hc; decide) (fun c981 => ?_)
        refine s_aload C at_297 (pc' := 299) rfl rfl rfl ?_
        refine s_aload C at_299 (pc' := 301) rfl rfl rfl ?_
        have hab : (v974 - v968) % 115792089210356248762697446949407573530086143415290314195533631308867097853951 = 0 := own_hab3 C931 C938 C944 C952 C961 C968 C974
        have Vx983 := ((Vx969.keep K968 (ninS ne905 nin0)).keep K974 (ninS ne3 nin0))
        have Vx984 := ((Vx970.keep K968 (ninS ne903 nin0)).keep K974 (ninS ne2 nin0))
        have Vx985 := (V968.keep K974 (ninS (Ne.symm ne892) nin0))
        refine s_callSL C at_301 (pc' := 304) rfl (w31 hw) (w32 hw) (w13 hw) (w33 hw) (by decide) [(.ref a1), (.ref a890)] [] pd2 rfl rfl (c_eq l Z a0 hw t p_ a1 a890 z974_0 z974_1 z974_2 z974_3 z974_4 z968_0 z968_1 z968_2 z968_3 z968_4 v974 v968 h974 n0 sz976 Od977 S_t S_p Vx983 Vx984 V974 Vx985 N974 N968 L974 L968 hab) rfl (W := 0) rfl (by decide) (by decide) (k' := 10) rfl (by decide) (n' := 50) rfl (by decide) (fun _ h982 q982 => ?_)
        obtain ⟨rfl, K982⟩ := q982
        have sz986 : n0 ≤ h982.size := (Nat.le_trans sz976 K982.1)
        have Od987 : Old Z n0 h982 := Od977.keep K982 all0
        refine s_lconst C at_304 (pc' := 305) rfl (1 : Int64) rfl ?_
        refine s_lc_ne C at_305 (pc1 := 306) rfl at_306 (pc' := 309) rfl (pcY := 313) rfl (fun hc => by exfalso; revert hc; decide) (fun c988 => ?_)
        refine s_iconst C at_309 (pc' := 310) rfl (1 : Int32) rfl ?_
        refine s_goto C at_310 (pc' := 314) rfl ?_
        exact s_retN C (by simp) at_314 (by decide) (by decide) rfl
    · subst q
      refine s_istoreP C at_106 (pc' := 108) rfl #[.val (.long x0), .second, .val (.long x1), .second, .val (.long x2), .second, .val (.long x3), .second, .val (.long x4), .second, .val (.int x5), .val (.long (4503599627370495 : Int64)), .second, .val (.ref a1), .val (.ref a24), .val (.int (4 : Int32)), .unset, .unset, .unset, .unset, .unset, .unset, .unset, .unset] rfl ?_
      refine s_iload C at_108 (pc' := 110) rfl rfl ?_
      refine s_bipush C at_110 (pc' := 112) rfl (8 : Int32) rfl ?_
      refine s_iand C at_112 (pc' := 113) rfl ?_
      refine s_if_eq C at_113 (pc' := 116) rfl (pcY := 120) rfl (fun c989 => ?_) (fun c989 => ?_)
      · skip
        refine s_iconst C at_120 (pc' := 121) rfl (0 : Int32) rfl ?_
        refine s_istoreP C at_121 (pc' := 123) rfl #[.val (.long x0), .second, .val (.long x1), .second, .val (.long x2), .second, .val (.long x3), .second, .val (.long x4), .second, .val (.int x5), .val (.long (4503599627370495 : Int64)), .second, .val (.ref a1), .val (.ref a24), .val (.int (4 : Int32)), .val (.int (0 : Int32)), .unset, .unset, .unset, .unset, .unset, .unset, .unset] rfl ?_
        refine s_iconst C at_123 (pc' := 124) rfl (5 : Int32) rfl ?_
        refine s_newarr C (cap := 5) at_124 (pc' := 126) rfl (w1 hw) (by decide) (by decide) (by decide) (k' := 3) rfl (by decide) (n' := 15) rfl (by decide) [(.long (0 : Int64)), (.long (0 : Int64)), (.long (0 : Int64)), (.long (0 : Int64)), (.long (0 : Int64))] rfl (fun h990 a990 E990 g990 A990 => ?_)
        have Vx991 := (Vx49.other W50 ne25)
        have ne992 : a1 ≠ a990 := Nat.ne_of_lt (by rw [g990]; exact Vx991.lt)
        have ne993 : a24 ≠ a990 := Nat.ne_of_lt (by rw [g990]; exact A50.lt)
        have Vx994 := ((((((Vx26.ext E24).other W34 ne27).other W38 ne27).other W42 ne27).other W46 ne27).other W50 ne27)
        have ne995 : p_ ≠ a990 := Nat.ne_of_lt (by rw [g990]; exact Vx994.lt)
        have Vx996 := ((((((Vx28.ext E24).other W34 ne29).other W38 ne29).other W42 ne29).other W46 ne29).other W50 ne29)
        have ne997 : t ≠ a990 := Nat.ne_of_lt (by rw [g990]; exact Vx996.lt)
        have gn998 : n0 ≤ a990 := by rw [g990]; exact sz51
        have sz999 : n0 ≤ h990.size := (Nat.le_trans sz51 E990.1)
        have Od1000 : Old Z n0 h990 := Od52.ext E990
        refine s_astore C at_126 (pc' := 128) rfl rfl #[.val (.long x0), .second, .val (.long x1), .second, .val (.long x2), .second, .val (.long x3), .second, .val (.long x4), .second, .val (.int x5), .val (.long (4503599627370495 : Int64)), .second, .val (.ref a1), .val (.ref a24), .val (.int (4 : Int32)), .val (.int (0 : Int32)), .val (.ref a990), .unset, .unset, .unset, .unset, .unset, .unset] rfl ?_
        refine s_iconst C at_128 (pc' := 129) rfl (5 : Int32) rfl ?_
        refine s_newarr C (cap := 5) at_129 (pc' := 131) rfl (w1 hw) (by decide) (by decide) (by decide) (k' := 4) rfl (by decide) (n' := 20) rfl (by decide) [(.long (0 : Int64)), (.long (0 : Int64)), (.long (0 : Int64)), (.long (0 : Int64)), (.long (0 : Int64))] rfl (fun h1001 a1001 E1001 g1001 A1001 => ?_)
        have Vx1002 := (Vx991.ext E990)
        have ne1003 : a1 ≠ a1001 := Nat.ne_of_lt (by rw [g1001]; exact Vx1002.lt)
        have Vx1004 := (A50.ext E990)
        have ne1005 : a24 ≠ a1001 := Nat.ne_of_lt (by rw [g1001]; exact Vx1004.lt)
        have ne1006 : a990 ≠ a1001 := Nat.ne_of_lt (by rw [g1001]; exact A990.lt)
        have Vx1007 := (Vx994.ext E990)
        have ne1008 : p_ ≠ a1001 := Nat.ne_of_lt (by rw [g1001]; exact Vx1007.lt)
        have Vx1009 := (Vx996.ext E990)
        have ne1010 : t ≠ a1001 := Nat.ne_of_lt (by rw [g1001]; exact Vx1009.lt)
        have gn1011 : n0 ≤ a1001 := by rw [g1001]; exact sz999
        have sz1012 : n0 ≤ h1001.size := (Nat.le_trans sz999 E1001.1)
        have Od1013 : Old Z n0 h1001 := Od1000.ext E1001
        refine s_astore C at_131 (pc' := 133) rfl rfl #[.val (.long x0), .second, .val (.long x1), .second, .val (.long x2), .second, .val (.long x3), .second, .val (.long x4), .second, .val (.int x5), .val (.long (4503599627370495 : Int64)), .second, .val (.ref a1), .val (.ref a24), .val (.int (4 : Int32)), .val (.int (0 : Int32)), .val (.ref a990), .val (.ref a1001), .unset, .unset, .unset, .unset, .unset] rfl ?_
        refine s_iconst C at_133 (pc' := 134) rfl (5 : Int32) rfl ?_
        refine s_newarr C (cap := 5) at_134 (pc' := 136) rfl (w1 hw) (by decide) (by decide) (by decide) (k' := 5) rfl (by decide) (n' := 25) rfl (by decide) [(.long (0 : Int64)), (.long (0 : Int64)), (.long (0 : Int64)), (.long (0 : Int64)), (.long (0 : Int64))] rfl (fun h1014 a1014 E1014 g1014 A1014 => ?_)
        have Vx1015 := (Vx1002.ext E1001)
        have ne1016 : a1 ≠ a1014 := Nat.ne_of_lt (by rw [g1014]; exact Vx1015.lt)
        have ne1017 : a1001 ≠ a1014 := Nat.ne_of_lt (by rw [g1014]; exact A1001.lt)
        have Vx1018 := (Vx1004.ext E1001)
        have ne1019 : a24 ≠ a1014 := Nat.ne_of_lt (by rw [g1014]; exact Vx1018.lt)
        have Vx1020 := (A990.ext E1001)
        have ne1021 : a990 ≠ a1014 := Nat.ne_of_lt (by rw [g1014]; exact Vx1020.lt)
        have Vx1022 := (Vx1007.ext E1001)
        have ne1023 : p_ ≠ a1014 := Nat.ne_of_lt (by rw [g1014]; exact Vx1022.lt)
        have Vx1024 := (Vx1009.ext E1001)
        have ne1025 : t ≠ a1014 := Nat.ne_of_lt (by rw [g1014]; exact Vx1024.lt)
        have gn1026 : n0 ≤ a1014 := by rw [g1014]; exact sz1012
        have sz1027 : n0 ≤ h1014.size := (Nat.le_trans sz1012 E1014.1)
        have Od1028 : Old Z n0 h1014 := Od1013.ext E1014
        refine s_astore C at_136 (pc' := 138) rfl rfl #[.val (.long x0), .second, .val (.long x1), .second, .val (.long x2), .second, .val (.long x3), .second, .val (.long x4), .second, .val (.int x5), .val (.long (4503599627370495 : Int64)), .second, .val (.ref a1), .val (.ref a24), .val (.int (4 : Int32)), .val (.int (0 : Int32)), .val (.ref a990), .val (.ref a1001), .val (.ref a1014), .unset, .unset, .unset, .unset] rfl ?_
        refine s_iconst C at_138 (pc' := 139) rfl (5 : Int32) rfl ?_
        refine s_newarr C (cap := 5) at_139 (pc' := 141) rfl (w1 hw) (by decide) (by decide) (by decide) (k' := 6) rfl (by decide) (n' := 30) rfl (by decide) [(.long (0 : Int64)), (.long (0 : Int64)), (.long (0 : Int64)), (.long (0 : Int64)), (.long (0 : Int64))] rfl (fun h1029 a1029 E1029 g1029 A1029 => ?_)
        have Vx1030 := (Vx1015.ext E1014)
        have ne1031 : a1 ≠ a1029 := Nat.ne_of_lt (by rw [g1029]; exact Vx1030.lt)
        have Vx1032 := (A1001.ext E1014)
        have ne1033 : a1001 ≠ a1029 := Nat.ne_of_lt (by rw [g1029]; exact Vx1032.lt)
        have ne1034 : a1014 ≠ a1029 := Nat.ne_of_lt (by rw [g1029]; exact A1014.lt)
        have Vx1035 := (Vx1018.ext E1014)
        have ne1036 : a24 ≠ a1029 := Nat.ne_of_lt (by rw [g1029]; exact Vx1035.lt)
        have Vx1037 := (Vx1020.ext E1014)
        have ne1038 : a990 ≠ a1029 := Nat.ne_of_lt (by rw [g1029]; exact Vx1037.lt)
        have Vx1039 := (Vx1022.ext E1014)
        have ne1040 : p_ ≠ a1029 := Nat.ne_of_lt (by rw [g1029]; exact Vx1039.lt)
        have Vx1041 := (Vx1024.ext E1014)
        have ne1042 : t ≠ a1029 := Nat.ne_of_lt (by rw [g1029]; exact Vx1041.lt)
        have gn1043 : n0 ≤ a1029 := by rw [g1029]; exact sz1027
        have sz1044 : n0 ≤ h1029.size := (Nat.le_trans sz1027 E1029.1)
        have Od1045 : Old Z n0 h1029 := Od1028.ext E1029
        refine s_astore C at_141 (pc' := 143) rfl rfl #[.val (.long x0), .second, .val (.long x1), .second, .val (.long x2), .second, .val (.long x3), .second, .val (.long x4), .second, .val (.int x5), .val (.long (4503599627370495 : Int64)), .second, .val (.ref a1), .val (.ref a24), .val (.int (4 : Int32)), .val (.int (0 : Int32)), .val (.ref a990), .val (.ref a1001), .val (.ref a1014), .val (.ref a1029), .unset, .unset, .unset] rfl ?_
        refine s_iconst C at_143 (pc' := 144) rfl (5 : Int32) rfl ?_
        refine s_newarr C (cap := 5) at_144 (pc' := 146) rfl (w1 hw) (by decide) (by decide) (by decide) (k' := 7) rfl (by decide) (n' := 35) rfl (by decide) [(.long (0 : Int64)), (.long (0 : Int64)), (.long (0 : Int64)), (.long (0 : Int64)), (.long (0 : Int64))] rfl (fun h1046 a1046 E1046 g1046 A1046 => ?_)
        have Vx1047 := (Vx1030.ext E1029)
        have ne1048 : a1 ≠ a1046 := Nat.ne_of_lt (by rw [g1046]; exact Vx1047.lt)
        have Vx1049 := (Vx1032.ext E1029)
        have ne1050 : a1001 ≠ a1046 := Nat.ne_of_lt (by rw [g1046]; exact Vx1049.lt)
        have Vx1051 := (A1014.ext E1029)
        have ne1052 : a1014 ≠ a1046 := Nat.ne_of_lt (by rw [g1046]; exact Vx1051.lt)
        have ne1053 : a1029 ≠ a1046 := Nat.ne_of_lt (by rw [g1046]; exact A1029.lt)
        have Vx1054 := (Vx1035.ext E1029)
        have ne1055 : a24 ≠ a1046 := Nat.ne_of_lt (by rw [g1046]; exact Vx1054.lt)
        have Vx1056 := (Vx1037.ext E1029)
        have ne1057 : a990 ≠ a1046 := Nat.ne_of_lt (by rw [g1046]; exact Vx1056.lt)
        have Vx1058 := (Vx1039.ext E1029)
        have ne1059 : p_ ≠ a1046 := Nat.ne_of_lt (by rw [g1046]; exact Vx1058.lt)
        have Vx1060 := (Vx1041.ext E1029)
        have ne1061 : t ≠ a1046 := Nat.ne_of_lt (by rw [g1046]; exact Vx1060.lt)
        have gn1062 : n0 ≤ a1046 := by rw [g1046]; exact sz1044
        have sz1063 : n0 ≤ h1046.size := (Nat.le_trans sz1044 E1046.1)
        have Od1064 : Old Z n0 h1046 := Od1045.ext E1046
        refine s_astore C at_146 (pc' := 148) rfl rfl #[.val (.long x0), .second, .val (.long x1), .second, .val (.long x2), .second, .val (.long x3), .second, .val (.long x4), .second, .val (.int x5), .val (.long (4503599627370495 : Int64)), .second, .val (.ref a1), .val (.ref a24), .val (.int (4 : Int32)), .val (.int (0 : Int32)), .val (.ref a990), .val (.ref a1001), .val (.ref a1014), .val (.ref a1029), .val (.ref a1046), .unset, .unset] rfl ?_
        refine s_iconst C at_148 (pc' := 149) rfl (5 : Int32) rfl ?_
        refine s_newarr C (cap := 5) at_149 (pc' := 151) rfl (w1 hw) (by decide) (by decide) (by decide) (k' := 8) rfl (by decide) (n' := 40) rfl (by decide) [(.long (0 : Int64)), (.long (0 : Int64)), (.long (0 : Int64)), (.long (0 : Int64)), (.long (0 : Int64))] rfl (fun h1065 a1065 E1065 g1065 A1065 => ?_)
        have Vx1066 := (Vx1047.ext E1046)
        have ne1067 : a1 ≠ a1065 := Nat.ne_of_lt (by rw [g1065]; exact Vx1066.lt)
        have Vx1068 := (Vx1049.ext E1046)
        have ne1069 : a1001 ≠ a1065 := Nat.ne_of_lt (by rw [g1065]; exact Vx1068.lt)
        have Vx1070 := (Vx1051.ext E1046)
        have ne1071 : a1014 ≠ a1065 := Nat.ne_of_lt (by rw [g1065]; exact Vx1070.lt)
        have Vx1072 := (A1029.ext E1046)
        have ne1073 : a1029 ≠ a1065 := Nat.ne_of_lt (by rw [g1065]; exact Vx1072.lt)
        have ne1074 : a1046 ≠ a1065 := Nat.ne_of_lt (by rw [g1065]; exact A1046.lt)
        have Vx1075 := (Vx1054.ext E1046)
        have ne1076 : a24 ≠ a1065 := Nat.ne_of_lt (by rw [g1065]; exact Vx1075.lt)
        have Vx1077 := (Vx1056.ext E1046)
        have ne1078 : a990 ≠ a1065 := Nat.ne_of_lt (by rw [g1065]; exact Vx1077.lt)
        have Vx1079 := (Vx1058.ext E1046)
        have ne1080 : p_ ≠ a1065 := Nat.ne_of_lt (by rw [g1065]; exact Vx1079.lt)
        have Vx1081 := (Vx1060.ext E1046)
        have ne1082 : t ≠ a1065 := Nat.ne_of_lt (by rw [g1065]; exact Vx1081.lt)
        have gn1083 : n0 ≤ a1065 := by rw [g1065]; exact sz1063
        have sz1084 : n0 ≤ h1065.size := (Nat.le_trans sz1063 E1065.1)
        have Od1085 : Old Z n0 h1065 := Od1064.ext E1065
        refine s_astore C at_151 (pc' := 153) rfl rfl #[.val (.long x0), .second, .val (.long x1), .second, .val (.long x2), .second, .val (.long x3), .second, .val (.long x4), .second, .val (.int x5), .val (.long (4503599627370495 : Int64)), .second, .val (.ref a1), .val (.ref a24), .val (.int (4 : Int32)), .val (.int (0 : Int32)), .val (.ref a990), .val (.ref a1001), .val (.ref a1014), .val (.ref a1029), .val (.ref a1046), .val (.ref a1065), .unset] rfl ?_
        refine s_iload C at_153 (pc' := 155) rfl rfl ?_
        refine s_if_eq C at_155 (pc' := 158) rfl (pcY := 163) rfl (fun c1086 => ?_) (fun hc => by exfalso; revert hc; decide)
        refine s_aload C at_163 (pc' := 165) rfl rfl rfl ?_
        refine s_astore C at_165 (pc' := 167) rfl rfl #[.val (.long x0), .second, .val (.long x1), .second, .val (.long x2), .second, .val (.long x3), .second, .val (.long x4), .second, .val (.int x5), .val (.long (4503599627370495 : Int64)), .second, .val (.ref a1), .val (.ref a24), .val (.int (4 : Int32)), .val (.int (0 : Int32)), .val (.ref a990), .val (.ref a1001), .val (.ref a1014), .val (.ref a1029), .val (.ref a1046), .val (.ref a1065), .val (.ref a1065)] rfl ?_
        refine s_aload C at_167 (pc' := 169) rfl rfl rfl ?_
        refine s_aload C at_169 (pc' := 171) rfl rfl rfl ?_
        refine s_aload C at_171 (pc' := 173) rfl rfl rfl ?_
        have Vx1088 := (Vx1081.ext E1065)
        have Vx1089 := (Vx1079.ext E1065)
        have Vx1090 := (Vx1068.ext E1065)
        have Vx1091 := (Vx1075.ext E1065)
        refine s_callS0 C at_173 (pc' := 176) rfl (w11 hw) (w12 hw) (w13 hw) (w14 hw) (by decide) [(.ref a1001), (.ref a24), (.ref a24)] [] pd5 rfl rfl (c_add l Z a0 hw t p_ a1001 a24 a24 (0 : Int64) (0 : Int64) (0 : Int64) (0 : Int64) (0 : Int64) y0 y1 y2 y3 y4 y0 y1 y2 y3 y4 va va h1065 n0 sz1084 Od1085 S_t S_p Vx1088 Vx1089 gn1011 Vx1090 Vx1091 Vx1091 na na la la) rfl (W := 0) rfl (by decide) (by decide) (k' := 8) rfl (by decide) (n' := 40) rfl (by decide) (fun h1087 q1087 => ?_)
        obtain ⟨K1087, z1087_0, z1087_1, z1087_2, z1087_3, z1087_4, v1087, V1087, N1087, L1087, C1087⟩ := q1087
        have sz1092 : n0 ≤ h1087.size := (Nat.le_trans sz1084 K1087.1)
        have Od1093 : Old Z n0 h1087 := Od1085.keep K1087 (allS gn1011 all0)
        refine s_aload C at_176 (pc' := 178) rfl rfl rfl ?_
        refine s_aload C at_178 (pc' := 180) rfl rfl rfl ?_
        refine s_aload C at_180 (pc' := 182) rfl rfl rfl ?_
        have Vx1095 := (Vx1088.keep K1087 (ninS ne1010 nin0))
        have Vx1096 := (Vx1089.keep K1087 (ninS ne1008 nin0))
        have Vx1097 := ((Vx1070.ext E1065).keep K1087 (ninS (Ne.symm ne1017) nin0))
        refine s_callS0 C at_182 (pc' := 185) rfl (w11 hw) (w12 hw) (w13 hw) (w14 hw) (by decide) [(.ref a1014), (.ref a1001), (.ref a1001)] [] pd5 rfl rfl (c_add l Z a0 hw t p_ a1014 a1001 a1001 (0 : Int64) (0 : Int64) (0 : Int64) (0 : Int64) (0 : Int64) z1087_0 z1087_1 z1087_2 z1087_3 z1087_4 z1087_0 z1087_1 z1087_2 z1087_3 z1087_4 v1087 v1087 h1087 n0 sz1092 Od1093 S_t S_p Vx1095 Vx1096 gn1026 Vx1097 V1087 V1087 N1087 N1087 L1087 L1087) rfl (W := 0) rfl (by decide) (by decide) (k' := 8) rfl (by decide) (n' := 40) rfl (by decide) (fun h1094 q1094 => ?_)
        obtain ⟨K1094, z1094_0, z1094_1, z1094_2, z1094_3, z1094_4, v1094, V1094, N1094, L1094, C1094⟩ := q1094
        have sz1098 : n0 ≤ h1094.size := (Nat.le_trans sz1092 K1094.1)
        have Od1099 : Old Z n0 h1094 := Od1093.keep K1094 (allS gn1026 all0)
        refine s_aload C at_185 (pc' := 187) rfl rfl rfl ?_
        refine s_aload C at_187 (pc' := 189) rfl rfl rfl ?_
        refine s_aload C at_189 (pc' := 191) rfl rfl rfl ?_
        have Vx1101 := (Vx1095.keep K1094 (ninS ne1025 nin0))
        have Vx1102 := (Vx1096.keep K1094 (ninS ne1023 nin0))
        have Vx1103 := (((Vx1072.ext E1065).keep K1087 (ninS (Ne.symm ne1033) nin0)).keep K1094 (ninS (Ne.symm ne1034) nin0))
        refine s_callS0 C at_191 (pc' := 194) rfl (w11 hw) (w12 hw) (w13 hw) (w14 hw) (by decide) [(.ref a1029), (.ref a1014), (.ref a1014)] [] pd5 rfl rfl (c_add l Z a0 hw t p_ a1029 a1014 a1014 (0 : Int64) (0 : Int64) (0 : Int64) (0 : Int64) (0 : Int64) z1094_0 z1094_1 z1094_2 z1094_3 z1094_4 z1094_0 z1094_1 z1094_2 z1094_3 z1094_4 v1094 v1094 h1094 n0 sz1098 Od1099 S_t S_p Vx1101 Vx1102 gn1043 Vx1103 V1094 V1094 N1094 N1094 L1094 L1094) rfl (W := 0) rfl (by decide) (by decide) (k' := 8) rfl (by decide) (n' := 40) rfl (by decide) (fun h1100 q1100 => ?_)
        obtain ⟨K1100, z1100_0, z1100_1, z1100_2, z1100_3, z1100_4, v1100, V1100, N1100, L1100, C1100⟩ := q1100
        have sz1104 : n0 ≤ h1100.size := (Nat.le_trans sz1098 K1100.1)
        have Od1105 : Old Z n0 h1100 := Od1099.keep K1100 (allS gn1043 all0)
        refine s_aload C at_194 (pc' := 196) rfl rfl rfl ?_
        refine s_iload C at_196 (pc' := 198) rfl rfl ?_
        refine s_iconst C at_198 (pc' := 199) rfl (1 : Int32) rfl ?_
        refine s_iand C at_199 (pc' := 200) rfl ?_
        refine s_foldI C (y := (0 : Int32)) (by decide) ?_
        refine s_if_eq C at_200 (pc' := 203) rfl (pcY := 208) rfl (fun c1106 => ?_) (fun hc => by exfalso; revert hc; decide)
        refine s_aload C at_208 (pc' := 210) rfl rfl rfl ?_
        refine s_iload C at_210 (pc' := 212) rfl rfl ?_
        refine s_iconst C at_212 (pc' := 213) rfl (2 : Int32) rfl ?_
        refine s_iand C at_213 (pc' := 214) rfl ?_
        refine s_foldI C (y := (0 : Int32)) (by decide) ?_
        refine s_if_eq C at_214 (pc' := 217) rfl (pcY := 222) rfl (fun c1107 => ?_) (fun hc => by exfalso; revert hc; decide)
        refine s_aload C at_222 (pc' := 224) rfl rfl rfl ?_
        have Vx1109 := (Vx1101.keep K1100 (ninS ne1042 nin0))
        have Vx1110 := (Vx1102.keep K1100 (ninS ne1040 nin0))
        have Vx1111 := ((((A1046.ext E1065).keep K1087 (ninS (Ne.symm ne1050) nin0)).keep K1094 (ninS (Ne.symm ne1052) nin0)).keep K1100 (ninS (Ne.symm ne1053) nin0))
        have Vx1112 := ((((Vx1077.ext E1065).keep K1087 (ninS ne1006 nin0)).keep K1094 (ninS ne1021 nin0)).keep K1100 (ninS ne1038 nin0))
        refine s_callS0 C at_224 (pc' := 227) rfl (w11 hw) (w12 hw) (w13 hw) (w14 hw) (by decide) [(.ref a1046), (.ref a990), (.ref a990)] [] pd5 rfl rfl (c_add l Z a0 hw t p_ a1046 a990 a990 (0 : Int64) (0 : Int64) (0 : Int64) (0 : Int64) (0 : Int64) (0 : Int64) (0 : Int64) (0 : Int64) (0 : Int64) (0 : Int64) (0 : Int64) (0 : Int64) (0 : Int64) (0 : Int64) (0 : Int64) 0 0 h1100 n0 sz1104 Od1105 S_t S_p Vx1109 Vx1110 gn1062 Vx1111 Vx1112 Vx1112 own_zero own_zero (by decide) (by decide)) rfl (W := 0) rfl (by decide) (by decide) (k' := 8) rfl (by decide) (n' := 40) rfl (by decide) (fun h1108 q1108 => ?_)
        obtain ⟨K1108, z1108_0, z1108_1, z1108_2, z1108_3, z1108_4, v1108, V1108, N1108, L1108, C1108⟩ := q1108
        have sz1113 : n0 ≤ h1108.size := (Nat.le_trans sz1104 K1108.1)
        have Od1114 : Old Z n0 h1108 := Od1105.keep K1108 (allS gn1062 all0)
        refine s_aload C at_227 (pc' := 229) rfl rfl rfl ?_
        refine s_aload C at_229 (pc' := 231) rfl rfl rfl ?_
        refine s_iload C at_231 (pc' := 233) rfl rfl ?_
        refine s_iconst C at_233 (pc' := 234) rfl (4 : Int32) rfl ?_
        refine s_iand C at_234 (pc' := 235) rfl ?_
        refine s_foldI C (y := (4 : Int32)) (by decide) ?_
        refine s_if_eq C at_235 (pc' := 238) rfl (pcY := 243) rfl (fun hc => by exfalso; revert hc; decide) (fun c1115 => ?_)
        refine s_aload C at_238 (pc' := 240) rfl rfl rfl ?_
        refine s_goto C at_240 (pc' := 245) rfl ?_
        have Vx1117 := (Vx1109.keep K1108 (ninS ne1061 nin0))
        have Vx1118 := (Vx1110.keep K1108 (ninS ne1059 nin0))
        have Vx1119 := ((V1094.keep K1100 (ninS ne1034 nin0)).keep K1108 (ninS ne1052 nin0))
        refine s_callS0 C at_245 (pc' := 248) rfl (w11 hw) (w12 hw) (w13 hw) (w14 hw) (by decide) [(.ref a1046), (.ref a1046), (.ref a1014)] [] pd5 rfl rfl (c_add l Z a0 hw t p_ a1046 a1046 a1014 z1108_0 z1108_1 z1108_2 z1108_3 z1108_4 z1108_0 z1108_1 z1108_2 z1108_3 z1108_4 z1094_0 z1094_1 z1094_2 z1094_3 z1094_4 v1108 v1094 h1108 n0 sz1113 Od1114 S_t S_p Vx1117 Vx1118 gn1062 V1108 V1108 Vx1119 N1108 N1094 L1108 L1094) rfl (W := 0) rfl (by decide) (by decide) (k' := 8) rfl (by decide) (n' := 40) rfl (by decide) (fun h1116 q1116 => ?_)
        obtain ⟨K1116, z1116_0, z1116_1, z1116_2, z1116_3, z1116_4, v1116, V1116, N1116, L1116, C1116⟩ := q1116
        have sz1120 : n0 ≤ h1116.size := (Nat.le_trans sz1113 K1116.1)
        have Od1121 : Old Z n0 h1116 := Od1114.keep K1116 (allS gn1062 all0)
        refine s_aload C at_248 (pc' := 250) rfl rfl rfl ?_
        refine s_aload C at_250 (pc' := 252) rfl rfl rfl ?_
        refine s_iload C at_252 (pc' := 254) rfl rfl ?_
        refine s_bipush C at_254 (pc' := 256) rfl (8 : Int32) rfl ?_
        refine s_iand C at_256 (pc' := 257) rfl ?_
        refine s_foldI C (y := (0 : Int32)) (by decide) ?_
        refine s_if_eq C at_257 (pc' := 260) rfl (pcY := 265) rfl (fun c1122 => ?_) (fun hc => by exfalso; revert hc; decide)
        refine s_aload C at_265 (pc' := 267) rfl rfl rfl ?_
        have Vx1124 := (Vx1117.keep K1116 (ninS ne1061 nin0))
        have Vx1125 := (Vx1118.keep K1116 (ninS ne1059 nin0))
        have Vx1126 := ((Vx1112.keep K1108 (ninS ne1057 nin0)).keep K1116 (ninS ne1057 nin0))
        refine s_callS0 C at_267 (pc' := 270) rfl (w11 hw) (w12 hw) (w13 hw) (w14 hw) (by decide) [(.ref a1046), (.ref a1046), (.ref a990)] [] pd5 rfl rfl (c_add l Z a0 hw t p_ a1046 a1046 a990 z1116_0 z1116_1 z1116_2 z1116_3 z1116_4 z1116_0 z1116_1 z1116_2 z1116_3 z1116_4 (0 : Int64) (0 : Int64) (0 : Int64) (0 : Int64) (0 : Int64) v1116 0 h1116 n0 sz1120 Od1121 S_t S_p Vx1124 Vx1125 gn1062 V1116 V1116 Vx1126 N1116 own_zero L1116 (by decide)) rfl (W := 0) rfl (by decide) (by decide) (k' := 8) rfl (by decide) (n' := 40) rfl (by decide) (fun h1123 q1123 => ?_)
        obtain ⟨K1123, z1123_0, z1123_1, z1123_2, z1123_3, z1123_4, v1123, V1123, N1123, L1123, C1123⟩ := q1123
        have sz1127 : n0 ≤ h1123.size := (Nat.le_trans sz1120 K1123.1)
        have Od1128 : Old Z n0 h1123 := Od1121.keep K1123 (allS gn1062 all0)
        refine s_aload C at_270 (pc' := 272) rfl rfl rfl ?_
        refine s_aload C at_272 (pc' := 274) rfl rfl rfl ?_
        refine s_iload C at_274 (pc' := 276) rfl rfl ?_
        have Vx1130 := ((((((A1065.keep K1087 (ninS (Ne.symm ne1069) nin0)).keep K1094 (ninS (Ne.symm ne1071) nin0)).keep K1100 (ninS (Ne.symm ne1073) nin0)).keep K1108 (ninS (Ne.symm ne1074) nin0)).keep K1116 (ninS (Ne.symm ne1074) nin0)).keep K1123 (ninS (Ne.symm ne1074) nin0))
        have Vx1131 := (((((((Vx1066.ext E1065).keep K1087 (ninS ne1003 nin0)).keep K1094 (ninS ne1016 nin0)).keep K1100 (ninS ne1031 nin0)).keep K1108 (ninS ne1048 nin0)).keep K1116 (ninS ne1048 nin0)).keep K1123 (ninS ne1048 nin0))
        refine s_callS0 C at_276 (pc' := 279) rfl (w22 hw) (w23 hw) (w13 hw) (w24 hw) (by decide) [(.ref a1065), (.ref a1), (.int (4 : Int32))] [] pd3 rfl rfl (c_ms4 l Z a0 hw a1065 a1 (0 : Int64) (0 : Int64) (0 : Int64) (0 : Int64) (0 : Int64) y0 y1 y2 y3 y4 va h1123 n0 sz1127 gn1083 Vx1130 Vx1131 na la) rfl (W := 0) rfl (by decide) (by decide) (k' := 8) rfl (by decide) (n' := 40) rfl (by decide) (fun h1129 q1129 => ?_)
        obtain ⟨K1129, z1129_0, z1129_1, z1129_2, z1129_3, z1129_4, v1129, V1129, N1129, L1129, C1129⟩ := q1129
        have sz1132 : n0 ≤ h1129.size := (Nat.le_trans sz1127 K1129.1)
        have Od1133 : Old Z n0 h1129 := Od1128.keep K1129 (allS gn1083 all0)
        refine s_aload C at_279 (pc' := 281) rfl rfl rfl ?_
        refine s_callSI C at_281 (pc' := 284) rfl (w26 hw) (w27 hw) (w5 hw) (w28 hw) (by decide) [(.ref a1065)] [] pd0 rfl rfl (c_nmz l Z a0 hw a1065 z1129_0 z1129_1 z1129_2 z1129_3 z1129_4 h1129 n0 sz1132 V1129) rfl (W := 0) rfl (by decide) (by decide) (k' := 8) rfl (by decide) (n' := 40) rfl (by decide) (fun _ _ q1134 => ?_)
        obtain ⟨rfl, rfl⟩ := q1134
        refine s_foldI C (y := (1 : Int32)) (own_nmz N1129 L1129) ?_
        refine s_if_ne C at_284 (pc' := 287) rfl (pcY := 289) rfl (fun c1135 => ?_) (fun hc => by exfalso; revert hc; decide)
        refine s_aload C at_289 (pc' := 291) rfl rfl rfl ?_
        refine s_callSI C at_291 (pc' := 294) rfl (w3 hw) (w4 hw) (w5 hw) (w6 hw) (by decide) [(.ref a1065)] [] pd0 rfl rfl (c_blw l Z a0 hw a1065 z1129_0 z1129_1 z1129_2 z1129_3 z1129_4 h1129 n0 sz1132 V1129) rfl (W := 0) rfl (by decide) (by decide) (k' := 8) rfl (by decide) (n' := 40) rfl (by decide) (fun _ _ q1136 => ?_)
        obtain ⟨rfl, rfl⟩ := q1136
        refine s_foldI C (y := (1 : Int32)) ((own_blw N1129).1 L1129) ?_
        refine s_if_eq C at_294 (pc' := 297) rfl (pcY := 313) rfl (fun hc => by exfalso; revert hc; decide) (fun c1137 => ?_)
        refine s_aload C at_297 (pc' := 299) rfl rfl rfl ?_
        refine s_aload C at_299 (pc' := 301) rfl rfl rfl ?_
        have hab : (v1129 - v1123) % 115792089210356248762697446949407573530086143415290314195533631308867097853951 = 0 := own_hab4 C1087 C1094 C1100 C1108 C1116 C1123 C1129
        have Vx1139 := ((Vx1124.keep K1123 (ninS ne1061 nin0)).keep K1129 (ninS ne1082 nin0))
        have Vx1140 := ((Vx1125.keep K1123 (ninS ne1059 nin0)).keep K1129 (ninS ne1080 nin0))
        have Vx1141 := (V1123.keep K1129 (ninS ne1074 nin0))
        refine s_callSL C at_301 (pc' := 304) rfl (w31 hw) (w32 hw) (w13 hw) (w33 hw) (by decide) [(.ref a1065), (.ref a1046)] [] pd2 rfl rfl (c_eq l Z a0 hw t p_ a1065 a1046 z1129_0 z1129_1 z1129_2 z1129_3 z1129_4 z1123_0 z1123_1 z1123_2 z1123_3 z1123_4 v1129 v1123 h1129 n0 sz1132 Od1133 S_t S_p Vx1139 Vx1140 V1129 Vx1141 N1129 N1123 L1129 L1123 hab) rfl (W := 0) rfl (by decide) (by decide) (k' := 10) rfl (by decide) (n' := 50) rfl (by decide) (fun _ h1138 q1138 => ?_)
        obtain ⟨rfl, K1138⟩ := q1138
        have sz1142 : n0 ≤ h1138.size := (Nat.le_trans sz1132 K1138.1)
        have Od1143 : Old Z n0 h1138 := Od1133.keep K1138 all0
        refine s_lconst C at_304 (pc' := 305) rfl (1 : Int64) rfl ?_
        refine s_lc_ne C at_305 (pc1 := 306) rfl at_306 (pc' := 309) rfl (pcY := 313) rfl (fun hc => by exfalso; revert hc; decide) (fun c1144 => ?_)
        refine s_iconst C at_309 (pc' := 310) rfl (1 : Int32) rfl ?_
        refine s_goto C at_310 (pc' := 314) rfl ?_
        exact s_retN C (by simp) at_314 (by decide) (by decide) rfl
      · skip
        refine s_iconst C at_116 (pc' := 117) rfl (1 : Int32) rfl ?_
        refine s_goto C at_117 (pc' := 121) rfl ?_
        refine s_istoreP C at_121 (pc' := 123) rfl #[.val (.long x0), .second, .val (.long x1), .second, .val (.long x2), .second, .val (.long x3), .second, .val (.long x4), .second, .val (.int x5), .val (.long (4503599627370495 : Int64)), .second, .val (.ref a1), .val (.ref a24), .val (.int (4 : Int32)), .val (.int (1 : Int32)), .unset, .unset, .unset, .unset, .unset, .unset, .unset] rfl ?_
        refine s_iconst C at_123 (pc' := 124) rfl (5 : Int32) rfl ?_
        refine s_newarr C (cap := 5) at_124 (pc' := 126) rfl (w1 hw) (by decide) (by decide) (by decide) (k' := 3) rfl (by decide) (n' := 15) rfl (by decide) [(.long (0 : Int64)), (.long (0 : Int64)), (.long (0 : Int64)), (.long (0 : Int64)), (.long (0 : Int64))] rfl (fun h1145 a1145 E1145 g1145 A1145 => ?_)
        have Vx1146 := (Vx49.other W50 ne25)
        have ne1147 : a1 ≠ a1145 := Nat.ne_of_lt (by rw [g1145]; exact Vx1146.lt)
        have ne1148 : a24 ≠ a1145 := Nat.ne_of_lt (by rw [g1145]; exact A50.lt)
        have Vx1149 := ((((((Vx26.ext E24).other W34 ne27).other W38 ne27).other W42 ne27).other W46 ne27).other W50 ne27)
        have ne1150 : p_ ≠ a1145 := Nat.ne_of_lt (by rw [g1145]; exact Vx1149.lt)
        have Vx1151 := ((((((Vx28.ext E24).other W34 ne29).other W38 ne29).other W42 ne29).other W46 ne29).other W50 ne29)
        have ne1152 : t ≠ a1145 := Nat.ne_of_lt (by rw [g1145]; exact Vx1151.lt)
        have gn1153 : n0 ≤ a1145 := by rw [g1145]; exact sz51
        have sz1154 : n0 ≤ h1145.size := (Nat.le_trans sz51 E1145.1)
        have Od1155 : Old Z n0 h1145 := Od52.ext E1145
        refine s_astore C at_126 (pc' := 128) rfl rfl #[.val (.long x0), .second, .val (.long x1), .second, .val (.long x2), .second, .val (.long x3), .second, .val (.long x4), .second, .val (.int x5), .val (.long (4503599627370495 : Int64)), .second, .val (.ref a1), .val (.ref a24), .val (.int (4 : Int32)), .val (.int (1 : Int32)), .val (.ref a1145), .unset, .unset, .unset, .unset, .unset, .unset] rfl ?_
        refine s_iconst C at_128 (pc' := 129) rfl (5 : Int32) rfl ?_
        refine s_newarr C (cap := 5) at_129 (pc' := 131) rfl (w1 hw) (by decide) (by decide) (by decide) (k' := 4) rfl (by decide) (n' := 20) rfl (by decide) [(.long (0 : Int64)), (.long (0 : Int64)), (.long (0 : Int64)), (.long (0 : Int64)), (.long (0 : Int64))] rfl (fun h1156 a1156 E1156 g1156 A1156 => ?_)
        have Vx1157 := (Vx1146.ext E1145)
        have ne1158 : a1 ≠ a1156 := Nat.ne_of_lt (by rw [g1156]; exact Vx1157.lt)
        have ne1159 : a1145 ≠ a1156 := Nat.ne_of_lt (by rw [g1156]; exact A1145.lt)
        have Vx1160 := (A50.ext E1145)
        have ne1161 : a24 ≠ a1156 := Nat.ne_of_lt (by rw [g1156]; exact Vx1160.lt)
        have Vx1162 := (Vx1149.ext E1145)
        have ne1163 : p_ ≠ a1156 := Nat.ne_of_lt (by rw [g1156]; exact Vx1162.lt)
        have Vx1164 := (Vx1151.ext E1145)
        have ne1165 : t ≠ a1156 := Nat.ne_of_lt (by rw [g1156]; exact Vx1164.lt)
        have gn1166 : n0 ≤ a1156 := by rw [g1156]; exact sz1154
        have sz1167 : n0 ≤ h1156.size := (Nat.le_trans sz1154 E1156.1)
        have Od1168 : Old Z n0 h1156 := Od1155.ext E1156
        refine s_astore C at_131 (pc' := 133) rfl rfl #[.val (.long x0), .second, .val (.long x1), .second, .val (.long x2), .second, .val (.long x3), .second, .val (.long x4), .second, .val (.int x5), .val (.long (4503599627370495 : Int64)), .second, .val (.ref a1), .val (.ref a24), .val (.int (4 : Int32)), .val (.int (1 : Int32)), .val (.ref a1145), .val (.ref a1156), .unset, .unset, .unset, .unset, .unset] rfl ?_
        refine s_iconst C at_133 (pc' := 134) rfl (5 : Int32) rfl ?_
        refine s_newarr C (cap := 5) at_134 (pc' := 136) rfl (w1 hw) (by decide) (by decide) (by decide) (k' := 5) rfl (by decide) (n' := 25) rfl (by decide) [(.long (0 : Int64)), (.long (0 : Int64)), (.long (0 : Int64)), (.long (0 : Int64)), (.long (0 : Int64))] rfl (fun h1169 a1169 E1169 g1169 A1169 => ?_)
        have Vx1170 := (Vx1157.ext E1156)
        have ne1171 : a1 ≠ a1169 := Nat.ne_of_lt (by rw [g1169]; exact Vx1170.lt)
        have Vx1172 := (A1145.ext E1156)
        have ne1173 : a1145 ≠ a1169 := Nat.ne_of_lt (by rw [g1169]; exact Vx1172.lt)
        have ne1174 : a1156 ≠ a1169 := Nat.ne_of_lt (by rw [g1169]; exact A1156.lt)
        have Vx1175 := (Vx1160.ext E1156)
        have ne1176 : a24 ≠ a1169 := Nat.ne_of_lt (by rw [g1169]; exact Vx1175.lt)
        have Vx1177 := (Vx1162.ext E1156)
        have ne1178 : p_ ≠ a1169 := Nat.ne_of_lt (by rw [g1169]; exact Vx1177.lt)
        have Vx1179 := (Vx1164.ext E1156)
        have ne1180 : t ≠ a1169 := Nat.ne_of_lt (by rw [g1169]; exact Vx1179.lt)
        have gn1181 : n0 ≤ a1169 := by rw [g1169]; exact sz1167
        have sz1182 : n0 ≤ h1169.size := (Nat.le_trans sz1167 E1169.1)
        have Od1183 : Old Z n0 h1169 := Od1168.ext E1169
        refine s_astore C at_136 (pc' := 138) rfl rfl #[.val (.long x0), .second, .val (.long x1), .second, .val (.long x2), .second, .val (.long x3), .second, .val (.long x4), .second, .val (.int x5), .val (.long (4503599627370495 : Int64)), .second, .val (.ref a1), .val (.ref a24), .val (.int (4 : Int32)), .val (.int (1 : Int32)), .val (.ref a1145), .val (.ref a1156), .val (.ref a1169), .unset, .unset, .unset, .unset] rfl ?_
        refine s_iconst C at_138 (pc' := 139) rfl (5 : Int32) rfl ?_
        refine s_newarr C (cap := 5) at_139 (pc' := 141) rfl (w1 hw) (by decide) (by decide) (by decide) (k' := 6) rfl (by decide) (n' := 30) rfl (by decide) [(.long (0 : Int64)), (.long (0 : Int64)), (.long (0 : Int64)), (.long (0 : Int64)), (.long (0 : Int64))] rfl (fun h1184 a1184 E1184 g1184 A1184 => ?_)
        have Vx1185 := (Vx1170.ext E1169)
        have ne1186 : a1 ≠ a1184 := Nat.ne_of_lt (by rw [g1184]; exact Vx1185.lt)
        have Vx1187 := (Vx1172.ext E1169)
        have ne1188 : a1145 ≠ a1184 := Nat.ne_of_lt (by rw [g1184]; exact Vx1187.lt)
        have Vx1189 := (A1156.ext E1169)
        have ne1190 : a1156 ≠ a1184 := Nat.ne_of_lt (by rw [g1184]; exact Vx1189.lt)
        have ne1191 : a1169 ≠ a1184 := Nat.ne_of_lt (by rw [g1184]; exact A1169.lt)
        have Vx1192 := (Vx1175.ext E1169)
        have ne1193 : a24 ≠ a1184 := Nat.ne_of_lt (by rw [g1184]; exact Vx1192.lt)
        have Vx1194 := (Vx1177.ext E1169)
        have ne1195 : p_ ≠ a1184 := Nat.ne_of_lt (by rw [g1184]; exact Vx1194.lt)
        have Vx1196 := (Vx1179.ext E1169)
        have ne1197 : t ≠ a1184 := Nat.ne_of_lt (by rw [g1184]; exact Vx1196.lt)
        have gn1198 : n0 ≤ a1184 := by rw [g1184]; exact sz1182
        have sz1199 : n0 ≤ h1184.size := (Nat.le_trans sz1182 E1184.1)
        have Od1200 : Old Z n0 h1184 := Od1183.ext E1184
        refine s_astore C at_141 (pc' := 143) rfl rfl #[.val (.long x0), .second, .val (.long x1), .second, .val (.long x2), .second, .val (.long x3), .second, .val (.long x4), .second, .val (.int x5), .val (.long (4503599627370495 : Int64)), .second, .val (.ref a1), .val (.ref a24), .val (.int (4 : Int32)), .val (.int (1 : Int32)), .val (.ref a1145), .val (.ref a1156), .val (.ref a1169), .val (.ref a1184), .unset, .unset, .unset] rfl ?_
        refine s_iconst C at_143 (pc' := 144) rfl (5 : Int32) rfl ?_
        refine s_newarr C (cap := 5) at_144 (pc' := 146) rfl (w1 hw) (by decide) (by decide) (by decide) (k' := 7) rfl (by decide) (n' := 35) rfl (by decide) [(.long (0 : Int64)), (.long (0 : Int64)), (.long (0 : Int64)), (.long (0 : Int64)), (.long (0 : Int64))] rfl (fun h1201 a1201 E1201 g1201 A1201 => ?_)
        have Vx1202 := (Vx1185.ext E1184)
        have ne1203 : a1 ≠ a1201 := Nat.ne_of_lt (by rw [g1201]; exact Vx1202.lt)
        have Vx1204 := (Vx1187.ext E1184)
        have ne1205 : a1145 ≠ a1201 := Nat.ne_of_lt (by rw [g1201]; exact Vx1204.lt)
        have Vx1206 := (Vx1189.ext E1184)
        have ne1207 : a1156 ≠ a1201 := Nat.ne_of_lt (by rw [g1201]; exact Vx1206.lt)
        have Vx1208 := (A1169.ext E1184)
        have ne1209 : a1169 ≠ a1201 := Nat.ne_of_lt (by rw [g1201]; exact Vx1208.lt)
        have ne1210 : a1184 ≠ a1201 := Nat.ne_of_lt (by rw [g1201]; exact A1184.lt)
        have Vx1211 := (Vx1192.ext E1184)
        have ne1212 : a24 ≠ a1201 := Nat.ne_of_lt (by rw [g1201]; exact Vx1211.lt)
        have Vx1213 := (Vx1194.ext E1184)
        have ne1214 : p_ ≠ a1201 := Nat.ne_of_lt (by rw [g1201]; exact Vx1213.lt)
        have Vx1215 := (Vx1196.ext E1184)
        have ne1216 : t ≠ a1201 := Nat.ne_of_lt (by rw [g1201]; exact Vx1215.lt)
        have gn1217 : n0 ≤ a1201 := by rw [g1201]; exact sz1199
        have sz1218 : n0 ≤ h1201.size := (Nat.le_trans sz1199 E1201.1)
        have Od1219 : Old Z n0 h1201 := Od1200.ext E1201
        refine s_astore C at_146 (pc' := 148) rfl rfl #[.val (.long x0), .second, .val (.long x1), .second, .val (.long x2), .second, .val (.long x3), .second, .val (.long x4), .second, .val (.int x5), .val (.long (4503599627370495 : Int64)), .second, .val (.ref a1), .val (.ref a24), .val (.int (4 : Int32)), .val (.int (1 : Int32)), .val (.ref a1145), .val (.ref a1156), .val (.ref a1169), .val (.ref a1184), .val (.ref a1201), .unset, .unset] rfl ?_
        refine s_iconst C at_148 (pc' := 149) rfl (5 : Int32) rfl ?_
        refine s_newarr C (cap := 5) at_149 (pc' := 151) rfl (w1 hw) (by decide) (by decide) (by decide) (k' := 8) rfl (by decide) (n' := 40) rfl (by decide) [(.long (0 : Int64)), (.long (0 : Int64)), (.long (0 : Int64)), (.long (0 : Int64)), (.long (0 : Int64))] rfl (fun h1220 a1220 E1220 g1220 A1220 => ?_)
        have Vx1221 := (Vx1202.ext E1201)
        have ne1222 : a1 ≠ a1220 := Nat.ne_of_lt (by rw [g1220]; exact Vx1221.lt)
        have Vx1223 := (Vx1204.ext E1201)
        have ne1224 : a1145 ≠ a1220 := Nat.ne_of_lt (by rw [g1220]; exact Vx1223.lt)
        have Vx1225 := (Vx1206.ext E1201)
        have ne1226 : a1156 ≠ a1220 := Nat.ne_of_lt (by rw [g1220]; exact Vx1225.lt)
        have Vx1227 := (Vx1208.ext E1201)
        have ne1228 : a1169 ≠ a1220 := Nat.ne_of_lt (by rw [g1220]; exact Vx1227.lt)
        have Vx1229 := (A1184.ext E1201)
        have ne1230 : a1184 ≠ a1220 := Nat.ne_of_lt (by rw [g1220]; exact Vx1229.lt)
        have ne1231 : a1201 ≠ a1220 := Nat.ne_of_lt (by rw [g1220]; exact A1201.lt)
        have Vx1232 := (Vx1211.ext E1201)
        have ne1233 : a24 ≠ a1220 := Nat.ne_of_lt (by rw [g1220]; exact Vx1232.lt)
        have Vx1234 := (Vx1213.ext E1201)
        have ne1235 : p_ ≠ a1220 := Nat.ne_of_lt (by rw [g1220]; exact Vx1234.lt)
        have Vx1236 := (Vx1215.ext E1201)
        have ne1237 : t ≠ a1220 := Nat.ne_of_lt (by rw [g1220]; exact Vx1236.lt)
        have gn1238 : n0 ≤ a1220 := by rw [g1220]; exact sz1218
        have sz1239 : n0 ≤ h1220.size := (Nat.le_trans sz1218 E1220.1)
        have Od1240 : Old Z n0 h1220 := Od1219.ext E1220
        refine s_astore C at_151 (pc' := 153) rfl rfl #[.val (.long x0), .second, .val (.long x1), .second, .val (.long x2), .second, .val (.long x3), .second, .val (.long x4), .second, .val (.int x5), .val (.long (4503599627370495 : Int64)), .second, .val (.ref a1), .val (.ref a24), .val (.int (4 : Int32)), .val (.int (1 : Int32)), .val (.ref a1145), .val (.ref a1156), .val (.ref a1169), .val (.ref a1184), .val (.ref a1201), .val (.ref a1220), .unset] rfl ?_
        refine s_iload C at_153 (pc' := 155) rfl rfl ?_
        refine s_if_eq C at_155 (pc' := 158) rfl (pcY := 163) rfl (fun hc => by exfalso; revert hc; decide) (fun c1241 => ?_)
        refine s_aload C at_158 (pc' := 160) rfl rfl rfl ?_
        refine s_goto C at_160 (pc' := 165) rfl ?_
        refine s_astore C at_165 (pc' := 167) rfl rfl #[.val (.long x0), .second, .val (.long x1), .second, .val (.long x2), .second, .val (.long x3), .second, .val (.long x4), .second, .val (.int x5), .val (.long (4503599627370495 : Int64)), .second, .val (.ref a1), .val (.ref a24), .val (.int (4 : Int32)), .val (.int (1 : Int32)), .val (.ref a1145), .val (.ref a1156), .val (.ref a1169), .val (.ref a1184), .val (.ref a1201), .val (.ref a1220), .val (.ref a1)] rfl ?_
        refine s_aload C at_167 (pc' := 169) rfl rfl rfl ?_
        refine s_aload C at_169 (pc' := 171) rfl rfl rfl ?_
        refine s_aload C at_171 (pc' := 173) rfl rfl rfl ?_
        have Vx1243 := (Vx1236.ext E1220)
        have Vx1244 := (Vx1234.ext E1220)
        have Vx1245 := (Vx1225.ext E1220)
        have Vx1246 := (Vx1232.ext E1220)
        refine s_callS0 C at_173 (pc' := 176) rfl (w11 hw) (w12 hw) (w13 hw) (w14 hw) (by decide) [(.ref a1156), (.ref a24), (.ref a24)] [] pd5 rfl rfl (c_add l Z a0 hw t p_ a1156 a24 a24 (0 : Int64) (0 : Int64) (0 : Int64) (0 : Int64) (0 : Int64) y0 y1 y2 y3 y4 y0 y1 y2 y3 y4 va va h1220 n0 sz1239 Od1240 S_t S_p Vx1243 Vx1244 gn1166 Vx1245 Vx1246 Vx1246 na na la la) rfl (W := 0) rfl (by decide) (by decide) (k' := 8) rfl (by decide) (n' := 40) rfl (by decide) (fun h1242 q1242 => ?_)
        obtain ⟨K1242, z1242_0, z1242_1, z1242_2, z1242_3, z1242_4, v1242, V1242, N1242, L1242, C1242⟩ := q1242
        have sz1247 : n0 ≤ h1242.size := (Nat.le_trans sz1239 K1242.1)
        have Od1248 : Old Z n0 h1242 := Od1240.keep K1242 (allS gn1166 all0)
        refine s_aload C at_176 (pc' := 178) rfl rfl rfl ?_
        refine s_aload C at_178 (pc' := 180) rfl rfl rfl ?_
        refine s_aload C at_180 (pc' := 182) rfl rfl rfl ?_
        have Vx1250 := (Vx1243.keep K1242 (ninS ne1165 nin0))
        have Vx1251 := (Vx1244.keep K1242 (ninS ne1163 nin0))
        have Vx1252 := ((Vx1227.ext E1220).keep K1242 (ninS (Ne.symm ne1174) nin0))
        refine s_callS0 C at_182 (pc' := 185) rfl (w11 hw) (w12 hw) (w13 hw) (w14 hw) (by decide) [(.ref a1169), (.ref a1156), (.ref a1156)] [] pd5 rfl rfl (c_add l Z a0 hw t p_ a1169 a1156 a1156 (0 : Int64) (0 : Int64) (0 : Int64) (0 : Int64) (0 : Int64) z1242_0 z1242_1 z1242_2 z1242_3 z1242_4 z1242_0 z1242_1 z1242_2 z1242_3 z1242_4 v1242 v1242 h1242 n0 sz1247 Od1248 S_t S_p Vx1250 Vx1251 gn1181 Vx1252 V1242 V1242 N1242 N1242 L1242 L1242) rfl (W := 0) rfl (by decide) (by decide) (k' := 8) rfl (by decide) (n' := 40) rfl (by decide) (fun h1249 q1249 => ?_)
        obtain ⟨K1249, z1249_0, z1249_1, z1249_2, z1249_3, z1249_4, v1249, V1249, N1249, L1249, C1249⟩ := q1249
        have sz1253 : n0 ≤ h1249.size := (Nat.le_trans sz1247 K1249.1)
        have Od1254 : Old Z n0 h1249 := Od1248.keep K1249 (allS gn1181 all0)
        refine s_aload C at_185 (pc' := 187) rfl rfl rfl ?_
        refine s_aload C at_187 (pc' := 189) rfl rfl rfl ?_
        refine s_aload C at_189 (pc' := 191) rfl rfl rfl ?_
        have Vx1256 := (Vx1250.keep K1249 (ninS ne1180 nin0))
        have Vx1257 := (Vx1251.keep K1249 (ninS ne1178 nin0))
        have Vx1258 := (((Vx1229.ext E1220).keep K1242 (ninS (Ne.symm ne1190) nin0)).keep K1249 (ninS (Ne.symm ne1191) nin0))
        refine s_callS0 C at_191 (pc' := 194) rfl (w11 hw) (w12 hw) (w13 hw) (w14 hw) (by decide) [(.ref a1184), (.ref a1169), (.ref a1169)] [] pd5 rfl rfl (c_add l Z a0 hw t p_ a1184 a1169 a1169 (0 : Int64) (0 : Int64) (0 : Int64) (0 : Int64) (0 : Int64) z1249_0 z1249_1 z1249_2 z1249_3 z1249_4 z1249_0 z1249_1 z1249_2 z1249_3 z1249_4 v1249 v1249 h1249 n0 sz1253 Od1254 S_t S_p Vx1256 Vx1257 gn1198 Vx1258 V1249 V1249 N1249 N1249 L1249 L1249) rfl (W := 0) rfl (by decide) (by decide) (k' := 8) rfl (by decide) (n' := 40) rfl (by decide) (fun h1255 q1255 => ?_)
        obtain ⟨K1255, z1255_0, z1255_1, z1255_2, z1255_3, z1255_4, v1255, V1255, N1255, L1255, C1255⟩ := q1255
        have sz1259 : n0 ≤ h1255.size := (Nat.le_trans sz1253 K1255.1)
        have Od1260 : Old Z n0 h1255 := Od1254.keep K1255 (allS gn1198 all0)
        refine s_aload C at_194 (pc' := 196) rfl rfl rfl ?_
        refine s_iload C at_196 (pc' := 198) rfl rfl ?_
        refine s_iconst C at_198 (pc' := 199) rfl (1 : Int32) rfl ?_
        refine s_iand C at_199 (pc' := 200) rfl ?_
        refine s_foldI C (y := (0 : Int32)) (by decide) ?_
        refine s_if_eq C at_200 (pc' := 203) rfl (pcY := 208) rfl (fun c1261 => ?_) (fun hc => by exfalso; revert hc; decide)
        refine s_aload C at_208 (pc' := 210) rfl rfl rfl ?_
        refine s_iload C at_210 (pc' := 212) rfl rfl ?_
        refine s_iconst C at_212 (pc' := 213) rfl (2 : Int32) rfl ?_
        refine s_iand C at_213 (pc' := 214) rfl ?_
        refine s_foldI C (y := (0 : Int32)) (by decide) ?_
        refine s_if_eq C at_214 (pc' := 217) rfl (pcY := 222) rfl (fun c1262 => ?_) (fun hc => by exfalso; revert hc; decide)
        refine s_aload C at_222 (pc' := 224) rfl rfl rfl ?_
        have Vx1264 := (Vx1256.keep K1255 (ninS ne1197 nin0))
        have Vx1265 := (Vx1257.keep K1255 (ninS ne1195 nin0))
        have Vx1266 := ((((A1201.ext E1220).keep K1242 (ninS (Ne.symm ne1207) nin0)).keep K1249 (ninS (Ne.symm ne1209) nin0)).keep K1255 (ninS (Ne.symm ne1210) nin0))
        have Vx1267 := ((((Vx1223.ext E1220).keep K1242 (ninS ne1159 nin0)).keep K1249 (ninS ne1173 nin0)).keep K1255 (ninS ne1188 nin0))
        refine s_callS0 C at_224 (pc' := 227) rfl (w11 hw) (w12 hw) (w13 hw) (w14 hw) (by decide) [(.ref a1201), (.ref a1145), (.ref a1145)] [] pd5 rfl rfl (c_add l Z a0 hw t p_ a1201 a1145 a1145 (0 : Int64) (0 : Int64) (0 : Int64) (0 : Int64) (0 : Int64) (0 : Int64) (0 : Int64) (0 : Int64) (0 : Int64) (0 : Int64) (0 : Int64) (0 : Int64) (0 : Int64) (0 : Int64) (0 : Int64) 0 0 h1255 n0 sz1259 Od1260 S_t S_p Vx1264 Vx1265 gn1217 Vx1266 Vx1267 Vx1267 own_zero own_zero (by decide) (by decide)) rfl (W := 0) rfl (by decide) (by decide) (k' := 8) rfl (by decide) (n' := 40) rfl (by decide) (fun h1263 q1263 => ?_)
        obtain ⟨K1263, z1263_0, z1263_1, z1263_2, z1263_3, z1263_4, v1263, V1263, N1263, L1263, C1263⟩ := q1263
        have sz1268 : n0 ≤ h1263.size := (Nat.le_trans sz1259 K1263.1)
        have Od1269 : Old Z n0 h1263 := Od1260.keep K1263 (allS gn1217 all0)
        refine s_aload C at_227 (pc' := 229) rfl rfl rfl ?_
        refine s_aload C at_229 (pc' := 231) rfl rfl rfl ?_
        refine s_iload C at_231 (pc' := 233) rfl rfl ?_
        refine s_iconst C at_233 (pc' := 234) rfl (4 : Int32) rfl ?_
        refine s_iand C at_234 (pc' := 235) rfl ?_
        refine s_foldI C (y := (4 : Int32)) (by decide) ?_
        refine s_if_eq C at_235 (pc' := 238) rfl (pcY := 243) rfl (fun hc => by exfalso; revert hc; decide) (fun c1270 => ?_)
        refine s_aload C at_238 (pc' := 240) rfl rfl rfl ?_
        refine s_goto C at_240 (pc' := 245) rfl ?_
        have Vx1272 := (Vx1264.keep K1263 (ninS ne1216 nin0))
        have Vx1273 := (Vx1265.keep K1263 (ninS ne1214 nin0))
        have Vx1274 := ((V1249.keep K1255 (ninS ne1191 nin0)).keep K1263 (ninS ne1209 nin0))
        refine s_callS0 C at_245 (pc' := 248) rfl (w11 hw) (w12 hw) (w13 hw) (w14 hw) (by decide) [(.ref a1201), (.ref a1201), (.ref a1169)] [] pd5 rfl rfl (c_add l Z a0 hw t p_ a1201 a1201 a1169 z1263_0 z1263_1 z1263_2 z1263_3 z1263_4 z1263_0 z1263_1 z1263_2 z1263_3 z1263_4 z1249_0 z1249_1 z1249_2 z1249_3 z1249_4 v1263 v1249 h1263 n0 sz1268 Od1269 S_t S_p Vx1272 Vx1273 gn1217 V1263 V1263 Vx1274 N1263 N1249 L1263 L1249) rfl (W := 0) rfl (by decide) (by decide) (k' := 8) rfl (by decide) (n' := 40) rfl (by decide) (fun h1271 q1271 => ?_)
        obtain ⟨K1271, z1271_0, z1271_1, z1271_2, z1271_3, z1271_4, v1271, V1271, N1271, L1271, C1271⟩ := q1271
        have sz1275 : n0 ≤ h1271.size := (Nat.le_trans sz1268 K1271.1)
        have Od1276 : Old Z n0 h1271 := Od1269.keep K1271 (allS gn1217 all0)
        refine s_aload C at_248 (pc' := 250) rfl rfl rfl ?_
        refine s_aload C at_250 (pc' := 252) rfl rfl rfl ?_
        refine s_iload C at_252 (pc' := 254) rfl rfl ?_
        refine s_bipush C at_254 (pc' := 256) rfl (8 : Int32) rfl ?_
        refine s_iand C at_256 (pc' := 257) rfl ?_
        refine s_foldI C (y := (0 : Int32)) (by decide) ?_
        refine s_if_eq C at_257 (pc' := 260) rfl (pcY := 265) rfl (fun c1277 => ?_) (fun hc => by exfalso; revert hc; decide)
        refine s_aload C at_265 (pc' := 267) rfl rfl rfl ?_
        have Vx1279 := (Vx1272.keep K1271 (ninS ne1216 nin0))
        have Vx1280 := (Vx1273.keep K1271 (ninS ne1214 nin0))
        have Vx1281 := ((Vx1267.keep K1263 (ninS ne1205 nin0)).keep K1271 (ninS ne1205 nin0))
        refine s_callS0 C at_267 (pc' := 270) rfl (w11 hw) (w12 hw) (w13 hw) (w14 hw) (by decide) [(.ref a1201), (.ref a1201), (.ref a1145)] [] pd5 rfl rfl (c_add l Z a0 hw t p_ a1201 a1201 a1145 z1271_0 z1271_1 z1271_2 z1271_3 z1271_4 z1271_0 z1271_1 z1271_2 z1271_3 z1271_4 (0 : Int64) (0 : Int64) (0 : Int64) (0 : Int64) (0 : Int64) v1271 0 h1271 n0 sz1275 Od1276 S_t S_p Vx1279 Vx1280 gn1217 V1271 V1271 Vx1281 N1271 own_zero L1271 (by decide)) rfl (W := 0) rfl (by decide) (by decide) (k' := 8) rfl (by decide) (n' := 40) rfl (by decide) (fun h1278 q1278 => ?_)
        obtain ⟨K1278, z1278_0, z1278_1, z1278_2, z1278_3, z1278_4, v1278, V1278, N1278, L1278, C1278⟩ := q1278
        have sz1282 : n0 ≤ h1278.size := (Nat.le_trans sz1275 K1278.1)
        have Od1283 : Old Z n0 h1278 := Od1276.keep K1278 (allS gn1217 all0)
        refine s_aload C at_270 (pc' := 272) rfl rfl rfl ?_
        refine s_aload C at_272 (pc' := 274) rfl rfl rfl ?_
        refine s_iload C at_274 (pc' := 276) rfl rfl ?_
        have Vx1285 := (((((((Vx1221.ext E1220).keep K1242 (ninS ne1158 nin0)).keep K1249 (ninS ne1171 nin0)).keep K1255 (ninS ne1186 nin0)).keep K1263 (ninS ne1203 nin0)).keep K1271 (ninS ne1203 nin0)).keep K1278 (ninS ne1203 nin0))
        refine s_callS0 C at_276 (pc' := 279) rfl (w22 hw) (w23 hw) (w13 hw) (w24 hw) (by decide) [(.ref a1), (.ref a1), (.int (4 : Int32))] [] pd3 rfl rfl (c_ms4 l Z a0 hw a1 a1 y0 y1 y2 y3 y4 y0 y1 y2 y3 y4 va h1278 n0 sz1282 gn4 Vx1285 Vx1285 na la) rfl (W := 0) rfl (by decide) (by decide) (k' := 8) rfl (by decide) (n' := 40) rfl (by decide) (fun h1284 q1284 => ?_)
        obtain ⟨K1284, z1284_0, z1284_1, z1284_2, z1284_3, z1284_4, v1284, V1284, N1284, L1284, C1284⟩ := q1284
        have sz1286 : n0 ≤ h1284.size := (Nat.le_trans sz1282 K1284.1)
        have Od1287 : Old Z n0 h1284 := Od1283.keep K1284 (allS gn4 all0)
        refine s_aload C at_279 (pc' := 281) rfl rfl rfl ?_
        refine s_callSI C at_281 (pc' := 284) rfl (w26 hw) (w27 hw) (w5 hw) (w28 hw) (by decide) [(.ref a1)] [] pd0 rfl rfl (c_nmz l Z a0 hw a1 z1284_0 z1284_1 z1284_2 z1284_3 z1284_4 h1284 n0 sz1286 V1284) rfl (W := 0) rfl (by decide) (by decide) (k' := 8) rfl (by decide) (n' := 40) rfl (by decide) (fun _ _ q1288 => ?_)
        obtain ⟨rfl, rfl⟩ := q1288
        refine s_foldI C (y := (1 : Int32)) (own_nmz N1284 L1284) ?_
        refine s_if_ne C at_284 (pc' := 287) rfl (pcY := 289) rfl (fun c1289 => ?_) (fun hc => by exfalso; revert hc; decide)
        refine s_aload C at_289 (pc' := 291) rfl rfl rfl ?_
        refine s_callSI C at_291 (pc' := 294) rfl (w3 hw) (w4 hw) (w5 hw) (w6 hw) (by decide) [(.ref a1)] [] pd0 rfl rfl (c_blw l Z a0 hw a1 z1284_0 z1284_1 z1284_2 z1284_3 z1284_4 h1284 n0 sz1286 V1284) rfl (W := 0) rfl (by decide) (by decide) (k' := 8) rfl (by decide) (n' := 40) rfl (by decide) (fun _ _ q1290 => ?_)
        obtain ⟨rfl, rfl⟩ := q1290
        refine s_foldI C (y := (1 : Int32)) ((own_blw N1284).1 L1284) ?_
        refine s_if_eq C at_294 (pc' := 297) rfl (pcY := 313) rfl (fun hc => by exfalso; revert hc; decide) (fun c1291 => ?_)
        refine s_aload C at_297 (pc' := 299) rfl rfl rfl ?_
        refine s_aload C at_299 (pc' := 301) rfl rfl rfl ?_
        have hab : (v1284 - v1278) % 115792089210356248762697446949407573530086143415290314195533631308867097853951 = 0 := own_hab4 C1242 C1249 C1255 C1263 C1271 C1278 C1284
        have Vx1293 := ((Vx1279.keep K1278 (ninS ne1216 nin0)).keep K1284 (ninS ne3 nin0))
        have Vx1294 := ((Vx1280.keep K1278 (ninS ne1214 nin0)).keep K1284 (ninS ne2 nin0))
        have Vx1295 := (V1278.keep K1284 (ninS (Ne.symm ne1203) nin0))
        refine s_callSL C at_301 (pc' := 304) rfl (w31 hw) (w32 hw) (w13 hw) (w33 hw) (by decide) [(.ref a1), (.ref a1201)] [] pd2 rfl rfl (c_eq l Z a0 hw t p_ a1 a1201 z1284_0 z1284_1 z1284_2 z1284_3 z1284_4 z1278_0 z1278_1 z1278_2 z1278_3 z1278_4 v1284 v1278 h1284 n0 sz1286 Od1287 S_t S_p Vx1293 Vx1294 V1284 Vx1295 N1284 N1278 L1284 L1278 hab) rfl (W := 0) rfl (by decide) (by decide) (k' := 10) rfl (by decide) (n' := 50) rfl (by decide) (fun _ h1292 q1292 => ?_)
        obtain ⟨rfl, K1292⟩ := q1292
        have sz1296 : n0 ≤ h1292.size := (Nat.le_trans sz1286 K1292.1)
        have Od1297 : Old Z n0 h1292 := Od1287.keep K1292 all0
        refine s_lconst C at_304 (pc' := 305) rfl (1 : Int64) rfl ?_
        refine s_lc_ne C at_305 (pc1 := 306) rfl at_306 (pc' := 309) rfl (pcY := 313) rfl (fun hc => by exfalso; revert hc; decide) (fun c1298 => ?_)
        refine s_iconst C at_309 (pc' := 310) rfl (1 : Int32) rfl ?_
        refine s_goto C at_310 (pc' := 314) rfl ?_
        exact s_retN C (by simp) at_314 (by decide) (by decide) rfl
    · subst q
      refine s_istoreP C at_106 (pc' := 108) rfl #[.val (.long x0), .second, .val (.long x1), .second, .val (.long x2), .second, .val (.long x3), .second, .val (.long x4), .second, .val (.int x5), .val (.long (4503599627370495 : Int64)), .second, .val (.ref a1), .val (.ref a24), .val (.int (5 : Int32)), .unset, .unset, .unset, .unset, .unset, .unset, .unset, .unset] rfl ?_
      refine s_iload C at_108 (pc' := 110) rfl rfl ?_
      refine s_bipush C at_110 (pc' := 112) rfl (8 : Int32) rfl ?_
      refine s_iand C at_112 (pc' := 113) rfl ?_
      refine s_if_eq C at_113 (pc' := 116) rfl (pcY := 120) rfl (fun c1299 => ?_) (fun c1299 => ?_)
      · skip
        refine s_iconst C at_120 (pc' := 121) rfl (0 : Int32) rfl ?_
        refine s_istoreP C at_121 (pc' := 123) rfl #[.val (.long x0), .second, .val (.long x1), .second, .val (.long x2), .second, .val (.long x3), .second, .val (.long x4), .second, .val (.int x5), .val (.long (4503599627370495 : Int64)), .second, .val (.ref a1), .val (.ref a24), .val (.int (5 : Int32)), .val (.int (0 : Int32)), .unset, .unset, .unset, .unset, .unset, .unset, .unset] rfl ?_
        refine s_iconst C at_123 (pc' := 124) rfl (5 : Int32) rfl ?_
        refine s_newarr C (cap := 5) at_124 (pc' := 126) rfl (w1 hw) (by decide) (by decide) (by decide) (k' := 3) rfl (by decide) (n' := 15) rfl (by decide) [(.long (0 : Int64)), (.long (0 : Int64)), (.long (0 : Int64)), (.long (0 : Int64)), (.long (0 : Int64))] rfl (fun h1300 a1300 E1300 g1300 A1300 => ?_)
        have Vx1301 := (Vx49.other W50 ne25)
        have ne1302 : a1 ≠ a1300 := Nat.ne_of_lt (by rw [g1300]; exact Vx1301.lt)
        have ne1303 : a24 ≠ a1300 := Nat.ne_of_lt (by rw [g1300]; exact A50.lt)
        have Vx1304 := ((((((Vx26.ext E24).other W34 ne27).other W38 ne27).other W42 ne27).other W46 ne27).other W50 ne27)
        have ne1305 : p_ ≠ a1300 := Nat.ne_of_lt (by rw [g1300]; exact Vx1304.lt)
        have Vx1306 := ((((((Vx28.ext E24).other W34 ne29).other W38 ne29).other W42 ne29).other W46 ne29).other W50 ne29)
        have ne1307 : t ≠ a1300 := Nat.ne_of_lt (by rw [g1300]; exact Vx1306.lt)
        have gn1308 : n0 ≤ a1300 := by rw [g1300]; exact sz51
        have sz1309 : n0 ≤ h1300.size := (Nat.le_trans sz51 E1300.1)
        have Od1310 : Old Z n0 h1300 := Od52.ext E1300
        refine s_astore C at_126 (pc' := 128) rfl rfl #[.val (.long x0), .second, .val (.long x1), .second, .val (.long x2), .second, .val (.long x3), .second, .val (.long x4), .second, .val (.int x5), .val (.long (4503599627370495 : Int64)), .second, .val (.ref a1), .val (.ref a24), .val (.int (5 : Int32)), .val (.int (0 : Int32)), .val (.ref a1300), .unset, .unset, .unset, .unset, .unset, .unset] rfl ?_
        refine s_iconst C at_128 (pc' := 129) rfl (5 : Int32) rfl ?_
        refine s_newarr C (cap := 5) at_129 (pc' := 131) rfl (w1 hw) (by decide) (by decide) (by decide) (k' := 4) rfl (by decide) (n' := 20) rfl (by decide) [(.long (0 : Int64)), (.long (0 : Int64)), (.long (0 : Int64)), (.long (0 : Int64)), (.long (0 : Int64))] rfl (fun h1311 a1311 E1311 g1311 A1311 => ?_)
        have Vx1312 := (Vx1301.ext E1300)
        have ne1313 : a1 ≠ a1311 := Nat.ne_of_lt (by rw [g1311]; exact Vx1312.lt)
        have ne1314 : a1300 ≠ a1311 := Nat.ne_of_lt (by rw [g1311]; exact A1300.lt)
        have Vx1315 := (A50.ext E1300)
        have ne1316 : a24 ≠ a1311 := Nat.ne_of_lt (by rw [g1311]; exact Vx1315.lt)
        have Vx1317 := (Vx1304.ext E1300)
        have ne1318 : p_ ≠ a1311 := Nat.ne_of_lt (by rw [g1311]; exact Vx1317.lt)
        have Vx1319 := (Vx1306.ext E1300)
        have ne1320 : t ≠ a1311 := Nat.ne_of_lt (by rw [g1311]; exact Vx1319.lt)
        have gn1321 : n0 ≤ a1311 := by rw [g1311]; exact sz1309
        have sz1322 : n0 ≤ h1311.size := (Nat.le_trans sz1309 E1311.1)
        have Od1323 : Old Z n0 h1311 := Od1310.ext E1311
        refine s_astore C at_131 (pc' := 133) rfl rfl #[.val (.long x0), .second, .val (.long x1), .second, .val (.long x2), .second, .val (.long x3), .second, .val (.long x4), .second, .val (.int x5), .val (.long (4503599627370495 : Int64)), .second, .val (.ref a1), .val (.ref a24), .val (.int (5 : Int32)), .val (.int (0 : Int32)), .val (.ref a1300), .val (.ref a1311), .unset, .unset, .unset, .unset, .unset] rfl ?_
        refine s_iconst C at_133 (pc' := 134) rfl (5 : Int32) rfl ?_
        refine s_newarr C (cap := 5) at_134 (pc' := 136) rfl (w1 hw) (by decide) (by decide) (by decide) (k' := 5) rfl (by decide) (n' := 25) rfl (by decide) [(.long (0 : Int64)), (.long (0 : Int64)), (.long (0 : Int64)), (.long (0 : Int64)), (.long (0 : Int64))] rfl (fun h1324 a1324 E1324 g1324 A1324 => ?_)
        have Vx1325 := (Vx1312.ext E1311)
        have ne1326 : a1 ≠ a1324 := Nat.ne_of_lt (by rw [g1324]; exact Vx1325.lt)
        have Vx1327 := (A1300.ext E1311)
        have ne1328 : a1300 ≠ a1324 := Nat.ne_of_lt (by rw [g1324]; exact Vx1327.lt)
        have ne1329 : a1311 ≠ a1324 := Nat.ne_of_lt (by rw [g1324]; exact A1311.lt)
        have Vx1330 := (Vx1315.ext E1311)
        have ne1331 : a24 ≠ a1324 := Nat.ne_of_lt (by rw [g1324]; exact Vx1330.lt)
        have Vx1332 := (Vx1317.ext E1311)
        have ne1333 : p_ ≠ a1324 := Nat.ne_of_lt (by rw [g1324]; exact Vx1332.lt)
        have Vx1334 := (Vx1319.ext E1311)
        have ne1335 : t ≠ a1324 := Nat.ne_of_lt (by rw [g1324]; exact Vx1334.lt)
        have gn1336 : n0 ≤ a1324 := by rw [g1324]; exact sz1322
        have sz1337 : n0 ≤ h1324.size := (Nat.le_trans sz1322 E1324.1)
        have Od1338 : Old Z n0 h1324 := Od1323.ext E1324
        refine s_astore C at_136 (pc' := 138) rfl rfl #[.val (.long x0), .second, .val (.long x1), .second, .val (.long x2), .second, .val (.long x3), .second, .val (.long x4), .second, .val (.int x5), .val (.long (4503599627370495 : Int64)), .second, .val (.ref a1), .val (.ref a24), .val (.int (5 : Int32)), .val (.int (0 : Int32)), .val (.ref a1300), .val (.ref a1311), .val (.ref a1324), .unset, .unset, .unset, .unset] rfl ?_
        refine s_iconst C at_138 (pc' := 139) rfl (5 : Int32) rfl ?_
        refine s_newarr C (cap := 5) at_139 (pc' := 141) rfl (w1 hw) (by decide) (by decide) (by decide) (k' := 6) rfl (by decide) (n' := 30) rfl (by decide) [(.long (0 : Int64)), (.long (0 : Int64)), (.long (0 : Int64)), (.long (0 : Int64)), (.long (0 : Int64))] rfl (fun h1339 a1339 E1339 g1339 A1339 => ?_)
        have Vx1340 := (Vx1325.ext E1324)
        have ne1341 : a1 ≠ a1339 := Nat.ne_of_lt (by rw [g1339]; exact Vx1340.lt)
        have Vx1342 := (Vx1327.ext E1324)
        have ne1343 : a1300 ≠ a1339 := Nat.ne_of_lt (by rw [g1339]; exact Vx1342.lt)
        have Vx1344 := (A1311.ext E1324)
        have ne1345 : a1311 ≠ a1339 := Nat.ne_of_lt (by rw [g1339]; exact Vx1344.lt)
        have ne1346 : a1324 ≠ a1339 := Nat.ne_of_lt (by rw [g1339]; exact A1324.lt)
        have Vx1347 := (Vx1330.ext E1324)
        have ne1348 : a24 ≠ a1339 := Nat.ne_of_lt (by rw [g1339]; exact Vx1347.lt)
        have Vx1349 := (Vx1332.ext E1324)
        have ne1350 : p_ ≠ a1339 := Nat.ne_of_lt (by rw [g1339]; exact Vx1349.lt)
        have Vx1351 := (Vx1334.ext E1324)
        have ne1352 : t ≠ a1339 := Nat.ne_of_lt (by rw [g1339]; exact Vx1351.lt)
        have gn1353 : n0 ≤ a1339 := by rw [g1339]; exact sz1337
        have sz1354 : n0 ≤ h1339.size := (Nat.le_trans sz1337 E1339.1)
        have Od1355 : Old Z n0 h1339 := Od1338.ext E1339
        refine s_astore C at_141 (pc' := 143) rfl rfl #[.val (.long x0), .second, .val (.long x1), .second, .val (.long x2), .second, .val (.long x3), .second, .val (.long x4), .second, .val (.int x5), .val (.long (4503599627370495 : Int64)), .second, .val (.ref a1), .val (.ref a24), .val (.int (5 : Int32)), .val (.int (0 : Int32)), .val (.ref a1300), .val (.ref a1311), .val (.ref a1324), .val (.ref a1339), .unset, .unset, .unset] rfl ?_
        refine s_iconst C at_143 (pc' := 144) rfl (5 : Int32) rfl ?_
        refine s_newarr C (cap := 5) at_144 (pc' := 146) rfl (w1 hw) (by decide) (by decide) (by decide) (k' := 7) rfl (by decide) (n' := 35) rfl (by decide) [(.long (0 : Int64)), (.long (0 : Int64)), (.long (0 : Int64)), (.long (0 : Int64)), (.long (0 : Int64))] rfl (fun h1356 a1356 E1356 g1356 A1356 => ?_)
        have Vx1357 := (Vx1340.ext E1339)
        have ne1358 : a1 ≠ a1356 := Nat.ne_of_lt (by rw [g1356]; exact Vx1357.lt)
        have Vx1359 := (Vx1342.ext E1339)
        have ne1360 : a1300 ≠ a1356 := Nat.ne_of_lt (by rw [g1356]; exact Vx1359.lt)
        have Vx1361 := (Vx1344.ext E1339)
        have ne1362 : a1311 ≠ a1356 := Nat.ne_of_lt (by rw [g1356]; exact Vx1361.lt)
        have Vx1363 := (A1324.ext E1339)
        have ne1364 : a1324 ≠ a1356 := Nat.ne_of_lt (by rw [g1356]; exact Vx1363.lt)
        have ne1365 : a1339 ≠ a1356 := Nat.ne_of_lt (by rw [g1356]; exact A1339.lt)
        have Vx1366 := (Vx1347.ext E1339)
        have ne1367 : a24 ≠ a1356 := Nat.ne_of_lt (by rw [g1356]; exact Vx1366.lt)
        have Vx1368 := (Vx1349.ext E1339)
        have ne1369 : p_ ≠ a1356 := Nat.ne_of_lt (by rw [g1356]; exact Vx1368.lt)
        have Vx1370 := (Vx1351.ext E1339)
        have ne1371 : t ≠ a1356 := Nat.ne_of_lt (by rw [g1356]; exact Vx1370.lt)
        have gn1372 : n0 ≤ a1356 := by rw [g1356]; exact sz1354
        have sz1373 : n0 ≤ h1356.size := (Nat.le_trans sz1354 E1356.1)
        have Od1374 : Old Z n0 h1356 := Od1355.ext E1356
        refine s_astore C at_146 (pc' := 148) rfl rfl #[.val (.long x0), .second, .val (.long x1), .second, .val (.long x2), .second, .val (.long x3), .second, .val (.long x4), .second, .val (.int x5), .val (.long (4503599627370495 : Int64)), .second, .val (.ref a1), .val (.ref a24), .val (.int (5 : Int32)), .val (.int (0 : Int32)), .val (.ref a1300), .val (.ref a1311), .val (.ref a1324), .val (.ref a1339), .val (.ref a1356), .unset, .unset] rfl ?_
        refine s_iconst C at_148 (pc' := 149) rfl (5 : Int32) rfl ?_
        refine s_newarr C (cap := 5) at_149 (pc' := 151) rfl (w1 hw) (by decide) (by decide) (by decide) (k' := 8) rfl (by decide) (n' := 40) rfl (by decide) [(.long (0 : Int64)), (.long (0 : Int64)), (.long (0 : Int64)), (.long (0 : Int64)), (.long (0 : Int64))] rfl (fun h1375 a1375 E1375 g1375 A1375 => ?_)
        have Vx1376 := (Vx1357.ext E1356)
        have ne1377 : a1 ≠ a1375 := Nat.ne_of_lt (by rw [g1375]; exact Vx1376.lt)
        have Vx1378 := (Vx1359.ext E1356)
        have ne1379 : a1300 ≠ a1375 := Nat.ne_of_lt (by rw [g1375]; exact Vx1378.lt)
        have Vx1380 := (Vx1361.ext E1356)
        have ne1381 : a1311 ≠ a1375 := Nat.ne_of_lt (by rw [g1375]; exact Vx1380.lt)
        have Vx1382 := (Vx1363.ext E1356)
        have ne1383 : a1324 ≠ a1375 := Nat.ne_of_lt (by rw [g1375]; exact Vx1382.lt)
        have Vx1384 := (A1339.ext E1356)
        have ne1385 : a1339 ≠ a1375 := Nat.ne_of_lt (by rw [g1375]; exact Vx1384.lt)
        have ne1386 : a1356 ≠ a1375 := Nat.ne_of_lt (by rw [g1375]; exact A1356.lt)
        have Vx1387 := (Vx1366.ext E1356)
        have ne1388 : a24 ≠ a1375 := Nat.ne_of_lt (by rw [g1375]; exact Vx1387.lt)
        have Vx1389 := (Vx1368.ext E1356)
        have ne1390 : p_ ≠ a1375 := Nat.ne_of_lt (by rw [g1375]; exact Vx1389.lt)
        have Vx1391 := (Vx1370.ext E1356)
        have ne1392 : t ≠ a1375 := Nat.ne_of_lt (by rw [g1375]; exact Vx1391.lt)
        have gn1393 : n0 ≤ a1375 := by rw [g1375]; exact sz1373
        have sz1394 : n0 ≤ h1375.size := (Nat.le_trans sz1373 E1375.1)
        have Od1395 : Old Z n0 h1375 := Od1374.ext E1375
        refine s_astore C at_151 (pc' := 153) rfl rfl #[.val (.long x0), .second, .val (.long x1), .second, .val (.long x2), .second, .val (.long x3), .second, .val (.long x4), .second, .val (.int x5), .val (.long (4503599627370495 : Int64)), .second, .val (.ref a1), .val (.ref a24), .val (.int (5 : Int32)), .val (.int (0 : Int32)), .val (.ref a1300), .val (.ref a1311), .val (.ref a1324), .val (.ref a1339), .val (.ref a1356), .val (.ref a1375), .unset] rfl ?_
        refine s_iload C at_153 (pc' := 155) rfl rfl ?_
        refine s_if_eq C at_155 (pc' := 158) rfl (pcY := 163) rfl (fun c1396 => ?_) (fun hc => by exfalso; revert hc; decide)
        refine s_aload C at_163 (pc' := 165) rfl rfl rfl ?_
        refine s_astore C at_165 (pc' := 167) rfl rfl #[.val (.long x0), .second, .val (.long x1), .second, .val (.long x2), .second, .val (.long x3), .second, .val (.long x4), .second, .val (.int x5), .val (.long (4503599627370495 : Int64)), .second, .val (.ref a1), .val (.ref a24), .val (.int (5 : Int32)), .val (.int (0 : Int32)), .val (.ref a1300), .val (.ref a1311), .val (.ref a1324), .val (.ref a1339), .val (.ref a1356), .val (.ref a1375), .val (.ref a1375)] rfl ?_
        refine s_aload C at_167 (pc' := 169) rfl rfl rfl ?_
        refine s_aload C at_169 (pc' := 171) rfl rfl rfl ?_
        refine s_aload C at_171 (pc' := 173) rfl rfl rfl ?_
        have Vx1398 := (Vx1391.ext E1375)
        have Vx1399 := (Vx1389.ext E1375)
        have Vx1400 := (Vx1380.ext E1375)
        have Vx1401 := (Vx1387.ext E1375)
        refine s_callS0 C at_173 (pc' := 176) rfl (w11 hw) (w12 hw) (w13 hw) (w14 hw) (by decide) [(.ref a1311), (.ref a24), (.ref a24)] [] pd5 rfl rfl (c_add l Z a0 hw t p_ a1311 a24 a24 (0 : Int64) (0 : Int64) (0 : Int64) (0 : Int64) (0 : Int64) y0 y1 y2 y3 y4 y0 y1 y2 y3 y4 va va h1375 n0 sz1394 Od1395 S_t S_p Vx1398 Vx1399 gn1321 Vx1400 Vx1401 Vx1401 na na la la) rfl (W := 0) rfl (by decide) (by decide) (k' := 8) rfl (by decide) (n' := 40) rfl (by decide) (fun h1397 q1397 => ?_)
        obtain ⟨K1397, z1397_0, z1397_1, z1397_2, z1397_3, z1397_4, v1397, V1397, N1397, L1397, C1397⟩ := q1397
        have sz1402 : n0 ≤ h1397.size := (Nat.le_trans sz1394 K1397.1)
        have Od1403 : Old Z n0 h1397 := Od1395.keep K1397 (allS gn1321 all0)
        refine s_aload C at_176 (pc' := 178) rfl rfl rfl ?_
        refine s_aload C at_178 (pc' := 180) rfl rfl rfl ?_
        refine s_aload C at_180 (pc' := 182) rfl rfl rfl ?_
        have Vx1405 := (Vx1398.keep K1397 (ninS ne1320 nin0))
        have Vx1406 := (Vx1399.keep K1397 (ninS ne1318 nin0))
        have Vx1407 := ((Vx1382.ext E1375).keep K1397 (ninS (Ne.symm ne1329) nin0))
        refine s_callS0 C at_182 (pc' := 185) rfl (w11 hw) (w12 hw) (w13 hw) (w14 hw) (by decide) [(.ref a1324), (.ref a1311), (.ref a1311)] [] pd5 rfl rfl (c_add l Z a0 hw t p_ a1324 a1311 a1311 (0 : Int64) (0 : Int64) (0 : Int64) (0 : Int64) (0 : Int64) z1397_0 z1397_1 z1397_2 z1397_3 z1397_4 z1397_0 z1397_1 z1397_2 z1397_3 z1397_4 v1397 v1397 h1397 n0 sz1402 Od1403 S_t S_p Vx1405 Vx1406 gn1336 Vx1407 V1397 V1397 N1397 N1397 L1397 L1397) rfl (W := 0) rfl (by decide) (by decide) (k' := 8) rfl (by decide) (n' := 40) rfl (by decide) (fun h1404 q1404 => ?_)
        obtain ⟨K1404, z1404_0, z1404_1, z1404_2, z1404_3, z1404_4, v1404, V1404, N1404, L1404, C1404⟩ := q1404
        have sz1408 : n0 ≤ h1404.size := (Nat.le_trans sz1402 K1404.1)
        have Od1409 : Old Z n0 h1404 := Od1403.keep K1404 (allS gn1336 all0)
        refine s_aload C at_185 (pc' := 187) rfl rfl rfl ?_
        refine s_aload C at_187 (pc' := 189) rfl rfl rfl ?_
        refine s_aload C at_189 (pc' := 191) rfl rfl rfl ?_
        have Vx1411 := (Vx1405.keep K1404 (ninS ne1335 nin0))
        have Vx1412 := (Vx1406.keep K1404 (ninS ne1333 nin0))
        have Vx1413 := (((Vx1384.ext E1375).keep K1397 (ninS (Ne.symm ne1345) nin0)).keep K1404 (ninS (Ne.symm ne1346) nin0))
        refine s_callS0 C at_191 (pc' := 194) rfl (w11 hw) (w12 hw) (w13 hw) (w14 hw) (by decide) [(.ref a1339), (.ref a1324), (.ref a1324)] [] pd5 rfl rfl (c_add l Z a0 hw t p_ a1339 a1324 a1324 (0 : Int64) (0 : Int64) (0 : Int64) (0 : Int64) (0 : Int64) z1404_0 z1404_1 z1404_2 z1404_3 z1404_4 z1404_0 z1404_1 z1404_2 z1404_3 z1404_4 v1404 v1404 h1404 n0 sz1408 Od1409 S_t S_p Vx1411 Vx1412 gn1353 Vx1413 V1404 V1404 N1404 N1404 L1404 L1404) rfl (W := 0) rfl (by decide) (by decide) (k' := 8) rfl (by decide) (n' := 40) rfl (by decide) (fun h1410 q1410 => ?_)
        obtain ⟨K1410, z1410_0, z1410_1, z1410_2, z1410_3, z1410_4, v1410, V1410, N1410, L1410, C1410⟩ := q1410
        have sz1414 : n0 ≤ h1410.size := (Nat.le_trans sz1408 K1410.1)
        have Od1415 : Old Z n0 h1410 := Od1409.keep K1410 (allS gn1353 all0)
        refine s_aload C at_194 (pc' := 196) rfl rfl rfl ?_
        refine s_iload C at_196 (pc' := 198) rfl rfl ?_
        refine s_iconst C at_198 (pc' := 199) rfl (1 : Int32) rfl ?_
        refine s_iand C at_199 (pc' := 200) rfl ?_
        refine s_foldI C (y := (1 : Int32)) (by decide) ?_
        refine s_if_eq C at_200 (pc' := 203) rfl (pcY := 208) rfl (fun hc => by exfalso; revert hc; decide) (fun c1416 => ?_)
        refine s_aload C at_203 (pc' := 205) rfl rfl rfl ?_
        refine s_goto C at_205 (pc' := 210) rfl ?_
        refine s_iload C at_210 (pc' := 212) rfl rfl ?_
        refine s_iconst C at_212 (pc' := 213) rfl (2 : Int32) rfl ?_
        refine s_iand C at_213 (pc' := 214) rfl ?_
        refine s_foldI C (y := (0 : Int32)) (by decide) ?_
        refine s_if_eq C at_214 (pc' := 217) rfl (pcY := 222) rfl (fun c1417 => ?_) (fun hc => by exfalso; revert hc; decide)
        refine s_aload C at_222 (pc' := 224) rfl rfl rfl ?_
        have Vx1419 := (Vx1411.keep K1410 (ninS ne1352 nin0))
        have Vx1420 := (Vx1412.keep K1410 (ninS ne1350 nin0))
        have Vx1421 := ((((A1356.ext E1375).keep K1397 (ninS (Ne.symm ne1362) nin0)).keep K1404 (ninS (Ne.symm ne1364) nin0)).keep K1410 (ninS (Ne.symm ne1365) nin0))
        have Vx1422 := (((Vx1401.keep K1397 (ninS ne1316 nin0)).keep K1404 (ninS ne1331 nin0)).keep K1410 (ninS ne1348 nin0))
        have Vx1423 := ((((Vx1378.ext E1375).keep K1397 (ninS ne1314 nin0)).keep K1404 (ninS ne1328 nin0)).keep K1410 (ninS ne1343 nin0))
        refine s_callS0 C at_224 (pc' := 227) rfl (w11 hw) (w12 hw) (w13 hw) (w14 hw) (by decide) [(.ref a1356), (.ref a24), (.ref a1300)] [] pd5 rfl rfl (c_add l Z a0 hw t p_ a1356 a24 a1300 (0 : Int64) (0 : Int64) (0 : Int64) (0 : Int64) (0 : Int64) y0 y1 y2 y3 y4 (0 : Int64) (0 : Int64) (0 : Int64) (0 : Int64) (0 : Int64) va 0 h1410 n0 sz1414 Od1415 S_t S_p Vx1419 Vx1420 gn1372 Vx1421 Vx1422 Vx1423 na own_zero la (by decide)) rfl (W := 0) rfl (by decide) (by decide) (k' := 8) rfl (by decide) (n' := 40) rfl (by decide) (fun h1418 q1418 => ?_)
        obtain ⟨K1418, z1418_0, z1418_1, z1418_2, z1418_3, z1418_4, v1418, V1418, N1418, L1418, C1418⟩ := q1418
        have sz1424 : n0 ≤ h1418.size := (Nat.le_trans sz1414 K1418.1)
        have Od1425 : Old Z n0 h1418 := Od1415.keep K1418 (allS gn1372 all0)
        refine s_aload C at_227 (pc' := 229) rfl rfl rfl ?_
        refine s_aload C at_229 (pc' := 231) rfl rfl rfl ?_
        refine s_iload C at_231 (pc' := 233) rfl rfl ?_
        refine s_iconst C at_233 (pc' := 234) rfl (4 : Int32) rfl ?_
        refine s_iand C at_234 (pc' := 235) rfl ?_
        refine s_foldI C (y := (4 : Int32)) (by decide) ?_
        refine s_if_eq C at_235 (pc' := 238) rfl (pcY := 243) rfl (fun hc => by exfalso; revert hc; decide) (fun c1426 => ?_)
        refine s_aload C at_238 (pc' := 240) rfl rfl rfl ?_
        refine s_goto C at_240 (pc' := 245) rfl ?_
        have Vx1428 := (Vx1419.keep K1418 (ninS ne1371 nin0))
        have Vx1429 := (Vx1420.keep K1418 (ninS ne1369 nin0))
        have Vx1430 := ((V1404.keep K1410 (ninS ne1346 nin0)).keep K1418 (ninS ne1364 nin0))
        refine s_callS0 C at_245 (pc' := 248) rfl (w11 hw) (w12 hw) (w13 hw) (w14 hw) (by decide) [(.ref a1356), (.ref a1356), (.ref a1324)] [] pd5 rfl rfl (c_add l Z a0 hw t p_ a1356 a1356 a1324 z1418_0 z1418_1 z1418_2 z1418_3 z1418_4 z1418_0 z1418_1 z1418_2 z1418_3 z1418_4 z1404_0 z1404_1 z1404_2 z1404_3 z1404_4 v1418 v1404 h1418 n0 sz1424 Od1425 S_t S_p Vx1428 Vx1429 gn1372 V1418 V1418 Vx1430 N1418 N1404 L1418 L1404) rfl (W := 0) rfl (by decide) (by decide) (k' := 8) rfl (by decide) (n' := 40) rfl (by decide) (fun h1427 q1427 => ?_)
        obtain ⟨K1427, z1427_0, z1427_1, z1427_2, z1427_3, z1427_4, v1427, V1427, N1427, L1427, C1427⟩ := q1427
        have sz1431 : n0 ≤ h1427.size := (Nat.le_trans sz1424 K1427.1)
        have Od1432 : Old Z n0 h1427 := Od1425.keep K1427 (allS gn1372 all0)
        refine s_aload C at_248 (pc' := 250) rfl rfl rfl ?_
        refine s_aload C at_250 (pc' := 252) rfl rfl rfl ?_
        refine s_iload C at_252 (pc' := 254) rfl rfl ?_
        refine s_bipush C at_254 (pc' := 256) rfl (8 : Int32) rfl ?_
        refine s_iand C at_256 (pc' := 257) rfl ?_
        refine s_foldI C (y := (0 : Int32)) (by decide) ?_
        refine s_if_eq C at_257 (pc' := 260) rfl (pcY := 265) rfl (fun c1433 => ?_) (fun hc => by exfalso; revert hc; decide)
        refine s_aload C at_265 (pc' := 267) rfl rfl rfl ?_
        have Vx1435 := (Vx1428.keep K1427 (ninS ne1371 nin0))
        have Vx1436 := (Vx1429.keep K1427 (ninS ne1369 nin0))
        have Vx1437 := ((Vx1423.keep K1418 (ninS ne1360 nin0)).keep K1427 (ninS ne1360 nin0))
        refine s_callS0 C at_267 (pc' := 270) rfl (w11 hw) (w12 hw) (w13 hw) (w14 hw) (by decide) [(.ref a1356), (.ref a1356), (.ref a1300)] [] pd5 rfl rfl (c_add l Z a0 hw t p_ a1356 a1356 a1300 z1427_0 z1427_1 z1427_2 z1427_3 z1427_4 z1427_0 z1427_1 z1427_2 z1427_3 z1427_4 (0 : Int64) (0 : Int64) (0 : Int64) (0 : Int64) (0 : Int64) v1427 0 h1427 n0 sz1431 Od1432 S_t S_p Vx1435 Vx1436 gn1372 V1427 V1427 Vx1437 N1427 own_zero L1427 (by decide)) rfl (W := 0) rfl (by decide) (by decide) (k' := 8) rfl (by decide) (n' := 40) rfl (by decide) (fun h1434 q1434 => ?_)
        obtain ⟨K1434, z1434_0, z1434_1, z1434_2, z1434_3, z1434_4, v1434, V1434, N1434, L1434, C1434⟩ := q1434
        have sz1438 : n0 ≤ h1434.size := (Nat.le_trans sz1431 K1434.1)
        have Od1439 : Old Z n0 h1434 := Od1432.keep K1434 (allS gn1372 all0)
        refine s_aload C at_270 (pc' := 272) rfl rfl rfl ?_
        refine s_aload C at_272 (pc' := 274) rfl rfl rfl ?_
        refine s_iload C at_274 (pc' := 276) rfl rfl ?_
        have Vx1441 := ((((((A1375.keep K1397 (ninS (Ne.symm ne1381) nin0)).keep K1404 (ninS (Ne.symm ne1383) nin0)).keep K1410 (ninS (Ne.symm ne1385) nin0)).keep K1418 (ninS (Ne.symm ne1386) nin0)).keep K1427 (ninS (Ne.symm ne1386) nin0)).keep K1434 (ninS (Ne.symm ne1386) nin0))
        have Vx1442 := (((((((Vx1376.ext E1375).keep K1397 (ninS ne1313 nin0)).keep K1404 (ninS ne1326 nin0)).keep K1410 (ninS ne1341 nin0)).keep K1418 (ninS ne1358 nin0)).keep K1427 (ninS ne1358 nin0)).keep K1434 (ninS ne1358 nin0))
        refine s_callS0 C at_276 (pc' := 279) rfl (w22 hw) (w23 hw) (w13 hw) (w24 hw) (by decide) [(.ref a1375), (.ref a1), (.int (5 : Int32))] [] pd3 rfl rfl (c_ms5 l Z a0 hw a1375 a1 (0 : Int64) (0 : Int64) (0 : Int64) (0 : Int64) (0 : Int64) y0 y1 y2 y3 y4 va h1434 n0 sz1438 gn1393 Vx1441 Vx1442 na la) rfl (W := 0) rfl (by decide) (by decide) (k' := 8) rfl (by decide) (n' := 40) rfl (by decide) (fun h1440 q1440 => ?_)
        obtain ⟨K1440, z1440_0, z1440_1, z1440_2, z1440_3, z1440_4, v1440, V1440, N1440, L1440, C1440⟩ := q1440
        have sz1443 : n0 ≤ h1440.size := (Nat.le_trans sz1438 K1440.1)
        have Od1444 : Old Z n0 h1440 := Od1439.keep K1440 (allS gn1393 all0)
        refine s_aload C at_279 (pc' := 281) rfl rfl rfl ?_
        refine s_callSI C at_281 (pc' := 284) rfl (w26 hw) (w27 hw) (w5 hw) (w28 hw) (by decide) [(.ref a1375)] [] pd0 rfl rfl (c_nmz l Z a0 hw a1375 z1440_0 z1440_1 z1440_2 z1440_3 z1440_4 h1440 n0 sz1443 V1440) rfl (W := 0) rfl (by decide) (by decide) (k' := 8) rfl (by decide) (n' := 40) rfl (by decide) (fun _ _ q1445 => ?_)
        obtain ⟨rfl, rfl⟩ := q1445
        refine s_foldI C (y := (1 : Int32)) (own_nmz N1440 L1440) ?_
        refine s_if_ne C at_284 (pc' := 287) rfl (pcY := 289) rfl (fun c1446 => ?_) (fun hc => by exfalso; revert hc; decide)
        refine s_aload C at_289 (pc' := 291) rfl rfl rfl ?_
        refine s_callSI C at_291 (pc' := 294) rfl (w3 hw) (w4 hw) (w5 hw) (w6 hw) (by decide) [(.ref a1375)] [] pd0 rfl rfl (c_blw l Z a0 hw a1375 z1440_0 z1440_1 z1440_2 z1440_3 z1440_4 h1440 n0 sz1443 V1440) rfl (W := 0) rfl (by decide) (by decide) (k' := 8) rfl (by decide) (n' := 40) rfl (by decide) (fun _ _ q1447 => ?_)
        obtain ⟨rfl, rfl⟩ := q1447
        refine s_foldI C (y := (1 : Int32)) ((own_blw N1440).1 L1440) ?_
        refine s_if_eq C at_294 (pc' := 297) rfl (pcY := 313) rfl (fun hc => by exfalso; revert hc; decide) (fun c1448 => ?_)
        refine s_aload C at_297 (pc' := 299) rfl rfl rfl ?_
        refine s_aload C at_299 (pc' := 301) rfl rfl rfl ?_
        have hab : (v1440 - v1434) % 115792089210356248762697446949407573530086143415290314195533631308867097853951 = 0 := own_hab5 C1397 C1404 C1410 C1418 C1427 C1434 C1440
        have Vx1450 := ((Vx1435.keep K1434 (ninS ne1371 nin0)).keep K1440 (ninS ne1392 nin0))
        have Vx1451 := ((Vx1436.keep K1434 (ninS ne1369 nin0)).keep K1440 (ninS ne1390 nin0))
        have Vx1452 := (V1434.keep K1440 (ninS ne1386 nin0))
        refine s_callSL C at_301 (pc' := 304) rfl (w31 hw) (w32 hw) (w13 hw) (w33 hw) (by decide) [(.ref a1375), (.ref a1356)] [] pd2 rfl rfl (c_eq l Z a0 hw t p_ a1375 a1356 z1440_0 z1440_1 z1440_2 z1440_3 z1440_4 z1434_0 z1434_1 z1434_2 z1434_3 z1434_4 v1440 v1434 h1440 n0 sz1443 Od1444 S_t S_p Vx1450 Vx1451 V1440 Vx1452 N1440 N1434 L1440 L1434 hab) rfl (W := 0) rfl (by decide) (by decide) (k' := 10) rfl (by decide) (n' := 50) rfl (by decide) (fun _ h1449 q1449 => ?_)
        obtain ⟨rfl, K1449⟩ := q1449
        have sz1453 : n0 ≤ h1449.size := (Nat.le_trans sz1443 K1449.1)
        have Od1454 : Old Z n0 h1449 := Od1444.keep K1449 all0
        refine s_lconst C at_304 (pc' := 305) rfl (1 : Int64) rfl ?_
        refine s_lc_ne C at_305 (pc1 := 306) rfl at_306 (pc' := 309) rfl (pcY := 313) rfl (fun hc => by exfalso; revert hc; decide) (fun c1455 => ?_)
        refine s_iconst C at_309 (pc' := 310) rfl (1 : Int32) rfl ?_
        refine s_goto C at_310 (pc' := 314) rfl ?_
        exact s_retN C (by simp) at_314 (by decide) (by decide) rfl
      · skip
        refine s_iconst C at_116 (pc' := 117) rfl (1 : Int32) rfl ?_
        refine s_goto C at_117 (pc' := 121) rfl ?_
        refine s_istoreP C at_121 (pc' := 123) rfl #[.val (.long x0), .second, .val (.long x1), .second, .val (.long x2), .second, .val (.long x3), .second, .val (.long x4), .second, .val (.int x5), .val (.long (4503599627370495 : Int64)), .second, .val (.ref a1), .val (.ref a24), .val (.int (5 : Int32)), .val (.int (1 : Int32)), .unset, .unset, .unset, .unset, .unset, .unset, .unset] rfl ?_
        refine s_iconst C at_123 (pc' := 124) rfl (5 : Int32) rfl ?_
        refine s_newarr C (cap := 5) at_124 (pc' := 126) rfl (w1 hw) (by decide) (by decide) (by decide) (k' := 3) rfl (by decide) (n' := 15) rfl (by decide) [(.long (0 : Int64)), (.long (0 : Int64)), (.long (0 : Int64)), (.long (0 : Int64)), (.long (0 : Int64))] rfl (fun h1456 a1456 E1456 g1456 A1456 => ?_)
        have Vx1457 := (Vx49.other W50 ne25)
        have ne1458 : a1 ≠ a1456 := Nat.ne_of_lt (by rw [g1456]; exact Vx1457.lt)
        have ne1459 : a24 ≠ a1456 := Nat.ne_of_lt (by rw [g1456]; exact A50.lt)
        have Vx1460 := ((((((Vx26.ext E24).other W34 ne27).other W38 ne27).other W42 ne27).other W46 ne27).other W50 ne27)
        have ne1461 : p_ ≠ a1456 := Nat.ne_of_lt (by rw [g1456]; exact Vx1460.lt)
        have Vx1462 := ((((((Vx28.ext E24).other W34 ne29).other W38 ne29).other W42 ne29).other W46 ne29).other W50 ne29)
        have ne1463 : t ≠ a1456 := Nat.ne_of_lt (by rw [g1456]; exact Vx1462.lt)
        have gn1464 : n0 ≤ a1456 := by rw [g1456]; exact sz51
        have sz1465 : n0 ≤ h1456.size := (Nat.le_trans sz51 E1456.1)
        have Od1466 : Old Z n0 h1456 := Od52.ext E1456
        refine s_astore C at_126 (pc' := 128) rfl rfl #[.val (.long x0), .second, .val (.long x1), .second, .val (.long x2), .second, .val (.long x3), .second, .val (.long x4), .second, .val (.int x5), .val (.long (4503599627370495 : Int64)), .second, .val (.ref a1), .val (.ref a24), .val (.int (5 : Int32)), .val (.int (1 : Int32)), .val (.ref a1456), .unset, .unset, .unset, .unset, .unset, .unset] rfl ?_
        refine s_iconst C at_128 (pc' := 129) rfl (5 : Int32) rfl ?_
        refine s_newarr C (cap := 5) at_129 (pc' := 131) rfl (w1 hw) (by decide) (by decide) (by decide) (k' := 4) rfl (by decide) (n' := 20) rfl (by decide) [(.long (0 : Int64)), (.long (0 : Int64)), (.long (0 : Int64)), (.long (0 : Int64)), (.long (0 : Int64))] rfl (fun h1467 a1467 E1467 g1467 A1467 => ?_)
        have Vx1468 := (Vx1457.ext E1456)
        have ne1469 : a1 ≠ a1467 := Nat.ne_of_lt (by rw [g1467]; exact Vx1468.lt)
        have ne1470 : a1456 ≠ a1467 := Nat.ne_of_lt (by rw [g1467]; exact A1456.lt)
        have Vx1471 := (A50.ext E1456)
        have ne1472 : a24 ≠ a1467 := Nat.ne_of_lt (by rw [g1467]; exact Vx1471.lt)
        have Vx1473 := (Vx1460.ext E1456)
        have ne1474 : p_ ≠ a1467 := Nat.ne_of_lt (by rw [g1467]; exact Vx1473.lt)
        have Vx1475 := (Vx1462.ext E1456)
        have ne1476 : t ≠ a1467 := Nat.ne_of_lt (by rw [g1467]; exact Vx1475.lt)
        have gn1477 : n0 ≤ a1467 := by rw [g1467]; exact sz1465
        have sz1478 : n0 ≤ h1467.size := (Nat.le_trans sz1465 E1467.1)
        have Od1479 : Old Z n0 h1467 := Od1466.ext E1467
        refine s_astore C at_131 (pc' := 133) rfl rfl #[.val (.long x0), .second, .val (.long x1), .second, .val (.long x2), .second, .val (.long x3), .second, .val (.long x4), .second, .val (.int x5), .val (.long (4503599627370495 : Int64)), .second, .val (.ref a1), .val (.ref a24), .val (.int (5 : Int32)), .val (.int (1 : Int32)), .val (.ref a1456), .val (.ref a1467), .unset, .unset, .unset, .unset, .unset] rfl ?_
        refine s_iconst C at_133 (pc' := 134) rfl (5 : Int32) rfl ?_
        refine s_newarr C (cap := 5) at_134 (pc' := 136) rfl (w1 hw) (by decide) (by decide) (by decide) (k' := 5) rfl (by decide) (n' := 25) rfl (by decide) [(.long (0 : Int64)), (.long (0 : Int64)), (.long (0 : Int64)), (.long (0 : Int64)), (.long (0 : Int64))] rfl (fun h1480 a1480 E1480 g1480 A1480 => ?_)
        have Vx1481 := (Vx1468.ext E1467)
        have ne1482 : a1 ≠ a1480 := Nat.ne_of_lt (by rw [g1480]; exact Vx1481.lt)
        have Vx1483 := (A1456.ext E1467)
        have ne1484 : a1456 ≠ a1480 := Nat.ne_of_lt (by rw [g1480]; exact Vx1483.lt)
        have ne1485 : a1467 ≠ a1480 := Nat.ne_of_lt (by rw [g1480]; exact A1467.lt)
        have Vx1486 := (Vx1471.ext E1467)
        have ne1487 : a24 ≠ a1480 := Nat.ne_of_lt (by rw [g1480]; exact Vx1486.lt)
        have Vx1488 := (Vx1473.ext E1467)
        have ne1489 : p_ ≠ a1480 := Nat.ne_of_lt (by rw [g1480]; exact Vx1488.lt)
        have Vx1490 := (Vx1475.ext E1467)
        have ne1491 : t ≠ a1480 := Nat.ne_of_lt (by rw [g1480]; exact Vx1490.lt)
        have gn1492 : n0 ≤ a1480 := by rw [g1480]; exact sz1478
        have sz1493 : n0 ≤ h1480.size := (Nat.le_trans sz1478 E1480.1)
        have Od1494 : Old Z n0 h1480 := Od1479.ext E1480
        refine s_astore C at_136 (pc' := 138) rfl rfl #[.val (.long x0), .second, .val (.long x1), .second, .val (.long x2), .second, .val (.long x3), .second, .val (.long x4), .second, .val (.int x5), .val (.long (4503599627370495 : Int64)), .second, .val (.ref a1), .val (.ref a24), .val (.int (5 : Int32)), .val (.int (1 : Int32)), .val (.ref a1456), .val (.ref a1467), .val (.ref a1480), .unset, .unset, .unset, .unset] rfl ?_
        refine s_iconst C at_138 (pc' := 139) rfl (5 : Int32) rfl ?_
        refine s_newarr C (cap := 5) at_139 (pc' := 141) rfl (w1 hw) (by decide) (by decide) (by decide) (k' := 6) rfl (by decide) (n' := 30) rfl (by decide) [(.long (0 : Int64)), (.long (0 : Int64)), (.long (0 : Int64)), (.long (0 : Int64)), (.long (0 : Int64))] rfl (fun h1495 a1495 E1495 g1495 A1495 => ?_)
        have Vx1496 := (Vx1481.ext E1480)
        have ne1497 : a1 ≠ a1495 := Nat.ne_of_lt (by rw [g1495]; exact Vx1496.lt)
        have Vx1498 := (Vx1483.ext E1480)
        have ne1499 : a1456 ≠ a1495 := Nat.ne_of_lt (by rw [g1495]; exact Vx1498.lt)
        have Vx1500 := (A1467.ext E1480)
        have ne1501 : a1467 ≠ a1495 := Nat.ne_of_lt (by rw [g1495]; exact Vx1500.lt)
        have ne1502 : a1480 ≠ a1495 := Nat.ne_of_lt (by rw [g1495]; exact A1480.lt)
        have Vx1503 := (Vx1486.ext E1480)
        have ne1504 : a24 ≠ a1495 := Nat.ne_of_lt (by rw [g1495]; exact Vx1503.lt)
        have Vx1505 := (Vx1488.ext E1480)
        have ne1506 : p_ ≠ a1495 := Nat.ne_of_lt (by rw [g1495]; exact Vx1505.lt)
        have Vx1507 := (Vx1490.ext E1480)
        have ne1508 : t ≠ a1495 := Nat.ne_of_lt (by rw [g1495]; exact Vx1507.lt)
        have gn1509 : n0 ≤ a1495 := by rw [g1495]; exact sz1493
        have sz1510 : n0 ≤ h1495.size := (Nat.le_trans sz1493 E1495.1)
        have Od1511 : Old Z n0 h1495 := Od1494.ext E1495
        refine s_astore C at_141 (pc' := 143) rfl rfl #[.val (.long x0), .second, .val (.long x1), .second, .val (.long x2), .second, .val (.long x3), .second, .val (.long x4), .second, .val (.int x5), .val (.long (4503599627370495 : Int64)), .second, .val (.ref a1), .val (.ref a24), .val (.int (5 : Int32)), .val (.int (1 : Int32)), .val (.ref a1456), .val (.ref a1467), .val (.ref a1480), .val (.ref a1495), .unset, .unset, .unset] rfl ?_
        refine s_iconst C at_143 (pc' := 144) rfl (5 : Int32) rfl ?_
        refine s_newarr C (cap := 5) at_144 (pc' := 146) rfl (w1 hw) (by decide) (by decide) (by decide) (k' := 7) rfl (by decide) (n' := 35) rfl (by decide) [(.long (0 : Int64)), (.long (0 : Int64)), (.long (0 : Int64)), (.long (0 : Int64)), (.long (0 : Int64))] rfl (fun h1512 a1512 E1512 g1512 A1512 => ?_)
        have Vx1513 := (Vx1496.ext E1495)
        have ne1514 : a1 ≠ a1512 := Nat.ne_of_lt (by rw [g1512]; exact Vx1513.lt)
        have Vx1515 := (Vx1498.ext E1495)
        have ne1516 : a1456 ≠ a1512 := Nat.ne_of_lt (by rw [g1512]; exact Vx1515.lt)
        have Vx1517 := (Vx1500.ext E1495)
        have ne1518 : a1467 ≠ a1512 := Nat.ne_of_lt (by rw [g1512]; exact Vx1517.lt)
        have Vx1519 := (A1480.ext E1495)
        have ne1520 : a1480 ≠ a1512 := Nat.ne_of_lt (by rw [g1512]; exact Vx1519.lt)
        have ne1521 : a1495 ≠ a1512 := Nat.ne_of_lt (by rw [g1512]; exact A1495.lt)
        have Vx1522 := (Vx1503.ext E1495)
        have ne1523 : a24 ≠ a1512 := Nat.ne_of_lt (by rw [g1512]; exact Vx1522.lt)
        have Vx1524 := (Vx1505.ext E1495)
        have ne1525 : p_ ≠ a1512 := Nat.ne_of_lt (by rw [g1512]; exact Vx1524.lt)
        have Vx1526 := (Vx1507.ext E1495)
        have ne1527 : t ≠ a1512 := Nat.ne_of_lt (by rw [g1512]; exact Vx1526.lt)
        have gn1528 : n0 ≤ a1512 := by rw [g1512]; exact sz1510
        have sz1529 : n0 ≤ h1512.size := (Nat.le_trans sz1510 E1512.1)
        have Od1530 : Old Z n0 h1512 := Od1511.ext E1512
        refine s_astore C at_146 (pc' := 148) rfl rfl #[.val (.long x0), .second, .val (.long x1), .second, .val (.long x2), .second, .val (.long x3), .second, .val (.long x4), .second, .val (.int x5), .val (.long (4503599627370495 : Int64)), .second, .val (.ref a1), .val (.ref a24), .val (.int (5 : Int32)), .val (.int (1 : Int32)), .val (.ref a1456), .val (.ref a1467), .val (.ref a1480), .val (.ref a1495), .val (.ref a1512), .unset, .unset] rfl ?_
        refine s_iconst C at_148 (pc' := 149) rfl (5 : Int32) rfl ?_
        refine s_newarr C (cap := 5) at_149 (pc' := 151) rfl (w1 hw) (by decide) (by decide) (by decide) (k' := 8) rfl (by decide) (n' := 40) rfl (by decide) [(.long (0 : Int64)), (.long (0 : Int64)), (.long (0 : Int64)), (.long (0 : Int64)), (.long (0 : Int64))] rfl (fun h1531 a1531 E1531 g1531 A1531 => ?_)
        have Vx1532 := (Vx1513.ext E1512)
        have ne1533 : a1 ≠ a1531 := Nat.ne_of_lt (by rw [g1531]; exact Vx1532.lt)
        have Vx1534 := (Vx1515.ext E1512)
        have ne1535 : a1456 ≠ a1531 := Nat.ne_of_lt (by rw [g1531]; exact Vx1534.lt)
        have Vx1536 := (Vx1517.ext E1512)
        have ne1537 : a1467 ≠ a1531 := Nat.ne_of_lt (by rw [g1531]; exact Vx1536.lt)
        have Vx1538 := (Vx1519.ext E1512)
        have ne1539 : a1480 ≠ a1531 := Nat.ne_of_lt (by rw [g1531]; exact Vx1538.lt)
        have Vx1540 := (A1495.ext E1512)
        have ne1541 : a1495 ≠ a1531 := Nat.ne_of_lt (by rw [g1531]; exact Vx1540.lt)
        have ne1542 : a1512 ≠ a1531 := Nat.ne_of_lt (by rw [g1531]; exact A1512.lt)
        have Vx1543 := (Vx1522.ext E1512)
        have ne1544 : a24 ≠ a1531 := Nat.ne_of_lt (by rw [g1531]; exact Vx1543.lt)
        have Vx1545 := (Vx1524.ext E1512)
        have ne1546 : p_ ≠ a1531 := Nat.ne_of_lt (by rw [g1531]; exact Vx1545.lt)
        have Vx1547 := (Vx1526.ext E1512)
        have ne1548 : t ≠ a1531 := Nat.ne_of_lt (by rw [g1531]; exact Vx1547.lt)
        have gn1549 : n0 ≤ a1531 := by rw [g1531]; exact sz1529
        have sz1550 : n0 ≤ h1531.size := (Nat.le_trans sz1529 E1531.1)
        have Od1551 : Old Z n0 h1531 := Od1530.ext E1531
        refine s_astore C at_151 (pc' := 153) rfl rfl #[.val (.long x0), .second, .val (.long x1), .second, .val (.long x2), .second, .val (.long x3), .second, .val (.long x4), .second, .val (.int x5), .val (.long (4503599627370495 : Int64)), .second, .val (.ref a1), .val (.ref a24), .val (.int (5 : Int32)), .val (.int (1 : Int32)), .val (.ref a1456), .val (.ref a1467), .val (.ref a1480), .val (.ref a1495), .val (.ref a1512), .val (.ref a1531), .unset] rfl ?_
        refine s_iload C at_153 (pc' := 155) rfl rfl ?_
        refine s_if_eq C at_155 (pc' := 158) rfl (pcY := 163) rfl (fun hc => by exfalso; revert hc; decide) (fun c1552 => ?_)
        refine s_aload C at_158 (pc' := 160) rfl rfl rfl ?_
        refine s_goto C at_160 (pc' := 165) rfl ?_
        refine s_astore C at_165 (pc' := 167) rfl rfl #[.val (.long x0), .second, .val (.long x1), .second, .val (.long x2), .second, .val (.long x3), .second, .val (.long x4), .second, .val (.int x5), .val (.long (4503599627370495 : Int64)), .second, .val (.ref a1), .val (.ref a24), .val (.int (5 : Int32)), .val (.int (1 : Int32)), .val (.ref a1456), .val (.ref a1467), .val (.ref a1480), .val (.ref a1495), .val (.ref a1512), .val (.ref a1531), .val (.ref a1)] rfl ?_
        refine s_aload C at_167 (pc' := 169) rfl rfl rfl ?_
        refine s_aload C at_169 (pc' := 171) rfl rfl rfl ?_
        refine s_aload C at_171 (pc' := 173) rfl rfl rfl ?_
        have Vx1554 := (Vx1547.ext E1531)
        have Vx1555 := (Vx1545.ext E1531)
        have Vx1556 := (Vx1536.ext E1531)
        have Vx1557 := (Vx1543.ext E1531)
        refine s_callS0 C at_173 (pc' := 176) rfl (w11 hw) (w12 hw) (w13 hw) (w14 hw) (by decide) [(.ref a1467), (.ref a24), (.ref a24)] [] pd5 rfl rfl (c_add l Z a0 hw t p_ a1467 a24 a24 (0 : Int64) (0 : Int64) (0 : Int64) (0 : Int64) (0 : Int64) y0 y1 y2 y3 y4 y0 y1 y2 y3 y4 va va h1531 n0 sz1550 Od1551 S_t S_p Vx1554 Vx1555 gn1477 Vx1556 Vx1557 Vx1557 na na la la) rfl (W := 0) rfl (by decide) (by decide) (k' := 8) rfl (by decide) (n' := 40) rfl (by decide) (fun h1553 q1553 => ?_)
        obtain ⟨K1553, z1553_0, z1553_1, z1553_2, z1553_3, z1553_4, v1553, V1553, N1553, L1553, C1553⟩ := q1553
        have sz1558 : n0 ≤ h1553.size := (Nat.le_trans sz1550 K1553.1)
        have Od1559 : Old Z n0 h1553 := Od1551.keep K1553 (allS gn1477 all0)
        refine s_aload C at_176 (pc' := 178) rfl rfl rfl ?_
        refine s_aload C at_178 (pc' := 180) rfl rfl rfl ?_
        refine s_aload C at_180 (pc' := 182) rfl rfl rfl ?_
        have Vx1561 := (Vx1554.keep K1553 (ninS ne1476 nin0))
        have Vx1562 := (Vx1555.keep K1553 (ninS ne1474 nin0))
        have Vx1563 := ((Vx1538.ext E1531).keep K1553 (ninS (Ne.symm ne1485) nin0))
        refine s_callS0 C at_182 (pc' := 185) rfl (w11 hw) (w12 hw) (w13 hw) (w14 hw) (by decide) [(.ref a1480), (.ref a1467), (.ref a1467)] [] pd5 rfl rfl (c_add l Z a0 hw t p_ a1480 a1467 a1467 (0 : Int64) (0 : Int64) (0 : Int64) (0 : Int64) (0 : Int64) z1553_0 z1553_1 z1553_2 z1553_3 z1553_4 z1553_0 z1553_1 z1553_2 z1553_3 z1553_4 v1553 v1553 h1553 n0 sz1558 Od1559 S_t S_p Vx1561 Vx1562 gn1492 Vx1563 V1553 V1553 N1553 N1553 L1553 L1553) rfl (W := 0) rfl (by decide) (by decide) (k' := 8) rfl (by decide) (n' := 40) rfl (by decide) (fun h1560 q1560 => ?_)
        obtain ⟨K1560, z1560_0, z1560_1, z1560_2, z1560_3, z1560_4, v1560, V1560, N1560, L1560, C1560⟩ := q1560
        have sz1564 : n0 ≤ h1560.size := (Nat.le_trans sz1558 K1560.1)
        have Od1565 : Old Z n0 h1560 := Od1559.keep K1560 (allS gn1492 all0)
        refine s_aload C at_185 (pc' := 187) rfl rfl rfl ?_
        refine s_aload C at_187 (pc' := 189) rfl rfl rfl ?_
        refine s_aload C at_189 (pc' := 191) rfl rfl rfl ?_
        have Vx1567 := (Vx1561.keep K1560 (ninS ne1491 nin0))
        have Vx1568 := (Vx1562.keep K1560 (ninS ne1489 nin0))
        have Vx1569 := (((Vx1540.ext E1531).keep K1553 (ninS (Ne.symm ne1501) nin0)).keep K1560 (ninS (Ne.symm ne1502) nin0))
        refine s_callS0 C at_191 (pc' := 194) rfl (w11 hw) (w12 hw) (w13 hw) (w14 hw) (by decide) [(.ref a1495), (.ref a1480), (.ref a1480)] [] pd5 rfl rfl (c_add l Z a0 hw t p_ a1495 a1480 a1480 (0 : Int64) (0 : Int64) (0 : Int64) (0 : Int64) (0 : Int64) z1560_0 z1560_1 z1560_2 z1560_3 z1560_4 z1560_0 z1560_1 z1560_2 z1560_3 z1560_4 v1560 v1560 h1560 n0 sz1564 Od1565 S_t S_p Vx1567 Vx1568 gn1509 Vx1569 V1560 V1560 N1560 N1560 L1560 L1560) rfl (W := 0) rfl (by decide) (by decide) (k' := 8) rfl (by decide) (n' := 40) rfl (by decide) (fun h1566 q1566 => ?_)
        obtain ⟨K1566, z1566_0, z1566_1, z1566_2, z1566_3, z1566_4, v1566, V1566, N1566, L1566, C1566⟩ := q1566
        have sz1570 : n0 ≤ h1566.size := (Nat.le_trans sz1564 K1566.1)
        have Od1571 : Old Z n0 h1566 := Od1565.keep K1566 (allS gn1509 all0)
        refine s_aload C at_194 (pc' := 196) rfl rfl rfl ?_
        refine s_iload C at_196 (pc' := 198) rfl rfl ?_
        refine s_iconst C at_198 (pc' := 199) rfl (1 : Int32) rfl ?_
        refine s_iand C at_199 (pc' := 200) rfl ?_
        refine s_foldI C (y := (1 : Int32)) (by decide) ?_
        refine s_if_eq C at_200 (pc' := 203) rfl (pcY := 208) rfl (fun hc => by exfalso; revert hc; decide) (fun c1572 => ?_)
        refine s_aload C at_203 (pc' := 205) rfl rfl rfl ?_
        refine s_goto C at_205 (pc' := 210) rfl ?_
        refine s_iload C at_210 (pc' := 212) rfl rfl ?_
        refine s_iconst C at_212 (pc' := 213) rfl (2 : Int32) rfl ?_
        refine s_iand C at_213 (pc' := 214) rfl ?_
        refine s_foldI C (y := (0 : Int32)) (by decide) ?_
        refine s_if_eq C at_214 (pc' := 217) rfl (pcY := 222) rfl (fun c1573 => ?_) (fun hc => by exfalso; revert hc; decide)
        refine s_aload C at_222 (pc' := 224) rfl rfl rfl ?_
        have Vx1575 := (Vx1567.keep K1566 (ninS ne1508 nin0))
        have Vx1576 := (Vx1568.keep K1566 (ninS ne1506 nin0))
        have Vx1577 := ((((A1512.ext E1531).keep K1553 (ninS (Ne.symm ne1518) nin0)).keep K1560 (ninS (Ne.symm ne1520) nin0)).keep K1566 (ninS (Ne.symm ne1521) nin0))
        have Vx1578 := (((Vx1557.keep K1553 (ninS ne1472 nin0)).keep K1560 (ninS ne1487 nin0)).keep K1566 (ninS ne1504 nin0))
        have Vx1579 := ((((Vx1534.ext E1531).keep K1553 (ninS ne1470 nin0)).keep K1560 (ninS ne1484 nin0)).keep K1566 (ninS ne1499 nin0))
        refine s_callS0 C at_224 (pc' := 227) rfl (w11 hw) (w12 hw) (w13 hw) (w14 hw) (by decide) [(.ref a1512), (.ref a24), (.ref a1456)] [] pd5 rfl rfl (c_add l Z a0 hw t p_ a1512 a24 a1456 (0 : Int64) (0 : Int64) (0 : Int64) (0 : Int64) (0 : Int64) y0 y1 y2 y3 y4 (0 : Int64) (0 : Int64) (0 : Int64) (0 : Int64) (0 : Int64) va 0 h1566 n0 sz1570 Od1571 S_t S_p Vx1575 Vx1576 gn1528 Vx1577 Vx1578 Vx1579 na own_zero la (by decide)) rfl (W := 0) rfl (by decide) (by decide) (k' := 8) rfl (by decide) (n' := 40) rfl (by decide) (fun h1574 q1574 => ?_)
        obtain ⟨K1574, z1574_0, z1574_1, z1574_2, z1574_3, z1574_4, v1574, V1574, N1574, L1574, C1574⟩ := q1574
        have sz1580 : n0 ≤ h1574.size := (Nat.le_trans sz1570 K1574.1)
        have Od1581 : Old Z n0 h1574 := Od1571.keep K1574 (allS gn1528 all0)
        refine s_aload C at_227 (pc' := 229) rfl rfl rfl ?_
        refine s_aload C at_229 (pc' := 231) rfl rfl rfl ?_
        refine s_iload C at_231 (pc' := 233) rfl rfl ?_
        refine s_iconst C at_233 (pc' := 234) rfl (4 : Int32) rfl ?_
        refine s_iand C at_234 (pc' := 235) rfl ?_
        refine s_foldI C (y := (4 : Int32)) (by decide) ?_
        refine s_if_eq C at_235 (pc' := 238) rfl (pcY := 243) rfl (fun hc => by exfalso; revert hc; decide) (fun c1582 => ?_)
        refine s_aload C at_238 (pc' := 240) rfl rfl rfl ?_
        refine s_goto C at_240 (pc' := 245) rfl ?_
        have Vx1584 := (Vx1575.keep K1574 (ninS ne1527 nin0))
        have Vx1585 := (Vx1576.keep K1574 (ninS ne1525 nin0))
        have Vx1586 := ((V1560.keep K1566 (ninS ne1502 nin0)).keep K1574 (ninS ne1520 nin0))
        refine s_callS0 C at_245 (pc' := 248) rfl (w11 hw) (w12 hw) (w13 hw) (w14 hw) (by decide) [(.ref a1512), (.ref a1512), (.ref a1480)] [] pd5 rfl rfl (c_add l Z a0 hw t p_ a1512 a1512 a1480 z1574_0 z1574_1 z1574_2 z1574_3 z1574_4 z1574_0 z1574_1 z1574_2 z1574_3 z1574_4 z1560_0 z1560_1 z1560_2 z1560_3 z1560_4 v1574 v1560 h1574 n0 sz1580 Od1581 S_t S_p Vx1584 Vx1585 gn1528 V1574 V1574 Vx1586 N1574 N1560 L1574 L1560) rfl (W := 0) rfl (by decide) (by decide) (k' := 8) rfl (by decide) (n' := 40) rfl (by decide) (fun h1583 q1583 => ?_)
        obtain ⟨K1583, z1583_0, z1583_1, z1583_2, z1583_3, z1583_4, v1583, V1583, N1583, L1583, C1583⟩ := q1583
        have sz1587 : n0 ≤ h1583.size := (Nat.le_trans sz1580 K1583.1)
        have Od1588 : Old Z n0 h1583 := Od1581.keep K1583 (allS gn1528 all0)
        refine s_aload C at_248 (pc' := 250) rfl rfl rfl ?_
        refine s_aload C at_250 (pc' := 252) rfl rfl rfl ?_
        refine s_iload C at_252 (pc' := 254) rfl rfl ?_
        refine s_bipush C at_254 (pc' := 256) rfl (8 : Int32) rfl ?_
        refine s_iand C at_256 (pc' := 257) rfl ?_
        refine s_foldI C (y := (0 : Int32)) (by decide) ?_
        refine s_if_eq C at_257 (pc' := 260) rfl (pcY := 265) rfl (fun c1589 => ?_) (fun hc => by exfalso; revert hc; decide)
        refine s_aload C at_265 (pc' := 267) rfl rfl rfl ?_
        have Vx1591 := (Vx1584.keep K1583 (ninS ne1527 nin0))
        have Vx1592 := (Vx1585.keep K1583 (ninS ne1525 nin0))
        have Vx1593 := ((Vx1579.keep K1574 (ninS ne1516 nin0)).keep K1583 (ninS ne1516 nin0))
        refine s_callS0 C at_267 (pc' := 270) rfl (w11 hw) (w12 hw) (w13 hw) (w14 hw) (by decide) [(.ref a1512), (.ref a1512), (.ref a1456)] [] pd5 rfl rfl (c_add l Z a0 hw t p_ a1512 a1512 a1456 z1583_0 z1583_1 z1583_2 z1583_3 z1583_4 z1583_0 z1583_1 z1583_2 z1583_3 z1583_4 (0 : Int64) (0 : Int64) (0 : Int64) (0 : Int64) (0 : Int64) v1583 0 h1583 n0 sz1587 Od1588 S_t S_p Vx1591 Vx1592 gn1528 V1583 V1583 Vx1593 N1583 own_zero L1583 (by decide)) rfl (W := 0) rfl (by decide) (by decide) (k' := 8) rfl (by decide) (n' := 40) rfl (by decide) (fun h1590 q1590 => ?_)
        obtain ⟨K1590, z1590_0, z1590_1, z1590_2, z1590_3, z1590_4, v1590, V1590, N1590, L1590, C1590⟩ := q1590
        have sz1594 : n0 ≤ h1590.size := (Nat.le_trans sz1587 K1590.1)
        have Od1595 : Old Z n0 h1590 := Od1588.keep K1590 (allS gn1528 all0)
        refine s_aload C at_270 (pc' := 272) rfl rfl rfl ?_
        refine s_aload C at_272 (pc' := 274) rfl rfl rfl ?_
        refine s_iload C at_274 (pc' := 276) rfl rfl ?_
        have Vx1597 := (((((((Vx1532.ext E1531).keep K1553 (ninS ne1469 nin0)).keep K1560 (ninS ne1482 nin0)).keep K1566 (ninS ne1497 nin0)).keep K1574 (ninS ne1514 nin0)).keep K1583 (ninS ne1514 nin0)).keep K1590 (ninS ne1514 nin0))
        refine s_callS0 C at_276 (pc' := 279) rfl (w22 hw) (w23 hw) (w13 hw) (w24 hw) (by decide) [(.ref a1), (.ref a1), (.int (5 : Int32))] [] pd3 rfl rfl (c_ms5 l Z a0 hw a1 a1 y0 y1 y2 y3 y4 y0 y1 y2 y3 y4 va h1590 n0 sz1594 gn4 Vx1597 Vx1597 na la) rfl (W := 0) rfl (by decide) (by decide) (k' := 8) rfl (by decide) (n' := 40) rfl (by decide) (fun h1596 q1596 => ?_)
        obtain ⟨K1596, z1596_0, z1596_1, z1596_2, z1596_3, z1596_4, v1596, V1596, N1596, L1596, C1596⟩ := q1596
        have sz1598 : n0 ≤ h1596.size := (Nat.le_trans sz1594 K1596.1)
        have Od1599 : Old Z n0 h1596 := Od1595.keep K1596 (allS gn4 all0)
        refine s_aload C at_279 (pc' := 281) rfl rfl rfl ?_
        refine s_callSI C at_281 (pc' := 284) rfl (w26 hw) (w27 hw) (w5 hw) (w28 hw) (by decide) [(.ref a1)] [] pd0 rfl rfl (c_nmz l Z a0 hw a1 z1596_0 z1596_1 z1596_2 z1596_3 z1596_4 h1596 n0 sz1598 V1596) rfl (W := 0) rfl (by decide) (by decide) (k' := 8) rfl (by decide) (n' := 40) rfl (by decide) (fun _ _ q1600 => ?_)
        obtain ⟨rfl, rfl⟩ := q1600
        refine s_foldI C (y := (1 : Int32)) (own_nmz N1596 L1596) ?_
        refine s_if_ne C at_284 (pc' := 287) rfl (pcY := 289) rfl (fun c1601 => ?_) (fun hc => by exfalso; revert hc; decide)
        refine s_aload C at_289 (pc' := 291) rfl rfl rfl ?_
        refine s_callSI C at_291 (pc' := 294) rfl (w3 hw) (w4 hw) (w5 hw) (w6 hw) (by decide) [(.ref a1)] [] pd0 rfl rfl (c_blw l Z a0 hw a1 z1596_0 z1596_1 z1596_2 z1596_3 z1596_4 h1596 n0 sz1598 V1596) rfl (W := 0) rfl (by decide) (by decide) (k' := 8) rfl (by decide) (n' := 40) rfl (by decide) (fun _ _ q1602 => ?_)
        obtain ⟨rfl, rfl⟩ := q1602
        refine s_foldI C (y := (1 : Int32)) ((own_blw N1596).1 L1596) ?_
        refine s_if_eq C at_294 (pc' := 297) rfl (pcY := 313) rfl (fun hc => by exfalso; revert hc; decide) (fun c1603 => ?_)
        refine s_aload C at_297 (pc' := 299) rfl rfl rfl ?_
        refine s_aload C at_299 (pc' := 301) rfl rfl rfl ?_
        have hab : (v1596 - v1590) % 115792089210356248762697446949407573530086143415290314195533631308867097853951 = 0 := own_hab5 C1553 C1560 C1566 C1574 C1583 C1590 C1596
        have Vx1605 := ((Vx1591.keep K1590 (ninS ne1527 nin0)).keep K1596 (ninS ne3 nin0))
        have Vx1606 := ((Vx1592.keep K1590 (ninS ne1525 nin0)).keep K1596 (ninS ne2 nin0))
        have Vx1607 := (V1590.keep K1596 (ninS (Ne.symm ne1514) nin0))
        refine s_callSL C at_301 (pc' := 304) rfl (w31 hw) (w32 hw) (w13 hw) (w33 hw) (by decide) [(.ref a1), (.ref a1512)] [] pd2 rfl rfl (c_eq l Z a0 hw t p_ a1 a1512 z1596_0 z1596_1 z1596_2 z1596_3 z1596_4 z1590_0 z1590_1 z1590_2 z1590_3 z1590_4 v1596 v1590 h1596 n0 sz1598 Od1599 S_t S_p Vx1605 Vx1606 V1596 Vx1607 N1596 N1590 L1596 L1590 hab) rfl (W := 0) rfl (by decide) (by decide) (k' := 10) rfl (by decide) (n' := 50) rfl (by decide) (fun _ h1604 q1604 => ?_)
        obtain ⟨rfl, K1604⟩ := q1604
        have sz1608 : n0 ≤ h1604.size := (Nat.le_trans sz1598 K1604.1)
        have Od1609 : Old Z n0 h1604 := Od1599.keep K1604 all0
        refine s_lconst C at_304 (pc' := 305) rfl (1 : Int64) rfl ?_
        refine s_lc_ne C at_305 (pc1 := 306) rfl at_306 (pc' := 309) rfl (pcY := 313) rfl (fun hc => by exfalso; revert hc; decide) (fun c1610 => ?_)
        refine s_iconst C at_309 (pc' := 310) rfl (1 : Int32) rfl ?_
        refine s_goto C at_310 (pc' := 314) rfl ?_
        exact s_retN C (by simp) at_314 (by decide) (by decide) rfl
    · subst q
      refine s_istoreP C at_106 (pc' := 108) rfl #[.val (.long x0), .second, .val (.long x1), .second, .val (.long x2), .second, .val (.long x3), .second, .val (.long x4), .second, .val (.int x5), .val (.long (4503599627370495 : Int64)), .second, .val (.ref a1), .val (.ref a24), .val (.int (6 : Int32)), .unset, .unset, .unset, .unset, .unset, .unset, .unset, .unset] rfl ?_
      refine s_iload C at_108 (pc' := 110) rfl rfl ?_
      refine s_bipush C at_110 (pc' := 112) rfl (8 : Int32) rfl ?_
      refine s_iand C at_112 (pc' := 113) rfl ?_
      refine s_if_eq C at_113 (pc' := 116) rfl (pcY := 120) rfl (fun c1611 => ?_) (fun c1611 => ?_)
      · skip
        refine s_iconst C at_120 (pc' := 121) rfl (0 : Int32) rfl ?_
        refine s_istoreP C at_121 (pc' := 123) rfl #[.val (.long x0), .second, .val (.long x1), .second, .val (.long x2), .second, .val (.long x3), .second, .val (.long x4), .second, .val (.int x5), .val (.long (4503599627370495 : Int64)), .second, .val (.ref a1), .val (.ref a24), .val (.int (6 : Int32)), .val (.int (0 : Int32)), .unset, .unset, .unset, .unset, .unset, .unset, .unset] rfl ?_
        refine s_iconst C at_123 (pc' := 124) rfl (5 : Int32) rfl ?_
        refine s_newarr C (cap := 5) at_124 (pc' := 126) rfl (w1 hw) (by decide) (by decide) (by decide) (k' := 3) rfl (by decide) (n' := 15) rfl (by decide) [(.long (0 : Int64)), (.long (0 : Int64)), (.long (0 : Int64)), (.long (0 : Int64)), (.long (0 : Int64))] rfl (fun h1612 a1612 E1612 g1612 A1612 => ?_)
        have Vx1613 := (Vx49.other W50 ne25)
        have ne1614 : a1 ≠ a1612 := Nat.ne_of_lt (by rw [g1612]; exact Vx1613.lt)
        have ne1615 : a24 ≠ a1612 := Nat.ne_of_lt (by rw [g1612]; exact A50.lt)
        have Vx1616 := ((((((Vx26.ext E24).other W34 ne27).other W38 ne27).other W42 ne27).other W46 ne27).other W50 ne27)
        have ne1617 : p_ ≠ a1612 := Nat.ne_of_lt (by rw [g1612]; exact Vx1616.lt)
        have Vx1618 := ((((((Vx28.ext E24).other W34 ne29).other W38 ne29).other W42 ne29).other W46 ne29).other W50 ne29)
        have ne1619 : t ≠ a1612 := Nat.ne_of_lt (by rw [g1612]; exact Vx1618.lt)
        have gn1620 : n0 ≤ a1612 := by rw [g1612]; exact sz51
        have sz1621 : n0 ≤ h1612.size := (Nat.le_trans sz51 E1612.1)
        have Od1622 : Old Z n0 h1612 := Od52.ext E1612
        refine s_astore C at_126 (pc' := 128) rfl rfl #[.val (.long x0), .second, .val (.long x1), .second, .val (.long x2), .second, .val (.long x3), .second, .val (.long x4), .second, .val (.int x5), .val (.long (4503599627370495 : Int64)), .second, .val (.ref a1), .val (.ref a24), .val (.int (6 : Int32)), .val (.int (0 : Int32)), .val (.ref a1612), .unset, .unset, .unset, .unset, .unset, .unset] rfl ?_
        refine s_iconst C at_128 (pc' := 129) rfl (5 : Int32) rfl ?_
        refine s_newarr C (cap := 5) at_129 (pc' := 131) rfl (w1 hw) (by decide) (by decide) (by decide) (k' := 4) rfl (by decide) (n' := 20) rfl (by decide) [(.long (0 : Int64)), (.long (0 : Int64)), (.long (0 : Int64)), (.long (0 : Int64)), (.long (0 : Int64))] rfl (fun h1623 a1623 E1623 g1623 A1623 => ?_)
        have Vx1624 := (Vx1613.ext E1612)
        have ne1625 : a1 ≠ a1623 := Nat.ne_of_lt (by rw [g1623]; exact Vx1624.lt)
        have ne1626 : a1612 ≠ a1623 := Nat.ne_of_lt (by rw [g1623]; exact A1612.lt)
        have Vx1627 := (A50.ext E1612)
        have ne1628 : a24 ≠ a1623 := Nat.ne_of_lt (by rw [g1623]; exact Vx1627.lt)
        have Vx1629 := (Vx1616.ext E1612)
        have ne1630 : p_ ≠ a1623 := Nat.ne_of_lt (by rw [g1623]; exact Vx1629.lt)
        have Vx1631 := (Vx1618.ext E1612)
        have ne1632 : t ≠ a1623 := Nat.ne_of_lt (by rw [g1623]; exact Vx1631.lt)
        have gn1633 : n0 ≤ a1623 := by rw [g1623]; exact sz1621
        have sz1634 : n0 ≤ h1623.size := (Nat.le_trans sz1621 E1623.1)
        have Od1635 : Old Z n0 h1623 := Od1622.ext E1623
        refine s_astore C at_131 (pc' := 133) rfl rfl #[.val (.long x0), .second, .val (.long x1), .second, .val (.long x2), .second, .val (.long x3), .second, .val (.long x4), .second, .val (.int x5), .val (.long (4503599627370495 : Int64)), .second, .val (.ref a1), .val (.ref a24), .val (.int (6 : Int32)), .val (.int (0 : Int32)), .val (.ref a1612), .val (.ref a1623), .unset, .unset, .unset, .unset, .unset] rfl ?_
        refine s_iconst C at_133 (pc' := 134) rfl (5 : Int32) rfl ?_
        refine s_newarr C (cap := 5) at_134 (pc' := 136) rfl (w1 hw) (by decide) (by decide) (by decide) (k' := 5) rfl (by decide) (n' := 25) rfl (by decide) [(.long (0 : Int64)), (.long (0 : Int64)), (.long (0 : Int64)), (.long (0 : Int64)), (.long (0 : Int64))] rfl (fun h1636 a1636 E1636 g1636 A1636 => ?_)
        have Vx1637 := (Vx1624.ext E1623)
        have ne1638 : a1 ≠ a1636 := Nat.ne_of_lt (by rw [g1636]; exact Vx1637.lt)
        have Vx1639 := (A1612.ext E1623)
        have ne1640 : a1612 ≠ a1636 := Nat.ne_of_lt (by rw [g1636]; exact Vx1639.lt)
        have ne1641 : a1623 ≠ a1636 := Nat.ne_of_lt (by rw [g1636]; exact A1623.lt)
        have Vx1642 := (Vx1627.ext E1623)
        have ne1643 : a24 ≠ a1636 := Nat.ne_of_lt (by rw [g1636]; exact Vx1642.lt)
        have Vx1644 := (Vx1629.ext E1623)
        have ne1645 : p_ ≠ a1636 := Nat.ne_of_lt (by rw [g1636]; exact Vx1644.lt)
        have Vx1646 := (Vx1631.ext E1623)
        have ne1647 : t ≠ a1636 := Nat.ne_of_lt (by rw [g1636]; exact Vx1646.lt)
        have gn1648 : n0 ≤ a1636 := by rw [g1636]; exact sz1634
        have sz1649 : n0 ≤ h1636.size := (Nat.le_trans sz1634 E1636.1)
        have Od1650 : Old Z n0 h1636 := Od1635.ext E1636
        refine s_astore C at_136 (pc' := 138) rfl rfl #[.val (.long x0), .second, .val (.long x1), .second, .val (.long x2), .second, .val (.long x3), .second, .val (.long x4), .second, .val (.int x5), .val (.long (4503599627370495 : Int64)), .second, .val (.ref a1), .val (.ref a24), .val (.int (6 : Int32)), .val (.int (0 : Int32)), .val (.ref a1612), .val (.ref a1623), .val (.ref a1636), .unset, .unset, .unset, .unset] rfl ?_
        refine s_iconst C at_138 (pc' := 139) rfl (5 : Int32) rfl ?_
        refine s_newarr C (cap := 5) at_139 (pc' := 141) rfl (w1 hw) (by decide) (by decide) (by decide) (k' := 6) rfl (by decide) (n' := 30) rfl (by decide) [(.long (0 : Int64)), (.long (0 : Int64)), (.long (0 : Int64)), (.long (0 : Int64)), (.long (0 : Int64))] rfl (fun h1651 a1651 E1651 g1651 A1651 => ?_)
        have Vx1652 := (Vx1637.ext E1636)
        have ne1653 : a1 ≠ a1651 := Nat.ne_of_lt (by rw [g1651]; exact Vx1652.lt)
        have Vx1654 := (Vx1639.ext E1636)
        have ne1655 : a1612 ≠ a1651 := Nat.ne_of_lt (by rw [g1651]; exact Vx1654.lt)
        have Vx1656 := (A1623.ext E1636)
        have ne1657 : a1623 ≠ a1651 := Nat.ne_of_lt (by rw [g1651]; exact Vx1656.lt)
        have ne1658 : a1636 ≠ a1651 := Nat.ne_of_lt (by rw [g1651]; exact A1636.lt)
        have Vx1659 := (Vx1642.ext E1636)
        have ne1660 : a24 ≠ a1651 := Nat.ne_of_lt (by rw [g1651]; exact Vx1659.lt)
        have Vx1661 := (Vx1644.ext E1636)
        have ne1662 : p_ ≠ a1651 := Nat.ne_of_lt (by rw [g1651]; exact Vx1661.lt)
        have Vx1663 := (Vx1646.ext E1636)
        have ne1664 : t ≠ a1651 := Nat.ne_of_lt (by rw [g1651]; exact Vx1663.lt)
        have gn1665 : n0 ≤ a1651 := by rw [g1651]; exact sz1649
        have sz1666 : n0 ≤ h1651.size := (Nat.le_trans sz1649 E1651.1)
        have Od1667 : Old Z n0 h1651 := Od1650.ext E1651
        refine s_astore C at_141 (pc' := 143) rfl rfl #[.val (.long x0), .second, .val (.long x1), .second, .val (.long x2), .second, .val (.long x3), .second, .val (.long x4), .second, .val (.int x5), .val (.long (4503599627370495 : Int64)), .second, .val (.ref a1), .val (.ref a24), .val (.int (6 : Int32)), .val (.int (0 : Int32)), .val (.ref a1612), .val (.ref a1623), .val (.ref a1636), .val (.ref a1651), .unset, .unset, .unset] rfl ?_
        refine s_iconst C at_143 (pc' := 144) rfl (5 : Int32) rfl ?_
        refine s_newarr C (cap := 5) at_144 (pc' := 146) rfl (w1 hw) (by decide) (by decide) (by decide) (k' := 7) rfl (by decide) (n' := 35) rfl (by decide) [(.long (0 : Int64)), (.long (0 : Int64)), (.long (0 : Int64)), (.long (0 : Int64)), (.long (0 : Int64))] rfl (fun h1668 a1668 E1668 g1668 A1668 => ?_)
        have Vx1669 := (Vx1652.ext E1651)
        have ne1670 : a1 ≠ a1668 := Nat.ne_of_lt (by rw [g1668]; exact Vx1669.lt)
        have Vx1671 := (Vx1654.ext E1651)
        have ne1672 : a1612 ≠ a1668 := Nat.ne_of_lt (by rw [g1668]; exact Vx1671.lt)
        have Vx1673 := (Vx1656.ext E1651)
        have ne1674 : a1623 ≠ a1668 := Nat.ne_of_lt (by rw [g1668]; exact Vx1673.lt)
        have Vx1675 := (A1636.ext E1651)
        have ne1676 : a1636 ≠ a1668 := Nat.ne_of_lt (by rw [g1668]; exact Vx1675.lt)
        have ne1677 : a1651 ≠ a1668 := Nat.ne_of_lt (by rw [g1668]; exact A1651.lt)
        have Vx1678 := (Vx1659.ext E1651)
        have ne1679 : a24 ≠ a1668 := Nat.ne_of_lt (by rw [g1668]; exact Vx1678.lt)
        have Vx1680 := (Vx1661.ext E1651)
        have ne1681 : p_ ≠ a1668 := Nat.ne_of_lt (by rw [g1668]; exact Vx1680.lt)
        have Vx1682 := (Vx1663.ext E1651)
        have ne1683 : t ≠ a1668 := Nat.ne_of_lt (by rw [g1668]; exact Vx1682.lt)
        have gn1684 : n0 ≤ a1668 := by rw [g1668]; exact sz1666
        have sz1685 : n0 ≤ h1668.size := (Nat.le_trans sz1666 E1668.1)
        have Od1686 : Old Z n0 h1668 := Od1667.ext E1668
        refine s_astore C at_146 (pc' := 148) rfl rfl #[.val (.long x0), .second, .val (.long x1), .second, .val (.long x2), .second, .val (.long x3), .second, .val (.long x4), .second, .val (.int x5), .val (.long (4503599627370495 : Int64)), .second, .val (.ref a1), .val (.ref a24), .val (.int (6 : Int32)), .val (.int (0 : Int32)), .val (.ref a1612), .val (.ref a1623), .val (.ref a1636), .val (.ref a1651), .val (.ref a1668), .unset, .unset] rfl ?_
        refine s_iconst C at_148 (pc' := 149) rfl (5 : Int32) rfl ?_
        refine s_newarr C (cap := 5) at_149 (pc' := 151) rfl (w1 hw) (by decide) (by decide) (by decide) (k' := 8) rfl (by decide) (n' := 40) rfl (by decide) [(.long (0 : Int64)), (.long (0 : Int64)), (.long (0 : Int64)), (.long (0 : Int64)), (.long (0 : Int64))] rfl (fun h1687 a1687 E1687 g1687 A1687 => ?_)
        have Vx1688 := (Vx1669.ext E1668)
        have ne1689 : a1 ≠ a1687 := Nat.ne_of_lt (by rw [g1687]; exact Vx1688.lt)
        have Vx1690 := (Vx1671.ext E1668)
        have ne1691 : a1612 ≠ a1687 := Nat.ne_of_lt (by rw [g1687]; exact Vx1690.lt)
        have Vx1692 := (Vx1673.ext E1668)
        have ne1693 : a1623 ≠ a1687 := Nat.ne_of_lt (by rw [g1687]; exact Vx1692.lt)
        have Vx1694 := (Vx1675.ext E1668)
        have ne1695 : a1636 ≠ a1687 := Nat.ne_of_lt (by rw [g1687]; exact Vx1694.lt)
        have Vx1696 := (A1651.ext E1668)
        have ne1697 : a1651 ≠ a1687 := Nat.ne_of_lt (by rw [g1687]; exact Vx1696.lt)
        have ne1698 : a1668 ≠ a1687 := Nat.ne_of_lt (by rw [g1687]; exact A1668.lt)
        have Vx1699 := (Vx1678.ext E1668)
        have ne1700 : a24 ≠ a1687 := Nat.ne_of_lt (by rw [g1687]; exact Vx1699.lt)
        have Vx1701 := (Vx1680.ext E1668)
        have ne1702 : p_ ≠ a1687 := Nat.ne_of_lt (by rw [g1687]; exact Vx1701.lt)
        have Vx1703 := (Vx1682.ext E1668)
        have ne1704 : t ≠ a1687 := Nat.ne_of_lt (by rw [g1687]; exact Vx1703.lt)
        have gn1705 : n0 ≤ a1687 := by rw [g1687]; exact sz1685
        have sz1706 : n0 ≤ h1687.size := (Nat.le_trans sz1685 E1687.1)
        have Od1707 : Old Z n0 h1687 := Od1686.ext E1687
        refine s_astore C at_151 (pc' := 153) rfl rfl #[.val (.long x0), .second, .val (.long x1), .second, .val (.long x2), .second, .val (.long x3), .second, .val (.long x4), .second, .val (.int x5), .val (.long (4503599627370495 : Int64)), .second, .val (.ref a1), .val (.ref a24), .val (.int (6 : Int32)), .val (.int (0 : Int32)), .val (.ref a1612), .val (.ref a1623), .val (.ref a1636), .val (.ref a1651), .val (.ref a1668), .val (.ref a1687), .unset] rfl ?_
        refine s_iload C at_153 (pc' := 155) rfl rfl ?_
        refine s_if_eq C at_155 (pc' := 158) rfl (pcY := 163) rfl (fun c1708 => ?_) (fun hc => by exfalso; revert hc; decide)
        refine s_aload C at_163 (pc' := 165) rfl rfl rfl ?_
        refine s_astore C at_165 (pc' := 167) rfl rfl #[.val (.long x0), .second, .val (.long x1), .second, .val (.long x2), .second, .val (.long x3), .second, .val (.long x4), .second, .val (.int x5), .val (.long (4503599627370495 : Int64)), .second, .val (.ref a1), .val (.ref a24), .val (.int (6 : Int32)), .val (.int (0 : Int32)), .val (.ref a1612), .val (.ref a1623), .val (.ref a1636), .val (.ref a1651), .val (.ref a1668), .val (.ref a1687), .val (.ref a1687)] rfl ?_
        refine s_aload C at_167 (pc' := 169) rfl rfl rfl ?_
        refine s_aload C at_169 (pc' := 171) rfl rfl rfl ?_
        refine s_aload C at_171 (pc' := 173) rfl rfl rfl ?_
        have Vx1710 := (Vx1703.ext E1687)
        have Vx1711 := (Vx1701.ext E1687)
        have Vx1712 := (Vx1692.ext E1687)
        have Vx1713 := (Vx1699.ext E1687)
        refine s_callS0 C at_173 (pc' := 176) rfl (w11 hw) (w12 hw) (w13 hw) (w14 hw) (by decide) [(.ref a1623), (.ref a24), (.ref a24)] [] pd5 rfl rfl (c_add l Z a0 hw t p_ a1623 a24 a24 (0 : Int64) (0 : Int64) (0 : Int64) (0 : Int64) (0 : Int64) y0 y1 y2 y3 y4 y0 y1 y2 y3 y4 va va h1687 n0 sz1706 Od1707 S_t S_p Vx1710 Vx1711 gn1633 Vx1712 Vx1713 Vx1713 na na la la) rfl (W := 0) rfl (by decide) (by decide) (k' := 8) rfl (by decide) (n' := 40) rfl (by decide) (fun h1709 q1709 => ?_)
        obtain ⟨K1709, z1709_0, z1709_1, z1709_2, z1709_3, z1709_4, v1709, V1709, N1709, L1709, C1709⟩ := q1709
        have sz1714 : n0 ≤ h1709.size := (Nat.le_trans sz1706 K1709.1)
        have Od1715 : Old Z n0 h1709 := Od1707.keep K1709 (allS gn1633 all0)
        refine s_aload C at_176 (pc' := 178) rfl rfl rfl ?_
        refine s_aload C at_178 (pc' := 180) rfl rfl rfl ?_
        refine s_aload C at_180 (pc' := 182) rfl rfl rfl ?_
        have Vx1717 := (Vx1710.keep K1709 (ninS ne1632 nin0))
        have Vx1718 := (Vx1711.keep K1709 (ninS ne1630 nin0))
        have Vx1719 := ((Vx1694.ext E1687).keep K1709 (ninS (Ne.symm ne1641) nin0))
        refine s_callS0 C at_182 (pc' := 185) rfl (w11 hw) (w12 hw) (w13 hw) (w14 hw) (by decide) [(.ref a1636), (.ref a1623), (.ref a1623)] [] pd5 rfl rfl (c_add l Z a0 hw t p_ a1636 a1623 a1623 (0 : Int64) (0 : Int64) (0 : Int64) (0 : Int64) (0 : Int64) z1709_0 z1709_1 z1709_2 z1709_3 z1709_4 z1709_0 z1709_1 z1709_2 z1709_3 z1709_4 v1709 v1709 h1709 n0 sz1714 Od1715 S_t S_p Vx1717 Vx1718 gn1648 Vx1719 V1709 V1709 N1709 N1709 L1709 L1709) rfl (W := 0) rfl (by decide) (by decide) (k' := 8) rfl (by decide) (n' := 40) rfl (by decide) (fun h1716 q1716 => ?_)
        obtain ⟨K1716, z1716_0, z1716_1, z1716_2, z1716_3, z1716_4, v1716, V1716, N1716, L1716, C1716⟩ := q1716
        have sz1720 : n0 ≤ h1716.size := (Nat.le_trans sz1714 K1716.1)
        have Od1721 : Old Z n0 h1716 := Od1715.keep K1716 (allS gn1648 all0)
        refine s_aload C at_185 (pc' := 187) rfl rfl rfl ?_
        refine s_aload C at_187 (pc' := 189) rfl rfl rfl ?_
        refine s_aload C at_189 (pc' := 191) rfl rfl rfl ?_
        have Vx1723 := (Vx1717.keep K1716 (ninS ne1647 nin0))
        have Vx1724 := (Vx1718.keep K1716 (ninS ne1645 nin0))
        have Vx1725 := (((Vx1696.ext E1687).keep K1709 (ninS (Ne.symm ne1657) nin0)).keep K1716 (ninS (Ne.symm ne1658) nin0))
        refine s_callS0 C at_191 (pc' := 194) rfl (w11 hw) (w12 hw) (w13 hw) (w14 hw) (by decide) [(.ref a1651), (.ref a1636), (.ref a1636)] [] pd5 rfl rfl (c_add l Z a0 hw t p_ a1651 a1636 a1636 (0 : Int64) (0 : Int64) (0 : Int64) (0 : Int64) (0 : Int64) z1716_0 z1716_1 z1716_2 z1716_3 z1716_4 z1716_0 z1716_1 z1716_2 z1716_3 z1716_4 v1716 v1716 h1716 n0 sz1720 Od1721 S_t S_p Vx1723 Vx1724 gn1665 Vx1725 V1716 V1716 N1716 N1716 L1716 L1716) rfl (W := 0) rfl (by decide) (by decide) (k' := 8) rfl (by decide) (n' := 40) rfl (by decide) (fun h1722 q1722 => ?_)
        obtain ⟨K1722, z1722_0, z1722_1, z1722_2, z1722_3, z1722_4, v1722, V1722, N1722, L1722, C1722⟩ := q1722
        have sz1726 : n0 ≤ h1722.size := (Nat.le_trans sz1720 K1722.1)
        have Od1727 : Old Z n0 h1722 := Od1721.keep K1722 (allS gn1665 all0)
        refine s_aload C at_194 (pc' := 196) rfl rfl rfl ?_
        refine s_iload C at_196 (pc' := 198) rfl rfl ?_
        refine s_iconst C at_198 (pc' := 199) rfl (1 : Int32) rfl ?_
        refine s_iand C at_199 (pc' := 200) rfl ?_
        refine s_foldI C (y := (0 : Int32)) (by decide) ?_
        refine s_if_eq C at_200 (pc' := 203) rfl (pcY := 208) rfl (fun c1728 => ?_) (fun hc => by exfalso; revert hc; decide)
        refine s_aload C at_208 (pc' := 210) rfl rfl rfl ?_
        refine s_iload C at_210 (pc' := 212) rfl rfl ?_
        refine s_iconst C at_212 (pc' := 213) rfl (2 : Int32) rfl ?_
        refine s_iand C at_213 (pc' := 214) rfl ?_
        refine s_foldI C (y := (2 : Int32)) (by decide) ?_
        refine s_if_eq C at_214 (pc' := 217) rfl (pcY := 222) rfl (fun hc => by exfalso; revert hc; decide) (fun c1729 => ?_)
        refine s_aload C at_217 (pc' := 219) rfl rfl rfl ?_
        refine s_goto C at_219 (pc' := 224) rfl ?_
        have Vx1731 := (Vx1723.keep K1722 (ninS ne1664 nin0))
        have Vx1732 := (Vx1724.keep K1722 (ninS ne1662 nin0))
        have Vx1733 := ((((A1668.ext E1687).keep K1709 (ninS (Ne.symm ne1674) nin0)).keep K1716 (ninS (Ne.symm ne1676) nin0)).keep K1722 (ninS (Ne.symm ne1677) nin0))
        have Vx1734 := ((((Vx1690.ext E1687).keep K1709 (ninS ne1626 nin0)).keep K1716 (ninS ne1640 nin0)).keep K1722 (ninS ne1655 nin0))
        have Vx1735 := ((V1709.keep K1716 (ninS ne1641 nin0)).keep K1722 (ninS ne1657 nin0))
        refine s_callS0 C at_224 (pc' := 227) rfl (w11 hw) (w12 hw) (w13 hw) (w14 hw) (by decide) [(.ref a1668), (.ref a1612), (.ref a1623)] [] pd5 rfl rfl (c_add l Z a0 hw t p_ a1668 a1612 a1623 (0 : Int64) (0 : Int64) (0 : Int64) (0 : Int64) (0 : Int64) (0 : Int64) (0 : Int64) (0 : Int64) (0 : Int64) (0 : Int64) z1709_0 z1709_1 z1709_2 z1709_3 z1709_4 0 v1709 h1722 n0 sz1726 Od1727 S_t S_p Vx1731 Vx1732 gn1684 Vx1733 Vx1734 Vx1735 own_zero N1709 (by decide) L1709) rfl (W := 0) rfl (by decide) (by decide) (k' := 8) rfl (by decide) (n' := 40) rfl (by decide) (fun h1730 q1730 => ?_)
        obtain ⟨K1730, z1730_0, z1730_1, z1730_2, z1730_3, z1730_4, v1730, V1730, N1730, L1730, C1730⟩ := q1730
        have sz1736 : n0 ≤ h1730.size := (Nat.le_trans sz1726 K1730.1)
        have Od1737 : Old Z n0 h1730 := Od1727.keep K1730 (allS gn1684 all0)
        refine s_aload C at_227 (pc' := 229) rfl rfl rfl ?_
        refine s_aload C at_229 (pc' := 231) rfl rfl rfl ?_
        refine s_iload C at_231 (pc' := 233) rfl rfl ?_
        refine s_iconst C at_233 (pc' := 234) rfl (4 : Int32) rfl ?_
        refine s_iand C at_234 (pc' := 235) rfl ?_
        refine s_foldI C (y := (4 : Int32)) (by decide) ?_
        refine s_if_eq C at_235 (pc' := 238) rfl (pcY := 243) rfl (fun hc => by exfalso; revert hc; decide) (fun c1738 => ?_)
        refine s_aload C at_238 (pc' := 240) rfl rfl rfl ?_
        refine s_goto C at_240 (pc' := 245) rfl ?_
        have Vx1740 := (Vx1731.keep K1730 (ninS ne1683 nin0))
        have Vx1741 := (Vx1732.keep K1730 (ninS ne1681 nin0))
        have Vx1742 := ((V1716.keep K1722 (ninS ne1658 nin0)).keep K1730 (ninS ne1676 nin0))
        refine s_callS0 C at_245 (pc' := 248) rfl (w11 hw) (w12 hw) (w13 hw) (w14 hw) (by decide) [(.ref a1668), (.ref a1668), (.ref a1636)] [] pd5 rfl rfl (c_add l Z a0 hw t p_ a1668 a1668 a1636 z1730_0 z1730_1 z1730_2 z1730_3 z1730_4 z1730_0 z1730_1 z1730_2 z1730_3 z1730_4 z1716_0 z1716_1 z1716_2 z1716_3 z1716_4 v1730 v1716 h1730 n0 sz1736 Od1737 S_t S_p Vx1740 Vx1741 gn1684 V1730 V1730 Vx1742 N1730 N1716 L1730 L1716) rfl (W := 0) rfl (by decide) (by decide) (k' := 8) rfl (by decide) (n' := 40) rfl (by decide) (fun h1739 q1739 => ?_)
        obtain ⟨K1739, z1739_0, z1739_1, z1739_2, z1739_3, z1739_4, v1739, V1739, N1739, L1739, C1739⟩ := q1739
        have sz1743 : n0 ≤ h1739.size := (Nat.le_trans sz1736 K1739.1)
        have Od1744 : Old Z n0 h1739 := Od1737.keep K1739 (allS gn1684 all0)
        refine s_aload C at_248 (pc' := 250) rfl rfl rfl ?_
        refine s_aload C at_250 (pc' := 252) rfl rfl rfl ?_
        refine s_iload C at_252 (pc' := 254) rfl rfl ?_
        refine s_bipush C at_254 (pc' := 256) rfl (8 : Int32) rfl ?_
        refine s_iand C at_256 (pc' := 257) rfl ?_
        refine s_foldI C (y := (0 : Int32)) (by decide) ?_
        refine s_if_eq C at_257 (pc' := 260) rfl (pcY := 265) rfl (fun c1745 => ?_) (fun hc => by exfalso; revert hc; decide)
        refine s_aload C at_265 (pc' := 267) rfl rfl rfl ?_
        have Vx1747 := (Vx1740.keep K1739 (ninS ne1683 nin0))
        have Vx1748 := (Vx1741.keep K1739 (ninS ne1681 nin0))
        have Vx1749 := ((Vx1734.keep K1730 (ninS ne1672 nin0)).keep K1739 (ninS ne1672 nin0))
        refine s_callS0 C at_267 (pc' := 270) rfl (w11 hw) (w12 hw) (w13 hw) (w14 hw) (by decide) [(.ref a1668), (.ref a1668), (.ref a1612)] [] pd5 rfl rfl (c_add l Z a0 hw t p_ a1668 a1668 a1612 z1739_0 z1739_1 z1739_2 z1739_3 z1739_4 z1739_0 z1739_1 z1739_2 z1739_3 z1739_4 (0 : Int64) (0 : Int64) (0 : Int64) (0 : Int64) (0 : Int64) v1739 0 h1739 n0 sz1743 Od1744 S_t S_p Vx1747 Vx1748 gn1684 V1739 V1739 Vx1749 N1739 own_zero L1739 (by decide)) rfl (W := 0) rfl (by decide) (by decide) (k' := 8) rfl (by decide) (n' := 40) rfl (by decide) (fun h1746 q1746 => ?_)
        obtain ⟨K1746, z1746_0, z1746_1, z1746_2, z1746_3, z1746_4, v1746, V1746, N1746, L1746, C1746⟩ := q1746
        have sz1750 : n0 ≤ h1746.size := (Nat.le_trans sz1743 K1746.1)
        have Od1751 : Old Z n0 h1746 := Od1744.keep K1746 (allS gn1684 all0)
        refine s_aload C at_270 (pc' := 272) rfl rfl rfl ?_
        refine s_aload C at_272 (pc' := 274) rfl rfl rfl ?_
        refine s_iload C at_274 (pc' := 276) rfl rfl ?_
        have Vx1753 := ((((((A1687.keep K1709 (ninS (Ne.symm ne1693) nin0)).keep K1716 (ninS (Ne.symm ne1695) nin0)).keep K1722 (ninS (Ne.symm ne1697) nin0)).keep K1730 (ninS (Ne.symm ne1698) nin0)).keep K1739 (ninS (Ne.symm ne1698) nin0)).keep K1746 (ninS (Ne.symm ne1698) nin0))
        have Vx1754 := (((((((Vx1688.ext E1687).keep K1709 (ninS ne1625 nin0)).keep K1716 (ninS ne1638 nin0)).keep K1722 (ninS ne1653 nin0)).keep K1730 (ninS ne1670 nin0)).keep K1739 (ninS ne1670 nin0)).keep K1746 (ninS ne1670 nin0))
        refine s_callS0 C at_276 (pc' := 279) rfl (w22 hw) (w23 hw) (w13 hw) (w24 hw) (by decide) [(.ref a1687), (.ref a1), (.int (6 : Int32))] [] pd3 rfl rfl (c_ms6 l Z a0 hw a1687 a1 (0 : Int64) (0 : Int64) (0 : Int64) (0 : Int64) (0 : Int64) y0 y1 y2 y3 y4 va h1746 n0 sz1750 gn1705 Vx1753 Vx1754 na la) rfl (W := 0) rfl (by decide) (by decide) (k' := 8) rfl (by decide) (n' := 40) rfl (by decide) (fun h1752 q1752 => ?_)
        obtain ⟨K1752, z1752_0, z1752_1, z1752_2, z1752_3, z1752_4, v1752, V1752, N1752, L1752, C1752⟩ := q1752
        have sz1755 : n0 ≤ h1752.size := (Nat.le_trans sz1750 K1752.1)
        have Od1756 : Old Z n0 h1752 := Od1751.keep K1752 (allS gn1705 all0)
        refine s_aload C at_279 (pc' := 281) rfl rfl rfl ?_
        refine s_callSI C at_281 (pc' := 284) rfl (w26 hw) (w27 hw) (w5 hw) (w28 hw) (by decide) [(.ref a1687)] [] pd0 rfl rfl (c_nmz l Z a0 hw a1687 z1752_0 z1752_1 z1752_2 z1752_3 z1752_4 h1752 n0 sz1755 V1752) rfl (W := 0) rfl (by decide) (by decide) (k' := 8) rfl (by decide) (n' := 40) rfl (by decide) (fun _ _ q1757 => ?_)
        obtain ⟨rfl, rfl⟩ := q1757
        refine s_foldI C (y := (1 : Int32)) (own_nmz N1752 L1752) ?_
        refine s_if_ne C at_284 (pc' := 287) rfl (pcY := 289) rfl (fun c1758 => ?_) (fun hc => by exfalso; revert hc; decide)
        refine s_aload C at_289 (pc' := 291) rfl rfl rfl ?_
        refine s_callSI C at_291 (pc' := 294) rfl (w3 hw) (w4 hw) (w5 hw) (w6 hw) (by decide) [(.ref a1687)] [] pd0 rfl rfl (c_blw l Z a0 hw a1687 z1752_0 z1752_1 z1752_2 z1752_3 z1752_4 h1752 n0 sz1755 V1752) rfl (W := 0) rfl (by decide) (by decide) (k' := 8) rfl (by decide) (n' := 40) rfl (by decide) (fun _ _ q1759 => ?_)
        obtain ⟨rfl, rfl⟩ := q1759
        refine s_foldI C (y := (1 : Int32)) ((own_blw N1752).1 L1752) ?_
        refine s_if_eq C at_294 (pc' := 297) rfl (pcY := 313) rfl (fun hc => by exfalso; revert hc; decide) (fun c1760 => ?_)
        refine s_aload C at_297 (pc' := 299) rfl rfl rfl ?_
        refine s_aload C at_299 (pc' := 301) rfl rfl rfl ?_
        have hab : (v1752 - v1746) % 115792089210356248762697446949407573530086143415290314195533631308867097853951 = 0 := own_hab6 C1709 C1716 C1722 C1730 C1739 C1746 C1752
        have Vx1762 := ((Vx1747.keep K1746 (ninS ne1683 nin0)).keep K1752 (ninS ne1704 nin0))
        have Vx1763 := ((Vx1748.keep K1746 (ninS ne1681 nin0)).keep K1752 (ninS ne1702 nin0))
        have Vx1764 := (V1746.keep K1752 (ninS ne1698 nin0))
        refine s_callSL C at_301 (pc' := 304) rfl (w31 hw) (w32 hw) (w13 hw) (w33 hw) (by decide) [(.ref a1687), (.ref a1668)] [] pd2 rfl rfl (c_eq l Z a0 hw t p_ a1687 a1668 z1752_0 z1752_1 z1752_2 z1752_3 z1752_4 z1746_0 z1746_1 z1746_2 z1746_3 z1746_4 v1752 v1746 h1752 n0 sz1755 Od1756 S_t S_p Vx1762 Vx1763 V1752 Vx1764 N1752 N1746 L1752 L1746 hab) rfl (W := 0) rfl (by decide) (by decide) (k' := 10) rfl (by decide) (n' := 50) rfl (by decide) (fun _ h1761 q1761 => ?_)
        obtain ⟨rfl, K1761⟩ := q1761
        have sz1765 : n0 ≤ h1761.size := (Nat.le_trans sz1755 K1761.1)
        have Od1766 : Old Z n0 h1761 := Od1756.keep K1761 all0
        refine s_lconst C at_304 (pc' := 305) rfl (1 : Int64) rfl ?_
        refine s_lc_ne C at_305 (pc1 := 306) rfl at_306 (pc' := 309) rfl (pcY := 313) rfl (fun hc => by exfalso; revert hc; decide) (fun c1767 => ?_)
        refine s_iconst C at_309 (pc' := 310) rfl (1 : Int32) rfl ?_
        refine s_goto C at_310 (pc' := 314) rfl ?_
        exact s_retN C (by simp) at_314 (by decide) (by decide) rfl
      · skip
        refine s_iconst C at_116 (pc' := 117) rfl (1 : Int32) rfl ?_
        refine s_goto C at_117 (pc' := 121) rfl ?_
        refine s_istoreP C at_121 (pc' := 123) rfl #[.val (.long x0), .second, .val (.long x1), .second, .val (.long x2), .second, .val (.long x3), .second, .val (.long x4), .second, .val (.int x5), .val (.long (4503599627370495 : Int64)), .second, .val (.ref a1), .val (.ref a24), .val (.int (6 : Int32)), .val (.int (1 : Int32)), .unset, .unset, .unset, .unset, .unset, .unset, .unset] rfl ?_
        refine s_iconst C at_123 (pc' := 124) rfl (5 : Int32) rfl ?_
        refine s_newarr C (cap := 5) at_124 (pc' := 126) rfl (w1 hw) (by decide) (by decide) (by decide) (k' := 3) rfl (by decide) (n' := 15) rfl (by decide) [(.long (0 : Int64)), (.long (0 : Int64)), (.long (0 : Int64)), (.long (0 : Int64)), (.long (0 : Int64))] rfl (fun h1768 a1768 E1768 g1768 A1768 => ?_)
        have Vx1769 := (Vx49.other W50 ne25)
        have ne1770 : a1 ≠ a1768 := Nat.ne_of_lt (by rw [g1768]; exact Vx1769.lt)
        have ne1771 : a24 ≠ a1768 := Nat.ne_of_lt (by rw [g1768]; exact A50.lt)
        have Vx1772 := ((((((Vx26.ext E24).other W34 ne27).other W38 ne27).other W42 ne27).other W46 ne27).other W50 ne27)
        have ne1773 : p_ ≠ a1768 := Nat.ne_of_lt (by rw [g1768]; exact Vx1772.lt)
        have Vx1774 := ((((((Vx28.ext E24).other W34 ne29).other W38 ne29).other W42 ne29).other W46 ne29).other W50 ne29)
        have ne1775 : t ≠ a1768 := Nat.ne_of_lt (by rw [g1768]; exact Vx1774.lt)
        have gn1776 : n0 ≤ a1768 := by rw [g1768]; exact sz51
        have sz1777 : n0 ≤ h1768.size := (Nat.le_trans sz51 E1768.1)
        have Od1778 : Old Z n0 h1768 := Od52.ext E1768
        refine s_astore C at_126 (pc' := 128) rfl rfl #[.val (.long x0), .second, .val (.long x1), .second, .val (.long x2), .second, .val (.long x3), .second, .val (.long x4), .second, .val (.int x5), .val (.long (4503599627370495 : Int64)), .second, .val (.ref a1), .val (.ref a24), .val (.int (6 : Int32)), .val (.int (1 : Int32)), .val (.ref a1768), .unset, .unset, .unset, .unset, .unset, .unset] rfl ?_
        refine s_iconst C at_128 (pc' := 129) rfl (5 : Int32) rfl ?_
        refine s_newarr C (cap := 5) at_129 (pc' := 131) rfl (w1 hw) (by decide) (by decide) (by decide) (k' := 4) rfl (by decide) (n' := 20) rfl (by decide) [(.long (0 : Int64)), (.long (0 : Int64)), (.long (0 : Int64)), (.long (0 : Int64)), (.long (0 : Int64))] rfl (fun h1779 a1779 E1779 g1779 A1779 => ?_)
        have Vx1780 := (Vx1769.ext E1768)
        have ne1781 : a1 ≠ a1779 := Nat.ne_of_lt (by rw [g1779]; exact Vx1780.lt)
        have ne1782 : a1768 ≠ a1779 := Nat.ne_of_lt (by rw [g1779]; exact A1768.lt)
        have Vx1783 := (A50.ext E1768)
        have ne1784 : a24 ≠ a1779 := Nat.ne_of_lt (by rw [g1779]; exact Vx1783.lt)
        have Vx1785 := (Vx1772.ext E1768)
        have ne1786 : p_ ≠ a1779 := Nat.ne_of_lt (by rw [g1779]; exact Vx1785.lt)
        have Vx1787 := (Vx1774.ext E1768)
        have ne1788 : t ≠ a1779 := Nat.ne_of_lt (by rw [g1779]; exact Vx1787.lt)
        have gn1789 : n0 ≤ a1779 := by rw [g1779]; exact sz1777
        have sz1790 : n0 ≤ h1779.size := (Nat.le_trans sz1777 E1779.1)
        have Od1791 : Old Z n0 h1779 := Od1778.ext E1779
        refine s_astore C at_131 (pc' := 133) rfl rfl #[.val (.long x0), .second, .val (.long x1), .second, .val (.long x2), .second, .val (.long x3), .second, .val (.long x4), .second, .val (.int x5), .val (.long (4503599627370495 : Int64)), .second, .val (.ref a1), .val (.ref a24), .val (.int (6 : Int32)), .val (.int (1 : Int32)), .val (.ref a1768), .val (.ref a1779), .unset, .unset, .unset, .unset, .unset] rfl ?_
        refine s_iconst C at_133 (pc' := 134) rfl (5 : Int32) rfl ?_
        refine s_newarr C (cap := 5) at_134 (pc' := 136) rfl (w1 hw) (by decide) (by decide) (by decide) (k' := 5) rfl (by decide) (n' := 25) rfl (by decide) [(.long (0 : Int64)), (.long (0 : Int64)), (.long (0 : Int64)), (.long (0 : Int64)), (.long (0 : Int64))] rfl (fun h1792 a1792 E1792 g1792 A1792 => ?_)
        have Vx1793 := (Vx1780.ext E1779)
        have ne1794 : a1 ≠ a1792 := Nat.ne_of_lt (by rw [g1792]; exact Vx1793.lt)
        have Vx1795 := (A1768.ext E1779)
        have ne1796 : a1768 ≠ a1792 := Nat.ne_of_lt (by rw [g1792]; exact Vx1795.lt)
        have ne1797 : a1779 ≠ a1792 := Nat.ne_of_lt (by rw [g1792]; exact A1779.lt)
        have Vx1798 := (Vx1783.ext E1779)
        have ne1799 : a24 ≠ a1792 := Nat.ne_of_lt (by rw [g1792]; exact Vx1798.lt)
        have Vx1800 := (Vx1785.ext E1779)
        have ne1801 : p_ ≠ a1792 := Nat.ne_of_lt (by rw [g1792]; exact Vx1800.lt)
        have Vx1802 := (Vx1787.ext E1779)
        have ne1803 : t ≠ a1792 := Nat.ne_of_lt (by rw [g1792]; exact Vx1802.lt)
        have gn1804 : n0 ≤ a1792 := by rw [g1792]; exact sz1790
        have sz1805 : n0 ≤ h1792.size := (Nat.le_trans sz1790 E1792.1)
        have Od1806 : Old Z n0 h1792 := Od1791.ext E1792
        refine s_astore C at_136 (pc' := 138) rfl rfl #[.val (.long x0), .second, .val (.long x1), .second, .val (.long x2), .second, .val (.long x3), .second, .val (.long x4), .second, .val (.int x5), .val (.long (4503599627370495 : Int64)), .second, .val (.ref a1), .val (.ref a24), .val (.int (6 : Int32)), .val (.int (1 : Int32)), .val (.ref a1768), .val (.ref a1779), .val (.ref a1792), .unset, .unset, .unset, .unset] rfl ?_
        refine s_iconst C at_138 (pc' := 139) rfl (5 : Int32) rfl ?_
        refine s_newarr C (cap := 5) at_139 (pc' := 141) rfl (w1 hw) (by decide) (by decide) (by decide) (k' := 6) rfl (by decide) (n' := 30) rfl (by decide) [(.long (0 : Int64)), (.long (0 : Int64)), (.long (0 : Int64)), (.long (0 : Int64)), (.long (0 : Int64))] rfl (fun h1807 a1807 E1807 g1807 A1807 => ?_)
        have Vx1808 := (Vx1793.ext E1792)
        have ne1809 : a1 ≠ a1807 := Nat.ne_of_lt (by rw [g1807]; exact Vx1808.lt)
        have Vx1810 := (Vx1795.ext E1792)
        have ne1811 : a1768 ≠ a1807 := Nat.ne_of_lt (by rw [g1807]; exact Vx1810.lt)
        have Vx1812 := (A1779.ext E1792)
        have ne1813 : a1779 ≠ a1807 := Nat.ne_of_lt (by rw [g1807]; exact Vx1812.lt)
        have ne1814 : a1792 ≠ a1807 := Nat.ne_of_lt (by rw [g1807]; exact A1792.lt)
        have Vx1815 := (Vx1798.ext E1792)
        have ne1816 : a24 ≠ a1807 := Nat.ne_of_lt (by rw [g1807]; exact Vx1815.lt)
        have Vx1817 := (Vx1800.ext E1792)
        have ne1818 : p_ ≠ a1807 := Nat.ne_of_lt (by rw [g1807]; exact Vx1817.lt)
        have Vx1819 := (Vx1802.ext E1792)
        have ne1820 : t ≠ a1807 := Nat.ne_of_lt (by rw [g1807]; exact Vx1819.lt)
        have gn1821 : n0 ≤ a1807 := by rw [g1807]; exact sz1805
        have sz1822 : n0 ≤ h1807.size := (Nat.le_trans sz1805 E1807.1)
        have Od1823 : Old Z n0 h1807 := Od1806.ext E1807
        refine s_astore C at_141 (pc' := 143) rfl rfl #[.val (.long x0), .second, .val (.long x1), .second, .val (.long x2), .second, .val (.long x3), .second, .val (.long x4), .second, .val (.int x5), .val (.long (4503599627370495 : Int64)), .second, .val (.ref a1), .val (.ref a24), .val (.int (6 : Int32)), .val (.int (1 : Int32)), .val (.ref a1768), .val (.ref a1779), .val (.ref a1792), .val (.ref a1807), .unset, .unset, .unset] rfl ?_
        refine s_iconst C at_143 (pc' := 144) rfl (5 : Int32) rfl ?_
        refine s_newarr C (cap := 5) at_144 (pc' := 146) rfl (w1 hw) (by decide) (by decide) (by decide) (k' := 7) rfl (by decide) (n' := 35) rfl (by decide) [(.long (0 : Int64)), (.long (0 : Int64)), (.long (0 : Int64)), (.long (0 : Int64)), (.long (0 : Int64))] rfl (fun h1824 a1824 E1824 g1824 A1824 => ?_)
        have Vx1825 := (Vx1808.ext E1807)
        have ne1826 : a1 ≠ a1824 := Nat.ne_of_lt (by rw [g1824]; exact Vx1825.lt)
        have Vx1827 := (Vx1810.ext E1807)
        have ne1828 : a1768 ≠ a1824 := Nat.ne_of_lt (by rw [g1824]; exact Vx1827.lt)
        have Vx1829 := (Vx1812.ext E1807)
        have ne1830 : a1779 ≠ a1824 := Nat.ne_of_lt (by rw [g1824]; exact Vx1829.lt)
        have Vx1831 := (A1792.ext E1807)
        have ne1832 : a1792 ≠ a1824 := Nat.ne_of_lt (by rw [g1824]; exact Vx1831.lt)
        have ne1833 : a1807 ≠ a1824 := Nat.ne_of_lt (by rw [g1824]; exact A1807.lt)
        have Vx1834 := (Vx1815.ext E1807)
        have ne1835 : a24 ≠ a1824 := Nat.ne_of_lt (by rw [g1824]; exact Vx1834.lt)
        have Vx1836 := (Vx1817.ext E1807)
        have ne1837 : p_ ≠ a1824 := Nat.ne_of_lt (by rw [g1824]; exact Vx1836.lt)
        have Vx1838 := (Vx1819.ext E1807)
        have ne1839 : t ≠ a1824 := Nat.ne_of_lt (by rw [g1824]; exact Vx1838.lt)
        have gn1840 : n0 ≤ a1824 := by rw [g1824]; exact sz1822
        have sz1841 : n0 ≤ h1824.size := (Nat.le_trans sz1822 E1824.1)
        have Od1842 : Old Z n0 h1824 := Od1823.ext E1824
        refine s_astore C at_146 (pc' := 148) rfl rfl #[.val (.long x0), .second, .val (.long x1), .second, .val (.long x2), .second, .val (.long x3), .second, .val (.long x4), .second, .val (.int x5), .val (.long (4503599627370495 : Int64)), .second, .val (.ref a1), .val (.ref a24), .val (.int (6 : Int32)), .val (.int (1 : Int32)), .val (.ref a1768), .val (.ref a1779), .val (.ref a1792), .val (.ref a1807), .val (.ref a1824), .unset, .unset] rfl ?_
        refine s_iconst C at_148 (pc' := 149) rfl (5 : Int32) rfl ?_
        refine s_newarr C (cap := 5) at_149 (pc' := 151) rfl (w1 hw) (by decide) (by decide) (by decide) (k' := 8) rfl (by decide) (n' := 40) rfl (by decide) [(.long (0 : Int64)), (.long (0 : Int64)), (.long (0 : Int64)), (.long (0 : Int64)), (.long (0 : Int64))] rfl (fun h1843 a1843 E1843 g1843 A1843 => ?_)
        have Vx1844 := (Vx1825.ext E1824)
        have ne1845 : a1 ≠ a1843 := Nat.ne_of_lt (by rw [g1843]; exact Vx1844.lt)
        have Vx1846 := (Vx1827.ext E1824)
        have ne1847 : a1768 ≠ a1843 := Nat.ne_of_lt (by rw [g1843]; exact Vx1846.lt)
        have Vx1848 := (Vx1829.ext E1824)
        have ne1849 : a1779 ≠ a1843 := Nat.ne_of_lt (by rw [g1843]; exact Vx1848.lt)
        have Vx1850 := (Vx1831.ext E1824)
        have ne1851 : a1792 ≠ a1843 := Nat.ne_of_lt (by rw [g1843]; exact Vx1850.lt)
        have Vx1852 := (A1807.ext E1824)
        have ne1853 : a1807 ≠ a1843 := Nat.ne_of_lt (by rw [g1843]; exact Vx1852.lt)
        have ne1854 : a1824 ≠ a1843 := Nat.ne_of_lt (by rw [g1843]; exact A1824.lt)
        have Vx1855 := (Vx1834.ext E1824)
        have ne1856 : a24 ≠ a1843 := Nat.ne_of_lt (by rw [g1843]; exact Vx1855.lt)
        have Vx1857 := (Vx1836.ext E1824)
        have ne1858 : p_ ≠ a1843 := Nat.ne_of_lt (by rw [g1843]; exact Vx1857.lt)
        have Vx1859 := (Vx1838.ext E1824)
        have ne1860 : t ≠ a1843 := Nat.ne_of_lt (by rw [g1843]; exact Vx1859.lt)
        have gn1861 : n0 ≤ a1843 := by rw [g1843]; exact sz1841
        have sz1862 : n0 ≤ h1843.size := (Nat.le_trans sz1841 E1843.1)
        have Od1863 : Old Z n0 h1843 := Od1842.ext E1843
        refine s_astore C at_151 (pc' := 153) rfl rfl #[.val (.long x0), .second, .val (.long x1), .second, .val (.long x2), .second, .val (.long x3), .second, .val (.long x4), .second, .val (.int x5), .val (.long (4503599627370495 : Int64)), .second, .val (.ref a1), .val (.ref a24), .val (.int (6 : Int32)), .val (.int (1 : Int32)), .val (.ref a1768), .val (.ref a1779), .val (.ref a1792), .val (.ref a1807), .val (.ref a1824), .val (.ref a1843), .unset] rfl ?_
        refine s_iload C at_153 (pc' := 155) rfl rfl ?_
        refine s_if_eq C at_155 (pc' := 158) rfl (pcY := 163) rfl (fun hc => by exfalso; revert hc; decide) (fun c1864 => ?_)
        refine s_aload C at_158 (pc' := 160) rfl rfl rfl ?_
        refine s_goto C at_160 (pc' := 165) rfl ?_
        refine s_astore C at_165 (pc' := 167) rfl rfl #[.val (.long x0), .second, .val (.long x1), .second, .val (.long x2), .second, .val (.long x3), .second, .val (.long x4), .second, .val (.int x5), .val (.long (4503599627370495 : Int64)), .second, .val (.ref a1), .val (.ref a24), .val (.int (6 : Int32)), .val (.int (1 : Int32)), .val (.ref a1768), .val (.ref a1779), .val (.ref a1792), .val (.ref a1807), .val (.ref a1824), .val (.ref a1843), .val (.ref a1)] rfl ?_
        refine s_aload C at_167 (pc' := 169) rfl rfl rfl ?_
        refine s_aload C at_169 (pc' := 171) rfl rfl rfl ?_
        refine s_aload C at_171 (pc' := 173) rfl rfl rfl ?_
        have Vx1866 := (Vx1859.ext E1843)
        have Vx1867 := (Vx1857.ext E1843)
        have Vx1868 := (Vx1848.ext E1843)
        have Vx1869 := (Vx1855.ext E1843)
        refine s_callS0 C at_173 (pc' := 176) rfl (w11 hw) (w12 hw) (w13 hw) (w14 hw) (by decide) [(.ref a1779), (.ref a24), (.ref a24)] [] pd5 rfl rfl (c_add l Z a0 hw t p_ a1779 a24 a24 (0 : Int64) (0 : Int64) (0 : Int64) (0 : Int64) (0 : Int64) y0 y1 y2 y3 y4 y0 y1 y2 y3 y4 va va h1843 n0 sz1862 Od1863 S_t S_p Vx1866 Vx1867 gn1789 Vx1868 Vx1869 Vx1869 na na la la) rfl (W := 0) rfl (by decide) (by decide) (k' := 8) rfl (by decide) (n' := 40) rfl (by decide) (fun h1865 q1865 => ?_)
        obtain ⟨K1865, z1865_0, z1865_1, z1865_2, z1865_3, z1865_4, v1865, V1865, N1865, L1865, C1865⟩ := q1865
        have sz1870 : n0 ≤ h1865.size := (Nat.le_trans sz1862 K1865.1)
        have Od1871 : Old Z n0 h1865 := Od1863.keep K1865 (allS gn1789 all0)
        refine s_aload C at_176 (pc' := 178) rfl rfl rfl ?_
        refine s_aload C at_178 (pc' := 180) rfl rfl rfl ?_
        refine s_aload C at_180 (pc' := 182) rfl rfl rfl ?_
        have Vx1873 := (Vx1866.keep K1865 (ninS ne1788 nin0))
        have Vx1874 := (Vx1867.keep K1865 (ninS ne1786 nin0))
        have Vx1875 := ((Vx1850.ext E1843).keep K1865 (ninS (Ne.symm ne1797) nin0))
        refine s_callS0 C at_182 (pc' := 185) rfl (w11 hw) (w12 hw) (w13 hw) (w14 hw) (by decide) [(.ref a1792), (.ref a1779), (.ref a1779)] [] pd5 rfl rfl (c_add l Z a0 hw t p_ a1792 a1779 a1779 (0 : Int64) (0 : Int64) (0 : Int64) (0 : Int64) (0 : Int64) z1865_0 z1865_1 z1865_2 z1865_3 z1865_4 z1865_0 z1865_1 z1865_2 z1865_3 z1865_4 v1865 v1865 h1865 n0 sz1870 Od1871 S_t S_p Vx1873 Vx1874 gn1804 Vx1875 V1865 V1865 N1865 N1865 L1865 L1865) rfl (W := 0) rfl (by decide) (by decide) (k' := 8) rfl (by decide) (n' := 40) rfl (by decide) (fun h1872 q1872 => ?_)
        obtain ⟨K1872, z1872_0, z1872_1, z1872_2, z1872_3, z1872_4, v1872, V1872, N1872, L1872, C1872⟩ := q1872
        have sz1876 : n0 ≤ h1872.size := (Nat.le_trans sz1870 K1872.1)
        have Od1877 : Old Z n0 h1872 := Od1871.keep K1872 (allS gn1804 all0)
        refine s_aload C at_185 (pc' := 187) rfl rfl rfl ?_
        refine s_aload C at_187 (pc' := 189) rfl rfl rfl ?_
        refine s_aload C at_189 (pc' := 191) rfl rfl rfl ?_
        have Vx1879 := (Vx1873.keep K1872 (ninS ne1803 nin0))
        have Vx1880 := (Vx1874.keep K1872 (ninS ne1801 nin0))
        have Vx1881 := (((Vx1852.ext E1843).keep K1865 (ninS (Ne.symm ne1813) nin0)).keep K1872 (ninS (Ne.symm ne1814) nin0))
        refine s_callS0 C at_191 (pc' := 194) rfl (w11 hw) (w12 hw) (w13 hw) (w14 hw) (by decide) [(.ref a1807), (.ref a1792), (.ref a1792)] [] pd5 rfl rfl (c_add l Z a0 hw t p_ a1807 a1792 a1792 (0 : Int64) (0 : Int64) (0 : Int64) (0 : Int64) (0 : Int64) z1872_0 z1872_1 z1872_2 z1872_3 z1872_4 z1872_0 z1872_1 z1872_2 z1872_3 z1872_4 v1872 v1872 h1872 n0 sz1876 Od1877 S_t S_p Vx1879 Vx1880 gn1821 Vx1881 V1872 V1872 N1872 N1872 L1872 L1872) rfl (W := 0) rfl (by decide) (by decide) (k' := 8) rfl (by decide) (n' := 40) rfl (by decide) (fun h1878 q1878 => ?_)
        obtain ⟨K1878, z1878_0, z1878_1, z1878_2, z1878_3, z1878_4, v1878, V1878, N1878, L1878, C1878⟩ := q1878
        have sz1882 : n0 ≤ h1878.size := (Nat.le_trans sz1876 K1878.1)
        have Od1883 : Old Z n0 h1878 := Od1877.keep K1878 (allS gn1821 all0)
        refine s_aload C at_194 (pc' := 196) rfl rfl rfl ?_
        refine s_iload C at_196 (pc' := 198) rfl rfl ?_
        refine s_iconst C at_198 (pc' := 199) rfl (1 : Int32) rfl ?_
        refine s_iand C at_199 (pc' := 200) rfl ?_
        refine s_foldI C (y := (0 : Int32)) (by decide) ?_
        refine s_if_eq C at_200 (pc' := 203) rfl (pcY := 208) rfl (fun c1884 => ?_) (fun hc => by exfalso; revert hc; decide)
        refine s_aload C at_208 (pc' := 210) rfl rfl rfl ?_
        refine s_iload C at_210 (pc' := 212) rfl rfl ?_
        refine s_iconst C at_212 (pc' := 213) rfl (2 : Int32) rfl ?_
        refine s_iand C at_213 (pc' := 214) rfl ?_
        refine s_foldI C (y := (2 : Int32)) (by decide) ?_
        refine s_if_eq C at_214 (pc' := 217) rfl (pcY := 222) rfl (fun hc => by exfalso; revert hc; decide) (fun c1885 => ?_)
        refine s_aload C at_217 (pc' := 219) rfl rfl rfl ?_
        refine s_goto C at_219 (pc' := 224) rfl ?_
        have Vx1887 := (Vx1879.keep K1878 (ninS ne1820 nin0))
        have Vx1888 := (Vx1880.keep K1878 (ninS ne1818 nin0))
        have Vx1889 := ((((A1824.ext E1843).keep K1865 (ninS (Ne.symm ne1830) nin0)).keep K1872 (ninS (Ne.symm ne1832) nin0)).keep K1878 (ninS (Ne.symm ne1833) nin0))
        have Vx1890 := ((((Vx1846.ext E1843).keep K1865 (ninS ne1782 nin0)).keep K1872 (ninS ne1796 nin0)).keep K1878 (ninS ne1811 nin0))
        have Vx1891 := ((V1865.keep K1872 (ninS ne1797 nin0)).keep K1878 (ninS ne1813 nin0))
        refine s_callS0 C at_224 (pc' := 227) rfl (w11 hw) (w12 hw) (w13 hw) (w14 hw) (by decide) [(.ref a1824), (.ref a1768), (.ref a1779)] [] pd5 rfl rfl (c_add l Z a0 hw t p_ a1824 a1768 a1779 (0 : Int64) (0 : Int64) (0 : Int64) (0 : Int64) (0 : Int64) (0 : Int64) (0 : Int64) (0 : Int64) (0 : Int64) (0 : Int64) z1865_0 z1865_1 z1865_2 z1865_3 z1865_4 0 v1865 h1878 n0 sz1882 Od1883 S_t S_p Vx1887 Vx1888 gn1840 Vx1889 Vx1890 Vx1891 own_zero N1865 (by decide) L1865) rfl (W := 0) rfl (by decide) (by decide) (k' := 8) rfl (by decide) (n' := 40) rfl (by decide) (fun h1886 q1886 => ?_)
        obtain ⟨K1886, z1886_0, z1886_1, z1886_2, z1886_3, z1886_4, v1886, V1886, N1886, L1886, C1886⟩ := q1886
        have sz1892 : n0 ≤ h1886.size := (Nat.le_trans sz1882 K1886.1)
        have Od1893 : Old Z n0 h1886 := Od1883.keep K1886 (allS gn1840 all0)
        refine s_aload C at_227 (pc' := 229) rfl rfl rfl ?_
        refine s_aload C at_229 (pc' := 231) rfl rfl rfl ?_
        refine s_iload C at_231 (pc' := 233) rfl rfl ?_
        refine s_iconst C at_233 (pc' := 234) rfl (4 : Int32) rfl ?_
        refine s_iand C at_234 (pc' := 235) rfl ?_
        refine s_foldI C (y := (4 : Int32)) (by decide) ?_
        refine s_if_eq C at_235 (pc' := 238) rfl (pcY := 243) rfl (fun hc => by exfalso; revert hc; decide) (fun c1894 => ?_)
        refine s_aload C at_238 (pc' := 240) rfl rfl rfl ?_
        refine s_goto C at_240 (pc' := 245) rfl ?_
        have Vx1896 := (Vx1887.keep K1886 (ninS ne1839 nin0))
        have Vx1897 := (Vx1888.keep K1886 (ninS ne1837 nin0))
        have Vx1898 := ((V1872.keep K1878 (ninS ne1814 nin0)).keep K1886 (ninS ne1832 nin0))
        refine s_callS0 C at_245 (pc' := 248) rfl (w11 hw) (w12 hw) (w13 hw) (w14 hw) (by decide) [(.ref a1824), (.ref a1824), (.ref a1792)] [] pd5 rfl rfl (c_add l Z a0 hw t p_ a1824 a1824 a1792 z1886_0 z1886_1 z1886_2 z1886_3 z1886_4 z1886_0 z1886_1 z1886_2 z1886_3 z1886_4 z1872_0 z1872_1 z1872_2 z1872_3 z1872_4 v1886 v1872 h1886 n0 sz1892 Od1893 S_t S_p Vx1896 Vx1897 gn1840 V1886 V1886 Vx1898 N1886 N1872 L1886 L1872) rfl (W := 0) rfl (by decide) (by decide) (k' := 8) rfl (by decide) (n' := 40) rfl (by decide) (fun h1895 q1895 => ?_)
        obtain ⟨K1895, z1895_0, z1895_1, z1895_2, z1895_3, z1895_4, v1895, V1895, N1895, L1895, C1895⟩ := q1895
        have sz1899 : n0 ≤ h1895.size := (Nat.le_trans sz1892 K1895.1)
        have Od1900 : Old Z n0 h1895 := Od1893.keep K1895 (allS gn1840 all0)
        refine s_aload C at_248 (pc' := 250) rfl rfl rfl ?_
        refine s_aload C at_250 (pc' := 252) rfl rfl rfl ?_
        refine s_iload C at_252 (pc' := 254) rfl rfl ?_
        refine s_bipush C at_254 (pc' := 256) rfl (8 : Int32) rfl ?_
        refine s_iand C at_256 (pc' := 257) rfl ?_
        refine s_foldI C (y := (0 : Int32)) (by decide) ?_
        refine s_if_eq C at_257 (pc' := 260) rfl (pcY := 265) rfl (fun c1901 => ?_) (fun hc => by exfalso; revert hc; decide)
        refine s_aload C at_265 (pc' := 267) rfl rfl rfl ?_
        have Vx1903 := (Vx1896.keep K1895 (ninS ne1839 nin0))
        have Vx1904 := (Vx1897.keep K1895 (ninS ne1837 nin0))
        have Vx1905 := ((Vx1890.keep K1886 (ninS ne1828 nin0)).keep K1895 (ninS ne1828 nin0))
        refine s_callS0 C at_267 (pc' := 270) rfl (w11 hw) (w12 hw) (w13 hw) (w14 hw) (by decide) [(.ref a1824), (.ref a1824), (.ref a1768)] [] pd5 rfl rfl (c_add l Z a0 hw t p_ a1824 a1824 a1768 z1895_0 z1895_1 z1895_2 z1895_3 z1895_4 z1895_0 z1895_1 z1895_2 z1895_3 z1895_4 (0 : Int64) (0 : Int64) (0 : Int64) (0 : Int64) (0 : Int64) v1895 0 h1895 n0 sz1899 Od1900 S_t S_p Vx1903 Vx1904 gn1840 V1895 V1895 Vx1905 N1895 own_zero L1895 (by decide)) rfl (W := 0) rfl (by decide) (by decide) (k' := 8) rfl (by decide) (n' := 40) rfl (by decide) (fun h1902 q1902 => ?_)
        obtain ⟨K1902, z1902_0, z1902_1, z1902_2, z1902_3, z1902_4, v1902, V1902, N1902, L1902, C1902⟩ := q1902
        have sz1906 : n0 ≤ h1902.size := (Nat.le_trans sz1899 K1902.1)
        have Od1907 : Old Z n0 h1902 := Od1900.keep K1902 (allS gn1840 all0)
        refine s_aload C at_270 (pc' := 272) rfl rfl rfl ?_
        refine s_aload C at_272 (pc' := 274) rfl rfl rfl ?_
        refine s_iload C at_274 (pc' := 276) rfl rfl ?_
        have Vx1909 := (((((((Vx1844.ext E1843).keep K1865 (ninS ne1781 nin0)).keep K1872 (ninS ne1794 nin0)).keep K1878 (ninS ne1809 nin0)).keep K1886 (ninS ne1826 nin0)).keep K1895 (ninS ne1826 nin0)).keep K1902 (ninS ne1826 nin0))
        refine s_callS0 C at_276 (pc' := 279) rfl (w22 hw) (w23 hw) (w13 hw) (w24 hw) (by decide) [(.ref a1), (.ref a1), (.int (6 : Int32))] [] pd3 rfl rfl (c_ms6 l Z a0 hw a1 a1 y0 y1 y2 y3 y4 y0 y1 y2 y3 y4 va h1902 n0 sz1906 gn4 Vx1909 Vx1909 na la) rfl (W := 0) rfl (by decide) (by decide) (k' := 8) rfl (by decide) (n' := 40) rfl (by decide) (fun h1908 q1908 => ?_)
        obtain ⟨K1908, z1908_0, z1908_1, z1908_2, z1908_3, z1908_4, v1908, V1908, N1908, L1908, C1908⟩ := q1908
        have sz1910 : n0 ≤ h1908.size := (Nat.le_trans sz1906 K1908.1)
        have Od1911 : Old Z n0 h1908 := Od1907.keep K1908 (allS gn4 all0)
        refine s_aload C at_279 (pc' := 281) rfl rfl rfl ?_
        refine s_callSI C at_281 (pc' := 284) rfl (w26 hw) (w27 hw) (w5 hw) (w28 hw) (by decide) [(.ref a1)] [] pd0 rfl rfl (c_nmz l Z a0 hw a1 z1908_0 z1908_1 z1908_2 z1908_3 z1908_4 h1908 n0 sz1910 V1908) rfl (W := 0) rfl (by decide) (by decide) (k' := 8) rfl (by decide) (n' := 40) rfl (by decide) (fun _ _ q1912 => ?_)
        obtain ⟨rfl, rfl⟩ := q1912
        refine s_foldI C (y := (1 : Int32)) (own_nmz N1908 L1908) ?_
        refine s_if_ne C at_284 (pc' := 287) rfl (pcY := 289) rfl (fun c1913 => ?_) (fun hc => by exfalso; revert hc; decide)
        refine s_aload C at_289 (pc' := 291) rfl rfl rfl ?_
        refine s_callSI C at_291 (pc' := 294) rfl (w3 hw) (w4 hw) (w5 hw) (w6 hw) (by decide) [(.ref a1)] [] pd0 rfl rfl (c_blw l Z a0 hw a1 z1908_0 z1908_1 z1908_2 z1908_3 z1908_4 h1908 n0 sz1910 V1908) rfl (W := 0) rfl (by decide) (by decide) (k' := 8) rfl (by decide) (n' := 40) rfl (by decide) (fun _ _ q1914 => ?_)
        obtain ⟨rfl, rfl⟩ := q1914
        refine s_foldI C (y := (1 : Int32)) ((own_blw N1908).1 L1908) ?_
        refine s_if_eq C at_294 (pc' := 297) rfl (pcY := 313) rfl (fun hc => by exfalso; revert hc; decide) (fun c1915 => ?_)
        refine s_aload C at_297 (pc' := 299) rfl rfl rfl ?_
        refine s_aload C at_299 (pc' := 301) rfl rfl rfl ?_
        have hab : (v1908 - v1902) % 115792089210356248762697446949407573530086143415290314195533631308867097853951 = 0 := own_hab6 C1865 C1872 C1878 C1886 C1895 C1902 C1908
        have Vx1917 := ((Vx1903.keep K1902 (ninS ne1839 nin0)).keep K1908 (ninS ne3 nin0))
        have Vx1918 := ((Vx1904.keep K1902 (ninS ne1837 nin0)).keep K1908 (ninS ne2 nin0))
        have Vx1919 := (V1902.keep K1908 (ninS (Ne.symm ne1826) nin0))
        refine s_callSL C at_301 (pc' := 304) rfl (w31 hw) (w32 hw) (w13 hw) (w33 hw) (by decide) [(.ref a1), (.ref a1824)] [] pd2 rfl rfl (c_eq l Z a0 hw t p_ a1 a1824 z1908_0 z1908_1 z1908_2 z1908_3 z1908_4 z1902_0 z1902_1 z1902_2 z1902_3 z1902_4 v1908 v1902 h1908 n0 sz1910 Od1911 S_t S_p Vx1917 Vx1918 V1908 Vx1919 N1908 N1902 L1908 L1902 hab) rfl (W := 0) rfl (by decide) (by decide) (k' := 10) rfl (by decide) (n' := 50) rfl (by decide) (fun _ h1916 q1916 => ?_)
        obtain ⟨rfl, K1916⟩ := q1916
        have sz1920 : n0 ≤ h1916.size := (Nat.le_trans sz1910 K1916.1)
        have Od1921 : Old Z n0 h1916 := Od1911.keep K1916 all0
        refine s_lconst C at_304 (pc' := 305) rfl (1 : Int64) rfl ?_
        refine s_lc_ne C at_305 (pc1 := 306) rfl at_306 (pc' := 309) rfl (pcY := 313) rfl (fun hc => by exfalso; revert hc; decide) (fun c1922 => ?_)
        refine s_iconst C at_309 (pc' := 310) rfl (1 : Int32) rfl ?_
        refine s_goto C at_310 (pc' := 314) rfl ?_
        exact s_retN C (by simp) at_314 (by decide) (by decide) rfl
    · subst q
      refine s_istoreP C at_106 (pc' := 108) rfl #[.val (.long x0), .second, .val (.long x1), .second, .val (.long x2), .second, .val (.long x3), .second, .val (.long x4), .second, .val (.int x5), .val (.long (4503599627370495 : Int64)), .second, .val (.ref a1), .val (.ref a24), .val (.int (7 : Int32)), .unset, .unset, .unset, .unset, .unset, .unset, .unset, .unset] rfl ?_
      refine s_iload C at_108 (pc' := 110) rfl rfl ?_
      refine s_bipush C at_110 (pc' := 112) rfl (8 : Int32) rfl ?_
      refine s_iand C at_112 (pc' := 113) rfl ?_
      refine s_if_eq C at_113 (pc' := 116) rfl (pcY := 120) rfl (fun c1923 => ?_) (fun c1923 => ?_)
      · skip
        refine s_iconst C at_120 (pc' := 121) rfl (0 : Int32) rfl ?_
        refine s_istoreP C at_121 (pc' := 123) rfl #[.val (.long x0), .second, .val (.long x1), .second, .val (.long x2), .second, .val (.long x3), .second, .val (.long x4), .second, .val (.int x5), .val (.long (4503599627370495 : Int64)), .second, .val (.ref a1), .val (.ref a24), .val (.int (7 : Int32)), .val (.int (0 : Int32)), .unset, .unset, .unset, .unset, .unset, .unset, .unset] rfl ?_
        refine s_iconst C at_123 (pc' := 124) rfl (5 : Int32) rfl ?_
        refine s_newarr C (cap := 5) at_124 (pc' := 126) rfl (w1 hw) (by decide) (by decide) (by decide) (k' := 3) rfl (by decide) (n' := 15) rfl (by decide) [(.long (0 : Int64)), (.long (0 : Int64)), (.long (0 : Int64)), (.long (0 : Int64)), (.long (0 : Int64))] rfl (fun h1924 a1924 E1924 g1924 A1924 => ?_)
        have Vx1925 := (Vx49.other W50 ne25)
        have ne1926 : a1 ≠ a1924 := Nat.ne_of_lt (by rw [g1924]; exact Vx1925.lt)
        have ne1927 : a24 ≠ a1924 := Nat.ne_of_lt (by rw [g1924]; exact A50.lt)
        have Vx1928 := ((((((Vx26.ext E24).other W34 ne27).other W38 ne27).other W42 ne27).other W46 ne27).other W50 ne27)
        have ne1929 : p_ ≠ a1924 := Nat.ne_of_lt (by rw [g1924]; exact Vx1928.lt)
        have Vx1930 := ((((((Vx28.ext E24).other W34 ne29).other W38 ne29).other W42 ne29).other W46 ne29).other W50 ne29)
        have ne1931 : t ≠ a1924 := Nat.ne_of_lt (by rw [g1924]; exact Vx1930.lt)
        have gn1932 : n0 ≤ a1924 := by rw [g1924]; exact sz51
        have sz1933 : n0 ≤ h1924.size := (Nat.le_trans sz51 E1924.1)
        have Od1934 : Old Z n0 h1924 := Od52.ext E1924
        refine s_astore C at_126 (pc' := 128) rfl rfl #[.val (.long x0), .second, .val (.long x1), .second, .val (.long x2), .second, .val (.long x3), .second, .val (.long x4), .second, .val (.int x5), .val (.long (4503599627370495 : Int64)), .second, .val (.ref a1), .val (.ref a24), .val (.int (7 : Int32)), .val (.int (0 : Int32)), .val (.ref a1924), .unset, .unset, .unset, .unset, .unset, .unset] rfl ?_
        refine s_iconst C at_128 (pc' := 129) rfl (5 : Int32) rfl ?_
        refine s_newarr C (cap := 5) at_129 (pc' := 131) rfl (w1 hw) (by decide) (by decide) (by decide) (k' := 4) rfl (by decide) (n' := 20) rfl (by decide) [(.long (0 : Int64)), (.long (0 : Int64)), (.long (0 : Int64)), (.long (0 : Int64)), (.long (0 : Int64))] rfl (fun h1935 a1935 E1935 g1935 A1935 => ?_)
        have Vx1936 := (Vx1925.ext E1924)
        have ne1937 : a1 ≠ a1935 := Nat.ne_of_lt (by rw [g1935]; exact Vx1936.lt)
        have ne1938 : a1924 ≠ a1935 := Nat.ne_of_lt (by rw [g1935]; exact A1924.lt)
        have Vx1939 := (A50.ext E1924)
        have ne1940 : a24 ≠ a1935 := Nat.ne_of_lt (by rw [g1935]; exact Vx1939.lt)
        have Vx1941 := (Vx1928.ext E1924)
        have ne1942 : p_ ≠ a1935 := Nat.ne_of_lt (by rw [g1935]; exact Vx1941.lt)
        have Vx1943 := (Vx1930.ext E1924)
        have ne1944 : t ≠ a1935 := Nat.ne_of_lt (by rw [g1935]; exact Vx1943.lt)
        have gn1945 : n0 ≤ a1935 := by rw [g1935]; exact sz1933
        have sz1946 : n0 ≤ h1935.size := (Nat.le_trans sz1933 E1935.1)
        have Od1947 : Old Z n0 h1935 := Od1934.ext E1935
        refine s_astore C at_131 (pc' := 133) rfl rfl #[.val (.long x0), .second, .val (.long x1), .second, .val (.long x2), .second, .val (.long x3), .second, .val (.long x4), .second, .val (.int x5), .val (.long (4503599627370495 : Int64)), .second, .val (.ref a1), .val (.ref a24), .val (.int (7 : Int32)), .val (.int (0 : Int32)), .val (.ref a1924), .val (.ref a1935), .unset, .unset, .unset, .unset, .unset] rfl ?_
        refine s_iconst C at_133 (pc' := 134) rfl (5 : Int32) rfl ?_
        refine s_newarr C (cap := 5) at_134 (pc' := 136) rfl (w1 hw) (by decide) (by decide) (by decide) (k' := 5) rfl (by decide) (n' := 25) rfl (by decide) [(.long (0 : Int64)), (.long (0 : Int64)), (.long (0 : Int64)), (.long (0 : Int64)), (.long (0 : Int64))] rfl (fun h1948 a1948 E1948 g1948 A1948 => ?_)
        have Vx1949 := (Vx1936.ext E1935)
        have ne1950 : a1 ≠ a1948 := Nat.ne_of_lt (by rw [g1948]; exact Vx1949.lt)
        have Vx1951 := (A1924.ext E1935)
        have ne1952 : a1924 ≠ a1948 := Nat.ne_of_lt (by rw [g1948]; exact Vx1951.lt)
        have ne1953 : a1935 ≠ a1948 := Nat.ne_of_lt (by rw [g1948]; exact A1935.lt)
        have Vx1954 := (Vx1939.ext E1935)
        have ne1955 : a24 ≠ a1948 := Nat.ne_of_lt (by rw [g1948]; exact Vx1954.lt)
        have Vx1956 := (Vx1941.ext E1935)
        have ne1957 : p_ ≠ a1948 := Nat.ne_of_lt (by rw [g1948]; exact Vx1956.lt)
        have Vx1958 := (Vx1943.ext E1935)
        have ne1959 : t ≠ a1948 := Nat.ne_of_lt (by rw [g1948]; exact Vx1958.lt)
        have gn1960 : n0 ≤ a1948 := by rw [g1948]; exact sz1946
        have sz1961 : n0 ≤ h1948.size := (Nat.le_trans sz1946 E1948.1)
        have Od1962 : Old Z n0 h1948 := Od1947.ext E1948
        refine s_astore C at_136 (pc' := 138) rfl rfl #[.val (.long x0), .second, .val (.long x1), .second, .val (.long x2), .second, .val (.long x3), .second, .val (.long x4), .second, .val (.int x5), .val (.long (4503599627370495 : Int64)), .second, .val (.ref a1), .val (.ref a24), .val (.int (7 : Int32)), .val (.int (0 : Int32)), .val (.ref a1924), .val (.ref a1935), .val (.ref a1948), .unset, .unset, .unset, .unset] rfl ?_
        refine s_iconst C at_138 (pc' := 139) rfl (5 : Int32) rfl ?_
        refine s_newarr C (cap := 5) at_139 (pc' := 141) rfl (w1 hw) (by decide) (by decide) (by decide) (k' := 6) rfl (by decide) (n' := 30) rfl (by decide) [(.long (0 : Int64)), (.long (0 : Int64)), (.long (0 : Int64)), (.long (0 : Int64)), (.long (0 : Int64))] rfl (fun h1963 a1963 E1963 g1963 A1963 => ?_)
        have Vx1964 := (Vx1949.ext E1948)
        have ne1965 : a1 ≠ a1963 := Nat.ne_of_lt (by rw [g1963]; exact Vx1964.lt)
        have Vx1966 := (Vx1951.ext E1948)
        have ne1967 : a1924 ≠ a1963 := Nat.ne_of_lt (by rw [g1963]; exact Vx1966.lt)
        have Vx1968 := (A1935.ext E1948)
        have ne1969 : a1935 ≠ a1963 := Nat.ne_of_lt (by rw [g1963]; exact Vx1968.lt)
        have ne1970 : a1948 ≠ a1963 := Nat.ne_of_lt (by rw [g1963]; exact A1948.lt)
        have Vx1971 := (Vx1954.ext E1948)
        have ne1972 : a24 ≠ a1963 := Nat.ne_of_lt (by rw [g1963]; exact Vx1971.lt)
        have Vx1973 := (Vx1956.ext E1948)
        have ne1974 : p_ ≠ a1963 := Nat.ne_of_lt (by rw [g1963]; exact Vx1973.lt)
        have Vx1975 := (Vx1958.ext E1948)
        have ne1976 : t ≠ a1963 := Nat.ne_of_lt (by rw [g1963]; exact Vx1975.lt)
        have gn1977 : n0 ≤ a1963 := by rw [g1963]; exact sz1961
        have sz1978 : n0 ≤ h1963.size := (Nat.le_trans sz1961 E1963.1)
        have Od1979 : Old Z n0 h1963 := Od1962.ext E1963
        refine s_astore C at_141 (pc' := 143) rfl rfl #[.val (.long x0), .second, .val (.long x1), .second, .val (.long x2), .second, .val (.long x3), .second, .val (.long x4), .second, .val (.int x5), .val (.long (4503599627370495 : Int64)), .second, .val (.ref a1), .val (.ref a24), .val (.int (7 : Int32)), .val (.int (0 : Int32)), .val (.ref a1924), .val (.ref a1935), .val (.ref a1948), .val (.ref a1963), .unset, .unset, .unset] rfl ?_
        refine s_iconst C at_143 (pc' := 144) rfl (5 : Int32) rfl ?_
        refine s_newarr C (cap := 5) at_144 (pc' := 146) rfl (w1 hw) (by decide) (by decide) (by decide) (k' := 7) rfl (by decide) (n' := 35) rfl (by decide) [(.long (0 : Int64)), (.long (0 : Int64)), (.long (0 : Int64)), (.long (0 : Int64)), (.long (0 : Int64))] rfl (fun h1980 a1980 E1980 g1980 A1980 => ?_)
        have Vx1981 := (Vx1964.ext E1963)
        have ne1982 : a1 ≠ a1980 := Nat.ne_of_lt (by rw [g1980]; exact Vx1981.lt)
        have Vx1983 := (Vx1966.ext E1963)
        have ne1984 : a1924 ≠ a1980 := Nat.ne_of_lt (by rw [g1980]; exact Vx1983.lt)
        have Vx1985 := (Vx1968.ext E1963)
        have ne1986 : a1935 ≠ a1980 := Nat.ne_of_lt (by rw [g1980]; exact Vx1985.lt)
        have Vx1987 := (A1948.ext E1963)
        have ne1988 : a1948 ≠ a1980 := Nat.ne_of_lt (by rw [g1980]; exact Vx1987.lt)
        have ne1989 : a1963 ≠ a1980 := Nat.ne_of_lt (by rw [g1980]; exact A1963.lt)
        have Vx1990 := (Vx1971.ext E1963)
        have ne1991 : a24 ≠ a1980 := Nat.ne_of_lt (by rw [g1980]; exact Vx1990.lt)
        have Vx1992 := (Vx1973.ext E1963)
        have ne1993 : p_ ≠ a1980 := Nat.ne_of_lt (by rw [g1980]; exact Vx1992.lt)
        have Vx1994 := (Vx1975.ext E1963)
        have ne1995 : t ≠ a1980 := Nat.ne_of_lt (by rw [g1980]; exact Vx1994.lt)
        have gn1996 : n0 ≤ a1980 := by rw [g1980]; exact sz1978
        have sz1997 : n0 ≤ h1980.size := (Nat.le_trans sz1978 E1980.1)
        have Od1998 : Old Z n0 h1980 := Od1979.ext E1980
        refine s_astore C at_146 (pc' := 148) rfl rfl #[.val (.long x0), .second, .val (.long x1), .second, .val (.long x2), .second, .val (.long x3), .second, .val (.long x4), .second, .val (.int x5), .val (.long (4503599627370495 : Int64)), .second, .val (.ref a1), .val (.ref a24), .val (.int (7 : Int32)), .val (.int (0 : Int32)), .val (.ref a1924), .val (.ref a1935), .val (.ref a1948), .val (.ref a1963), .val (.ref a1980), .unset, .unset] rfl ?_
        refine s_iconst C at_148 (pc' := 149) rfl (5 : Int32) rfl ?_
        refine s_newarr C (cap := 5) at_149 (pc' := 151) rfl (w1 hw) (by decide) (by decide) (by decide) (k' := 8) rfl (by decide) (n' := 40) rfl (by decide) [(.long (0 : Int64)), (.long (0 : Int64)), (.long (0 : Int64)), (.long (0 : Int64)), (.long (0 : Int64))] rfl (fun h1999 a1999 E1999 g1999 A1999 => ?_)
        have Vx2000 := (Vx1981.ext E1980)
        have ne2001 : a1 ≠ a1999 := Nat.ne_of_lt (by rw [g1999]; exact Vx2000.lt)
        have Vx2002 := (Vx1983.ext E1980)
        have ne2003 : a1924 ≠ a1999 := Nat.ne_of_lt (by rw [g1999]; exact Vx2002.lt)
        have Vx2004 := (Vx1985.ext E1980)
        have ne2005 : a1935 ≠ a1999 := Nat.ne_of_lt (by rw [g1999]; exact Vx2004.lt)
        have Vx2006 := (Vx1987.ext E1980)
        have ne2007 : a1948 ≠ a1999 := Nat.ne_of_lt (by rw [g1999]; exact Vx2006.lt)
        have Vx2008 := (A1963.ext E1980)
        have ne2009 : a1963 ≠ a1999 := Nat.ne_of_lt (by rw [g1999]; exact Vx2008.lt)
        have ne2010 : a1980 ≠ a1999 := Nat.ne_of_lt (by rw [g1999]; exact A1980.lt)
        have Vx2011 := (Vx1990.ext E1980)
        have ne2012 : a24 ≠ a1999 := Nat.ne_of_lt (by rw [g1999]; exact Vx2011.lt)
        have Vx2013 := (Vx1992.ext E1980)
        have ne2014 : p_ ≠ a1999 := Nat.ne_of_lt (by rw [g1999]; exact Vx2013.lt)
        have Vx2015 := (Vx1994.ext E1980)
        have ne2016 : t ≠ a1999 := Nat.ne_of_lt (by rw [g1999]; exact Vx2015.lt)
        have gn2017 : n0 ≤ a1999 := by rw [g1999]; exact sz1997
        have sz2018 : n0 ≤ h1999.size := (Nat.le_trans sz1997 E1999.1)
        have Od2019 : Old Z n0 h1999 := Od1998.ext E1999
        refine s_astore C at_151 (pc' := 153) rfl rfl #[.val (.long x0), .second, .val (.long x1), .second, .val (.long x2), .second, .val (.long x3), .second, .val (.long x4), .second, .val (.int x5), .val (.long (4503599627370495 : Int64)), .second, .val (.ref a1), .val (.ref a24), .val (.int (7 : Int32)), .val (.int (0 : Int32)), .val (.ref a1924), .val (.ref a1935), .val (.ref a1948), .val (.ref a1963), .val (.ref a1980), .val (.ref a1999), .unset] rfl ?_
        refine s_iload C at_153 (pc' := 155) rfl rfl ?_
        refine s_if_eq C at_155 (pc' := 158) rfl (pcY := 163) rfl (fun c2020 => ?_) (fun hc => by exfalso; revert hc; decide)
        refine s_aload C at_163 (pc' := 165) rfl rfl rfl ?_
        refine s_astore C at_165 (pc' := 167) rfl rfl #[.val (.long x0), .second, .val (.long x1), .second, .val (.long x2), .second, .val (.long x3), .second, .val (.long x4), .second, .val (.int x5), .val (.long (4503599627370495 : Int64)), .second, .val (.ref a1), .val (.ref a24), .val (.int (7 : Int32)), .val (.int (0 : Int32)), .val (.ref a1924), .val (.ref a1935), .val (.ref a1948), .val (.ref a1963), .val (.ref a1980), .val (.ref a1999), .val (.ref a1999)] rfl ?_
        refine s_aload C at_167 (pc' := 169) rfl rfl rfl ?_
        refine s_aload C at_169 (pc' := 171) rfl rfl rfl ?_
        refine s_aload C at_171 (pc' := 173) rfl rfl rfl ?_
        have Vx2022 := (Vx2015.ext E1999)
        have Vx2023 := (Vx2013.ext E1999)
        have Vx2024 := (Vx2004.ext E1999)
        have Vx2025 := (Vx2011.ext E1999)
        refine s_callS0 C at_173 (pc' := 176) rfl (w11 hw) (w12 hw) (w13 hw) (w14 hw) (by decide) [(.ref a1935), (.ref a24), (.ref a24)] [] pd5 rfl rfl (c_add l Z a0 hw t p_ a1935 a24 a24 (0 : Int64) (0 : Int64) (0 : Int64) (0 : Int64) (0 : Int64) y0 y1 y2 y3 y4 y0 y1 y2 y3 y4 va va h1999 n0 sz2018 Od2019 S_t S_p Vx2022 Vx2023 gn1945 Vx2024 Vx2025 Vx2025 na na la la) rfl (W := 0) rfl (by decide) (by decide) (k' := 8) rfl (by decide) (n' := 40) rfl (by decide) (fun h2021 q2021 => ?_)
        obtain ⟨K2021, z2021_0, z2021_1, z2021_2, z2021_3, z2021_4, v2021, V2021, N2021, L2021, C2021⟩ := q2021
        have sz2026 : n0 ≤ h2021.size := (Nat.le_trans sz2018 K2021.1)
        have Od2027 : Old Z n0 h2021 := Od2019.keep K2021 (allS gn1945 all0)
        refine s_aload C at_176 (pc' := 178) rfl rfl rfl ?_
        refine s_aload C at_178 (pc' := 180) rfl rfl rfl ?_
        refine s_aload C at_180 (pc' := 182) rfl rfl rfl ?_
        have Vx2029 := (Vx2022.keep K2021 (ninS ne1944 nin0))
        have Vx2030 := (Vx2023.keep K2021 (ninS ne1942 nin0))
        have Vx2031 := ((Vx2006.ext E1999).keep K2021 (ninS (Ne.symm ne1953) nin0))
        refine s_callS0 C at_182 (pc' := 185) rfl (w11 hw) (w12 hw) (w13 hw) (w14 hw) (by decide) [(.ref a1948), (.ref a1935), (.ref a1935)] [] pd5 rfl rfl (c_add l Z a0 hw t p_ a1948 a1935 a1935 (0 : Int64) (0 : Int64) (0 : Int64) (0 : Int64) (0 : Int64) z2021_0 z2021_1 z2021_2 z2021_3 z2021_4 z2021_0 z2021_1 z2021_2 z2021_3 z2021_4 v2021 v2021 h2021 n0 sz2026 Od2027 S_t S_p Vx2029 Vx2030 gn1960 Vx2031 V2021 V2021 N2021 N2021 L2021 L2021) rfl (W := 0) rfl (by decide) (by decide) (k' := 8) rfl (by decide) (n' := 40) rfl (by decide) (fun h2028 q2028 => ?_)
        obtain ⟨K2028, z2028_0, z2028_1, z2028_2, z2028_3, z2028_4, v2028, V2028, N2028, L2028, C2028⟩ := q2028
        have sz2032 : n0 ≤ h2028.size := (Nat.le_trans sz2026 K2028.1)
        have Od2033 : Old Z n0 h2028 := Od2027.keep K2028 (allS gn1960 all0)
        refine s_aload C at_185 (pc' := 187) rfl rfl rfl ?_
        refine s_aload C at_187 (pc' := 189) rfl rfl rfl ?_
        refine s_aload C at_189 (pc' := 191) rfl rfl rfl ?_
        have Vx2035 := (Vx2029.keep K2028 (ninS ne1959 nin0))
        have Vx2036 := (Vx2030.keep K2028 (ninS ne1957 nin0))
        have Vx2037 := (((Vx2008.ext E1999).keep K2021 (ninS (Ne.symm ne1969) nin0)).keep K2028 (ninS (Ne.symm ne1970) nin0))
        refine s_callS0 C at_191 (pc' := 194) rfl (w11 hw) (w12 hw) (w13 hw) (w14 hw) (by decide) [(.ref a1963), (.ref a1948), (.ref a1948)] [] pd5 rfl rfl (c_add l Z a0 hw t p_ a1963 a1948 a1948 (0 : Int64) (0 : Int64) (0 : Int64) (0 : Int64) (0 : Int64) z2028_0 z2028_1 z2028_2 z2028_3 z2028_4 z2028_0 z2028_1 z2028_2 z2028_3 z2028_4 v2028 v2028 h2028 n0 sz2032 Od2033 S_t S_p Vx2035 Vx2036 gn1977 Vx2037 V2028 V2028 N2028 N2028 L2028 L2028) rfl (W := 0) rfl (by decide) (by decide) (k' := 8) rfl (by decide) (n' := 40) rfl (by decide) (fun h2034 q2034 => ?_)
        obtain ⟨K2034, z2034_0, z2034_1, z2034_2, z2034_3, z2034_4, v2034, V2034, N2034, L2034, C2034⟩ := q2034
        have sz2038 : n0 ≤ h2034.size := (Nat.le_trans sz2032 K2034.1)
        have Od2039 : Old Z n0 h2034 := Od2033.keep K2034 (allS gn1977 all0)
        refine s_aload C at_194 (pc' := 196) rfl rfl rfl ?_
        refine s_iload C at_196 (pc' := 198) rfl rfl ?_
        refine s_iconst C at_198 (pc' := 199) rfl (1 : Int32) rfl ?_
        refine s_iand C at_199 (pc' := 200) rfl ?_
        refine s_foldI C (y := (1 : Int32)) (by decide) ?_
        refine s_if_eq C at_200 (pc' := 203) rfl (pcY := 208) rfl (fun hc => by exfalso; revert hc; decide) (fun c2040 => ?_)
        refine s_aload C at_203 (pc' := 205) rfl rfl rfl ?_
        refine s_goto C at_205 (pc' := 210) rfl ?_
        refine s_iload C at_210 (pc' := 212) rfl rfl ?_
        refine s_iconst C at_212 (pc' := 213) rfl (2 : Int32) rfl ?_
        refine s_iand C at_213 (pc' := 214) rfl ?_
        refine s_foldI C (y := (2 : Int32)) (by decide) ?_
        refine s_if_eq C at_214 (pc' := 217) rfl (pcY := 222) rfl (fun hc => by exfalso; revert hc; decide) (fun c2041 => ?_)
        refine s_aload C at_217 (pc' := 219) rfl rfl rfl ?_
        refine s_goto C at_219 (pc' := 224) rfl ?_
        have Vx2043 := (Vx2035.keep K2034 (ninS ne1976 nin0))
        have Vx2044 := (Vx2036.keep K2034 (ninS ne1974 nin0))
        have Vx2045 := ((((A1980.ext E1999).keep K2021 (ninS (Ne.symm ne1986) nin0)).keep K2028 (ninS (Ne.symm ne1988) nin0)).keep K2034 (ninS (Ne.symm ne1989) nin0))
        have Vx2046 := (((Vx2025.keep K2021 (ninS ne1940 nin0)).keep K2028 (ninS ne1955 nin0)).keep K2034 (ninS ne1972 nin0))
        have Vx2047 := ((V2021.keep K2028 (ninS ne1953 nin0)).keep K2034 (ninS ne1969 nin0))
        refine s_callS0 C at_224 (pc' := 227) rfl (w11 hw) (w12 hw) (w13 hw) (w14 hw) (by decide) [(.ref a1980), (.ref a24), (.ref a1935)] [] pd5 rfl rfl (c_add l Z a0 hw t p_ a1980 a24 a1935 (0 : Int64) (0 : Int64) (0 : Int64) (0 : Int64) (0 : Int64) y0 y1 y2 y3 y4 z2021_0 z2021_1 z2021_2 z2021_3 z2021_4 va v2021 h2034 n0 sz2038 Od2039 S_t S_p Vx2043 Vx2044 gn1996 Vx2045 Vx2046 Vx2047 na N2021 la L2021) rfl (W := 0) rfl (by decide) (by decide) (k' := 8) rfl (by decide) (n' := 40) rfl (by decide) (fun h2042 q2042 => ?_)
        obtain ⟨K2042, z2042_0, z2042_1, z2042_2, z2042_3, z2042_4, v2042, V2042, N2042, L2042, C2042⟩ := q2042
        have sz2048 : n0 ≤ h2042.size := (Nat.le_trans sz2038 K2042.1)
        have Od2049 : Old Z n0 h2042 := Od2039.keep K2042 (allS gn1996 all0)
        refine s_aload C at_227 (pc' := 229) rfl rfl rfl ?_
        refine s_aload C at_229 (pc' := 231) rfl rfl rfl ?_
        refine s_iload C at_231 (pc' := 233) rfl rfl ?_
        refine s_iconst C at_233 (pc' := 234) rfl (4 : Int32) rfl ?_
        refine s_iand C at_234 (pc' := 235) rfl ?_
        refine s_foldI C (y := (4 : Int32)) (by decide) ?_
        refine s_if_eq C at_235 (pc' := 238) rfl (pcY := 243) rfl (fun hc => by exfalso; revert hc; decide) (fun c2050 => ?_)
        refine s_aload C at_238 (pc' := 240) rfl rfl rfl ?_
        refine s_goto C at_240 (pc' := 245) rfl ?_
        have Vx2052 := (Vx2043.keep K2042 (ninS ne1995 nin0))
        have Vx2053 := (Vx2044.keep K2042 (ninS ne1993 nin0))
        have Vx2054 := ((V2028.keep K2034 (ninS ne1970 nin0)).keep K2042 (ninS ne1988 nin0))
        refine s_callS0 C at_245 (pc' := 248) rfl (w11 hw) (w12 hw) (w13 hw) (w14 hw) (by decide) [(.ref a1980), (.ref a1980), (.ref a1948)] [] pd5 rfl rfl (c_add l Z a0 hw t p_ a1980 a1980 a1948 z2042_0 z2042_1 z2042_2 z2042_3 z2042_4 z2042_0 z2042_1 z2042_2 z2042_3 z2042_4 z2028_0 z2028_1 z2028_2 z2028_3 z2028_4 v2042 v2028 h2042 n0 sz2048 Od2049 S_t S_p Vx2052 Vx2053 gn1996 V2042 V2042 Vx2054 N2042 N2028 L2042 L2028) rfl (W := 0) rfl (by decide) (by decide) (k' := 8) rfl (by decide) (n' := 40) rfl (by decide) (fun h2051 q2051 => ?_)
        obtain ⟨K2051, z2051_0, z2051_1, z2051_2, z2051_3, z2051_4, v2051, V2051, N2051, L2051, C2051⟩ := q2051
        have sz2055 : n0 ≤ h2051.size := (Nat.le_trans sz2048 K2051.1)
        have Od2056 : Old Z n0 h2051 := Od2049.keep K2051 (allS gn1996 all0)
        refine s_aload C at_248 (pc' := 250) rfl rfl rfl ?_
        refine s_aload C at_250 (pc' := 252) rfl rfl rfl ?_
        refine s_iload C at_252 (pc' := 254) rfl rfl ?_
        refine s_bipush C at_254 (pc' := 256) rfl (8 : Int32) rfl ?_
        refine s_iand C at_256 (pc' := 257) rfl ?_
        refine s_foldI C (y := (0 : Int32)) (by decide) ?_
        refine s_if_eq C at_257 (pc' := 260) rfl (pcY := 265) rfl (fun c2057 => ?_) (fun hc => by exfalso; revert hc; decide)
        refine s_aload C at_265 (pc' := 267) rfl rfl rfl ?_
        have Vx2059 := (Vx2052.keep K2051 (ninS ne1995 nin0))
        have Vx2060 := (Vx2053.keep K2051 (ninS ne1993 nin0))
        have Vx2061 := ((((((Vx2002.ext E1999).keep K2021 (ninS ne1938 nin0)).keep K2028 (ninS ne1952 nin0)).keep K2034 (ninS ne1967 nin0)).keep K2042 (ninS ne1984 nin0)).keep K2051 (ninS ne1984 nin0))
        refine s_callS0 C at_267 (pc' := 270) rfl (w11 hw) (w12 hw) (w13 hw) (w14 hw) (by decide) [(.ref a1980), (.ref a1980), (.ref a1924)] [] pd5 rfl rfl (c_add l Z a0 hw t p_ a1980 a1980 a1924 z2051_0 z2051_1 z2051_2 z2051_3 z2051_4 z2051_0 z2051_1 z2051_2 z2051_3 z2051_4 (0 : Int64) (0 : Int64) (0 : Int64) (0 : Int64) (0 : Int64) v2051 0 h2051 n0 sz2055 Od2056 S_t S_p Vx2059 Vx2060 gn1996 V2051 V2051 Vx2061 N2051 own_zero L2051 (by decide)) rfl (W := 0) rfl (by decide) (by decide) (k' := 8) rfl (by decide) (n' := 40) rfl (by decide) (fun h2058 q2058 => ?_)
        obtain ⟨K2058, z2058_0, z2058_1, z2058_2, z2058_3, z2058_4, v2058, V2058, N2058, L2058, C2058⟩ := q2058
        have sz2062 : n0 ≤ h2058.size := (Nat.le_trans sz2055 K2058.1)
        have Od2063 : Old Z n0 h2058 := Od2056.keep K2058 (allS gn1996 all0)
        refine s_aload C at_270 (pc' := 272) rfl rfl rfl ?_
        refine s_aload C at_272 (pc' := 274) rfl rfl rfl ?_
        refine s_iload C at_274 (pc' := 276) rfl rfl ?_
        have Vx2065 := ((((((A1999.keep K2021 (ninS (Ne.symm ne2005) nin0)).keep K2028 (ninS (Ne.symm ne2007) nin0)).keep K2034 (ninS (Ne.symm ne2009) nin0)).keep K2042 (ninS (Ne.symm ne2010) nin0)).keep K2051 (ninS (Ne.symm ne2010) nin0)).keep K2058 (ninS (Ne.symm ne2010) nin0))
        have Vx2066 := (((((((Vx2000.ext E1999).keep K2021 (ninS ne1937 nin0)).keep K2028 (ninS ne1950 nin0)).keep K2034 (ninS ne1965 nin0)).keep K2042 (ninS ne1982 nin0)).keep K2051 (ninS ne1982 nin0)).keep K2058 (ninS ne1982 nin0))
        refine s_callS0 C at_276 (pc' := 279) rfl (w22 hw) (w23 hw) (w13 hw) (w24 hw) (by decide) [(.ref a1999), (.ref a1), (.int (7 : Int32))] [] pd3 rfl rfl (c_ms7 l Z a0 hw a1999 a1 (0 : Int64) (0 : Int64) (0 : Int64) (0 : Int64) (0 : Int64) y0 y1 y2 y3 y4 va h2058 n0 sz2062 gn2017 Vx2065 Vx2066 na la) rfl (W := 0) rfl (by decide) (by decide) (k' := 8) rfl (by decide) (n' := 40) rfl (by decide) (fun h2064 q2064 => ?_)
        obtain ⟨K2064, z2064_0, z2064_1, z2064_2, z2064_3, z2064_4, v2064, V2064, N2064, L2064, C2064⟩ := q2064
        have sz2067 : n0 ≤ h2064.size := (Nat.le_trans sz2062 K2064.1)
        have Od2068 : Old Z n0 h2064 := Od2063.keep K2064 (allS gn2017 all0)
        refine s_aload C at_279 (pc' := 281) rfl rfl rfl ?_
        refine s_callSI C at_281 (pc' := 284) rfl (w26 hw) (w27 hw) (w5 hw) (w28 hw) (by decide) [(.ref a1999)] [] pd0 rfl rfl (c_nmz l Z a0 hw a1999 z2064_0 z2064_1 z2064_2 z2064_3 z2064_4 h2064 n0 sz2067 V2064) rfl (W := 0) rfl (by decide) (by decide) (k' := 8) rfl (by decide) (n' := 40) rfl (by decide) (fun _ _ q2069 => ?_)
        obtain ⟨rfl, rfl⟩ := q2069
        refine s_foldI C (y := (1 : Int32)) (own_nmz N2064 L2064) ?_
        refine s_if_ne C at_284 (pc' := 287) rfl (pcY := 289) rfl (fun c2070 => ?_) (fun hc => by exfalso; revert hc; decide)
        refine s_aload C at_289 (pc' := 291) rfl rfl rfl ?_
        refine s_callSI C at_291 (pc' := 294) rfl (w3 hw) (w4 hw) (w5 hw) (w6 hw) (by decide) [(.ref a1999)] [] pd0 rfl rfl (c_blw l Z a0 hw a1999 z2064_0 z2064_1 z2064_2 z2064_3 z2064_4 h2064 n0 sz2067 V2064) rfl (W := 0) rfl (by decide) (by decide) (k' := 8) rfl (by decide) (n' := 40) rfl (by decide) (fun _ _ q2071 => ?_)
        obtain ⟨rfl, rfl⟩ := q2071
        refine s_foldI C (y := (1 : Int32)) ((own_blw N2064).1 L2064) ?_
        refine s_if_eq C at_294 (pc' := 297) rfl (pcY := 313) rfl (fun hc => by exfalso; revert hc; decide) (fun c2072 => ?_)
        refine s_aload C at_297 (pc' := 299) rfl rfl rfl ?_
        refine s_aload C at_299 (pc' := 301) rfl rfl rfl ?_
        have hab : (v2064 - v2058) % 115792089210356248762697446949407573530086143415290314195533631308867097853951 = 0 := own_hab7 C2021 C2028 C2034 C2042 C2051 C2058 C2064
        have Vx2074 := ((Vx2059.keep K2058 (ninS ne1995 nin0)).keep K2064 (ninS ne2016 nin0))
        have Vx2075 := ((Vx2060.keep K2058 (ninS ne1993 nin0)).keep K2064 (ninS ne2014 nin0))
        have Vx2076 := (V2058.keep K2064 (ninS ne2010 nin0))
        refine s_callSL C at_301 (pc' := 304) rfl (w31 hw) (w32 hw) (w13 hw) (w33 hw) (by decide) [(.ref a1999), (.ref a1980)] [] pd2 rfl rfl (c_eq l Z a0 hw t p_ a1999 a1980 z2064_0 z2064_1 z2064_2 z2064_3 z2064_4 z2058_0 z2058_1 z2058_2 z2058_3 z2058_4 v2064 v2058 h2064 n0 sz2067 Od2068 S_t S_p Vx2074 Vx2075 V2064 Vx2076 N2064 N2058 L2064 L2058 hab) rfl (W := 0) rfl (by decide) (by decide) (k' := 10) rfl (by decide) (n' := 50) rfl (by decide) (fun _ h2073 q2073 => ?_)
        obtain ⟨rfl, K2073⟩ := q2073
        have sz2077 : n0 ≤ h2073.size := (Nat.le_trans sz2067 K2073.1)
        have Od2078 : Old Z n0 h2073 := Od2068.keep K2073 all0
        refine s_lconst C at_304 (pc' := 305) rfl (1 : Int64) rfl ?_
        refine s_lc_ne C at_305 (pc1 := 306) rfl at_306 (pc' := 309) rfl (pcY := 313) rfl (fun hc => by exfalso; revert hc; decide) (fun c2079 => ?_)
        refine s_iconst C at_309 (pc' := 310) rfl (1 : Int32) rfl ?_
        refine s_goto C at_310 (pc' := 314) rfl ?_
        exact s_retN C (by simp) at_314 (by decide) (by decide) rfl
      · skip
        refine s_iconst C at_116 (pc' := 117) rfl (1 : Int32) rfl ?_
        refine s_goto C at_117 (pc' := 121) rfl ?_
        refine s_istoreP C at_121 (pc' := 123) rfl #[.val (.long x0), .second, .val (.long x1), .second, .val (.long x2), .second, .val (.long x3), .second, .val (.long x4), .second, .val (.int x5), .val (.long (4503599627370495 : Int64)), .second, .val (.ref a1), .val (.ref a24), .val (.int (7 : Int32)), .val (.int (1 : Int32)), .unset, .unset, .unset, .unset, .unset, .unset, .unset] rfl ?_
        refine s_iconst C at_123 (pc' := 124) rfl (5 : Int32) rfl ?_
        refine s_newarr C (cap := 5) at_124 (pc' := 126) rfl (w1 hw) (by decide) (by decide) (by decide) (k' := 3) rfl (by decide) (n' := 15) rfl (by decide) [(.long (0 : Int64)), (.long (0 : Int64)), (.long (0 : Int64)), (.long (0 : Int64)), (.long (0 : Int64))] rfl (fun h2080 a2080 E2080 g2080 A2080 => ?_)
        have Vx2081 := (Vx49.other W50 ne25)
        have ne2082 : a1 ≠ a2080 := Nat.ne_of_lt (by rw [g2080]; exact Vx2081.lt)
        have ne2083 : a24 ≠ a2080 := Nat.ne_of_lt (by rw [g2080]; exact A50.lt)
        have Vx2084 := ((((((Vx26.ext E24).other W34 ne27).other W38 ne27).other W42 ne27).other W46 ne27).other W50 ne27)
        have ne2085 : p_ ≠ a2080 := Nat.ne_of_lt (by rw [g2080]; exact Vx2084.lt)
        have Vx2086 := ((((((Vx28.ext E24).other W34 ne29).other W38 ne29).other W42 ne29).other W46 ne29).other W50 ne29)
        have ne2087 : t ≠ a2080 := Nat.ne_of_lt (by rw [g2080]; exact Vx2086.lt)
        have gn2088 : n0 ≤ a2080 := by rw [g2080]; exact sz51
        have sz2089 : n0 ≤ h2080.size := (Nat.le_trans sz51 E2080.1)
        have Od2090 : Old Z n0 h2080 := Od52.ext E2080
        refine s_astore C at_126 (pc' := 128) rfl rfl #[.val (.long x0), .second, .val (.long x1), .second, .val (.long x2), .second, .val (.long x3), .second, .val (.long x4), .second, .val (.int x5), .val (.long (4503599627370495 : Int64)), .second, .val (.ref a1), .val (.ref a24), .val (.int (7 : Int32)), .val (.int (1 : Int32)), .val (.ref a2080), .unset, .unset, .unset, .unset, .unset, .unset] rfl ?_
        refine s_iconst C at_128 (pc' := 129) rfl (5 : Int32) rfl ?_
        refine s_newarr C (cap := 5) at_129 (pc' := 131) rfl (w1 hw) (by decide) (by decide) (by decide) (k' := 4) rfl (by decide) (n' := 20) rfl (by decide) [(.long (0 : Int64)), (.long (0 : Int64)), (.long (0 : Int64)), (.long (0 : Int64)), (.long (0 : Int64))] rfl (fun h2091 a2091 E2091 g2091 A2091 => ?_)
        have Vx2092 := (Vx2081.ext E2080)
        have ne2093 : a1 ≠ a2091 := Nat.ne_of_lt (by rw [g2091]; exact Vx2092.lt)
        have ne2094 : a2080 ≠ a2091 := Nat.ne_of_lt (by rw [g2091]; exact A2080.lt)
        have Vx2095 := (A50.ext E2080)
        have ne2096 : a24 ≠ a2091 := Nat.ne_of_lt (by rw [g2091]; exact Vx2095.lt)
        have Vx2097 := (Vx2084.ext E2080)
        have ne2098 : p_ ≠ a2091 := Nat.ne_of_lt (by rw [g2091]; exact Vx2097.lt)
        have Vx2099 := (Vx2086.ext E2080)
        have ne2100 : t ≠ a2091 := Nat.ne_of_lt (by rw [g2091]; exact Vx2099.lt)
        have gn2101 : n0 ≤ a2091 := by rw [g2091]; exact sz2089
        have sz2102 : n0 ≤ h2091.size := (Nat.le_trans sz2089 E2091.1)
        have Od2103 : Old Z n0 h2091 := Od2090.ext E2091
        refine s_astore C at_131 (pc' := 133) rfl rfl #[.val (.long x0), .second, .val (.long x1), .second, .val (.long x2), .second, .val (.long x3), .second, .val (.long x4), .second, .val (.int x5), .val (.long (4503599627370495 : Int64)), .second, .val (.ref a1), .val (.ref a24), .val (.int (7 : Int32)), .val (.int (1 : Int32)), .val (.ref a2080), .val (.ref a2091), .unset, .unset, .unset, .unset, .unset] rfl ?_
        refine s_iconst C at_133 (pc' := 134) rfl (5 : Int32) rfl ?_
        refine s_newarr C (cap := 5) at_134 (pc' := 136) rfl (w1 hw) (by decide) (by decide) (by decide) (k' := 5) rfl (by decide) (n' := 25) rfl (by decide) [(.long (0 : Int64)), (.long (0 : Int64)), (.long (0 : Int64)), (.long (0 : Int64)), (.long (0 : Int64))] rfl (fun h2104 a2104 E2104 g2104 A2104 => ?_)
        have Vx2105 := (Vx2092.ext E2091)
        have ne2106 : a1 ≠ a2104 := Nat.ne_of_lt (by rw [g2104]; exact Vx2105.lt)
        have Vx2107 := (A2080.ext E2091)
        have ne2108 : a2080 ≠ a2104 := Nat.ne_of_lt (by rw [g2104]; exact Vx2107.lt)
        have ne2109 : a2091 ≠ a2104 := Nat.ne_of_lt (by rw [g2104]; exact A2091.lt)
        have Vx2110 := (Vx2095.ext E2091)
        have ne2111 : a24 ≠ a2104 := Nat.ne_of_lt (by rw [g2104]; exact Vx2110.lt)
        have Vx2112 := (Vx2097.ext E2091)
        have ne2113 : p_ ≠ a2104 := Nat.ne_of_lt (by rw [g2104]; exact Vx2112.lt)
        have Vx2114 := (Vx2099.ext E2091)
        have ne2115 : t ≠ a2104 := Nat.ne_of_lt (by rw [g2104]; exact Vx2114.lt)
        have gn2116 : n0 ≤ a2104 := by rw [g2104]; exact sz2102
        have sz2117 : n0 ≤ h2104.size := (Nat.le_trans sz2102 E2104.1)
        have Od2118 : Old Z n0 h2104 := Od2103.ext E2104
        refine s_astore C at_136 (pc' := 138) rfl rfl #[.val (.long x0), .second, .val (.long x1), .second, .val (.long x2), .second, .val (.long x3), .second, .val (.long x4), .second, .val (.int x5), .val (.long (4503599627370495 : Int64)), .second, .val (.ref a1), .val (.ref a24), .val (.int (7 : Int32)), .val (.int (1 : Int32)), .val (.ref a2080), .val (.ref a2091), .val (.ref a2104), .unset, .unset, .unset, .unset] rfl ?_
        refine s_iconst C at_138 (pc' := 139) rfl (5 : Int32) rfl ?_
        refine s_newarr C (cap := 5) at_139 (pc' := 141) rfl (w1 hw) (by decide) (by decide) (by decide) (k' := 6) rfl (by decide) (n' := 30) rfl (by decide) [(.long (0 : Int64)), (.long (0 : Int64)), (.long (0 : Int64)), (.long (0 : Int64)), (.long (0 : Int64))] rfl (fun h2119 a2119 E2119 g2119 A2119 => ?_)
        have Vx2120 := (Vx2105.ext E2104)
        have ne2121 : a1 ≠ a2119 := Nat.ne_of_lt (by rw [g2119]; exact Vx2120.lt)
        have Vx2122 := (Vx2107.ext E2104)
        have ne2123 : a2080 ≠ a2119 := Nat.ne_of_lt (by rw [g2119]; exact Vx2122.lt)
        have Vx2124 := (A2091.ext E2104)
        have ne2125 : a2091 ≠ a2119 := Nat.ne_of_lt (by rw [g2119]; exact Vx2124.lt)
        have ne2126 : a2104 ≠ a2119 := Nat.ne_of_lt (by rw [g2119]; exact A2104.lt)
        have Vx2127 := (Vx2110.ext E2104)
        have ne2128 : a24 ≠ a2119 := Nat.ne_of_lt (by rw [g2119]; exact Vx2127.lt)
        have Vx2129 := (Vx2112.ext E2104)
        have ne2130 : p_ ≠ a2119 := Nat.ne_of_lt (by rw [g2119]; exact Vx2129.lt)
        have Vx2131 := (Vx2114.ext E2104)
        have ne2132 : t ≠ a2119 := Nat.ne_of_lt (by rw [g2119]; exact Vx2131.lt)
        have gn2133 : n0 ≤ a2119 := by rw [g2119]; exact sz2117
        have sz2134 : n0 ≤ h2119.size := (Nat.le_trans sz2117 E2119.1)
        have Od2135 : Old Z n0 h2119 := Od2118.ext E2119
        refine s_astore C at_141 (pc' := 143) rfl rfl #[.val (.long x0), .second, .val (.long x1), .second, .val (.long x2), .second, .val (.long x3), .second, .val (.long x4), .second, .val (.int x5), .val (.long (4503599627370495 : Int64)), .second, .val (.ref a1), .val (.ref a24), .val (.int (7 : Int32)), .val (.int (1 : Int32)), .val (.ref a2080), .val (.ref a2091), .val (.ref a2104), .val (.ref a2119), .unset, .unset, .unset] rfl ?_
        refine s_iconst C at_143 (pc' := 144) rfl (5 : Int32) rfl ?_
        refine s_newarr C (cap := 5) at_144 (pc' := 146) rfl (w1 hw) (by decide) (by decide) (by decide) (k' := 7) rfl (by decide) (n' := 35) rfl (by decide) [(.long (0 : Int64)), (.long (0 : Int64)), (.long (0 : Int64)), (.long (0 : Int64)), (.long (0 : Int64))] rfl (fun h2136 a2136 E2136 g2136 A2136 => ?_)
        have Vx2137 := (Vx2120.ext E2119)
        have ne2138 : a1 ≠ a2136 := Nat.ne_of_lt (by rw [g2136]; exact Vx2137.lt)
        have Vx2139 := (Vx2122.ext E2119)
        have ne2140 : a2080 ≠ a2136 := Nat.ne_of_lt (by rw [g2136]; exact Vx2139.lt)
        have Vx2141 := (Vx2124.ext E2119)
        have ne2142 : a2091 ≠ a2136 := Nat.ne_of_lt (by rw [g2136]; exact Vx2141.lt)
        have Vx2143 := (A2104.ext E2119)
        have ne2144 : a2104 ≠ a2136 := Nat.ne_of_lt (by rw [g2136]; exact Vx2143.lt)
        have ne2145 : a2119 ≠ a2136 := Nat.ne_of_lt (by rw [g2136]; exact A2119.lt)
        have Vx2146 := (Vx2127.ext E2119)
        have ne2147 : a24 ≠ a2136 := Nat.ne_of_lt (by rw [g2136]; exact Vx2146.lt)
        have Vx2148 := (Vx2129.ext E2119)
        have ne2149 : p_ ≠ a2136 := Nat.ne_of_lt (by rw [g2136]; exact Vx2148.lt)
        have Vx2150 := (Vx2131.ext E2119)
        have ne2151 : t ≠ a2136 := Nat.ne_of_lt (by rw [g2136]; exact Vx2150.lt)
        have gn2152 : n0 ≤ a2136 := by rw [g2136]; exact sz2134
        have sz2153 : n0 ≤ h2136.size := (Nat.le_trans sz2134 E2136.1)
        have Od2154 : Old Z n0 h2136 := Od2135.ext E2136
        refine s_astore C at_146 (pc' := 148) rfl rfl #[.val (.long x0), .second, .val (.long x1), .second, .val (.long x2), .second, .val (.long x3), .second, .val (.long x4), .second, .val (.int x5), .val (.long (4503599627370495 : Int64)), .second, .val (.ref a1), .val (.ref a24), .val (.int (7 : Int32)), .val (.int (1 : Int32)), .val (.ref a2080), .val (.ref a2091), .val (.ref a2104), .val (.ref a2119), .val (.ref a2136), .unset, .unset] rfl ?_
        refine s_iconst C at_148 (pc' := 149) rfl (5 : Int32) rfl ?_
        refine s_newarr C (cap := 5) at_149 (pc' := 151) rfl (w1 hw) (by decide) (by decide) (by decide) (k' := 8) rfl (by decide) (n' := 40) rfl (by decide) [(.long (0 : Int64)), (.long (0 : Int64)), (.long (0 : Int64)), (.long (0 : Int64)), (.long (0 : Int64))] rfl (fun h2155 a2155 E2155 g2155 A2155 => ?_)
        have Vx2156 := (Vx2137.ext E2136)
        have ne2157 : a1 ≠ a2155 := Nat.ne_of_lt (by rw [g2155]; exact Vx2156.lt)
        have Vx2158 := (Vx2139.ext E2136)
        have ne2159 : a2080 ≠ a2155 := Nat.ne_of_lt (by rw [g2155]; exact Vx2158.lt)
        have Vx2160 := (Vx2141.ext E2136)
        have ne2161 : a2091 ≠ a2155 := Nat.ne_of_lt (by rw [g2155]; exact Vx2160.lt)
        have Vx2162 := (Vx2143.ext E2136)
        have ne2163 : a2104 ≠ a2155 := Nat.ne_of_lt (by rw [g2155]; exact Vx2162.lt)
        have Vx2164 := (A2119.ext E2136)
        have ne2165 : a2119 ≠ a2155 := Nat.ne_of_lt (by rw [g2155]; exact Vx2164.lt)
        have ne2166 : a2136 ≠ a2155 := Nat.ne_of_lt (by rw [g2155]; exact A2136.lt)
        have Vx2167 := (Vx2146.ext E2136)
        have ne2168 : a24 ≠ a2155 := Nat.ne_of_lt (by rw [g2155]; exact Vx2167.lt)
        have Vx2169 := (Vx2148.ext E2136)
        have ne2170 : p_ ≠ a2155 := Nat.ne_of_lt (by rw [g2155]; exact Vx2169.lt)
        have Vx2171 := (Vx2150.ext E2136)
        have ne2172 : t ≠ a2155 := Nat.ne_of_lt (by rw [g2155]; exact Vx2171.lt)
        have gn2173 : n0 ≤ a2155 := by rw [g2155]; exact sz2153
        have sz2174 : n0 ≤ h2155.size := (Nat.le_trans sz2153 E2155.1)
        have Od2175 : Old Z n0 h2155 := Od2154.ext E2155
        refine s_astore C at_151 (pc' := 153) rfl rfl #[.val (.long x0), .second, .val (.long x1), .second, .val (.long x2), .second, .val (.long x3), .second, .val (.long x4), .second, .val (.int x5), .val (.long (4503599627370495 : Int64)), .second, .val (.ref a1), .val (.ref a24), .val (.int (7 : Int32)), .val (.int (1 : Int32)), .val (.ref a2080), .val (.ref a2091), .val (.ref a2104), .val (.ref a2119), .val (.ref a2136), .val (.ref a2155), .unset] rfl ?_
        refine s_iload C at_153 (pc' := 155) rfl rfl ?_
        refine s_if_eq C at_155 (pc' := 158) rfl (pcY := 163) rfl (fun hc => by exfalso; revert hc; decide) (fun c2176 => ?_)
        refine s_aload C at_158 (pc' := 160) rfl rfl rfl ?_
        refine s_goto C at_160 (pc' := 165) rfl ?_
        refine s_astore C at_165 (pc' := 167) rfl rfl #[.val (.long x0), .second, .val (.long x1), .second, .val (.long x2), .second, .val (.long x3), .second, .val (.long x4), .second, .val (.int x5), .val (.long (4503599627370495 : Int64)), .second, .val (.ref a1), .val (.ref a24), .val (.int (7 : Int32)), .val (.int (1 : Int32)), .val (.ref a2080), .val (.ref a2091), .val (.ref a2104), .val (.ref a2119), .val (.ref a2136), .val (.ref a2155), .val (.ref a1)] rfl ?_
        refine s_aload C at_167 (pc' := 169) rfl rfl rfl ?_
        refine s_aload C at_169 (pc' := 171) rfl rfl rfl ?_
        refine s_aload C at_171 (pc' := 173) rfl rfl rfl ?_
        have Vx2178 := (Vx2171.ext E2155)
        have Vx2179 := (Vx2169.ext E2155)
        have Vx2180 := (Vx2160.ext E2155)
        have Vx2181 := (Vx2167.ext E2155)
        refine s_callS0 C at_173 (pc' := 176) rfl (w11 hw) (w12 hw) (w13 hw) (w14 hw) (by decide) [(.ref a2091), (.ref a24), (.ref a24)] [] pd5 rfl rfl (c_add l Z a0 hw t p_ a2091 a24 a24 (0 : Int64) (0 : Int64) (0 : Int64) (0 : Int64) (0 : Int64) y0 y1 y2 y3 y4 y0 y1 y2 y3 y4 va va h2155 n0 sz2174 Od2175 S_t S_p Vx2178 Vx2179 gn2101 Vx2180 Vx2181 Vx2181 na na la la) rfl (W := 0) rfl (by decide) (by decide) (k' := 8) rfl (by decide) (n' := 40) rfl (by decide) (fun h2177 q2177 => ?_)
        obtain ⟨K2177, z2177_0, z2177_1, z2177_2, z2177_3, z2177_4, v2177, V2177, N2177, L2177, C2177⟩ := q2177
        have sz2182 : n0 ≤ h2177.size := (Nat.le_trans sz2174 K2177.1)
        have Od2183 : Old Z n0 h2177 := Od2175.keep K2177 (allS gn2101 all0)
        refine s_aload C at_176 (pc' := 178) rfl rfl rfl ?_
        refine s_aload C at_178 (pc' := 180) rfl rfl rfl ?_
        refine s_aload C at_180 (pc' := 182) rfl rfl rfl ?_
        have Vx2185 := (Vx2178.keep K2177 (ninS ne2100 nin0))
        have Vx2186 := (Vx2179.keep K2177 (ninS ne2098 nin0))
        have Vx2187 := ((Vx2162.ext E2155).keep K2177 (ninS (Ne.symm ne2109) nin0))
        refine s_callS0 C at_182 (pc' := 185) rfl (w11 hw) (w12 hw) (w13 hw) (w14 hw) (by decide) [(.ref a2104), (.ref a2091), (.ref a2091)] [] pd5 rfl rfl (c_add l Z a0 hw t p_ a2104 a2091 a2091 (0 : Int64) (0 : Int64) (0 : Int64) (0 : Int64) (0 : Int64) z2177_0 z2177_1 z2177_2 z2177_3 z2177_4 z2177_0 z2177_1 z2177_2 z2177_3 z2177_4 v2177 v2177 h2177 n0 sz2182 Od2183 S_t S_p Vx2185 Vx2186 gn2116 Vx2187 V2177 V2177 N2177 N2177 L2177 L2177) rfl (W := 0) rfl (by decide) (by decide) (k' := 8) rfl (by decide) (n' := 40) rfl (by decide) (fun h2184 q2184 => ?_)
        obtain ⟨K2184, z2184_0, z2184_1, z2184_2, z2184_3, z2184_4, v2184, V2184, N2184, L2184, C2184⟩ := q2184
        have sz2188 : n0 ≤ h2184.size := (Nat.le_trans sz2182 K2184.1)
        have Od2189 : Old Z n0 h2184 := Od2183.keep K2184 (allS gn2116 all0)
        refine s_aload C at_185 (pc' := 187) rfl rfl rfl ?_
        refine s_aload C at_187 (pc' := 189) rfl rfl rfl ?_
        refine s_aload C at_189 (pc' := 191) rfl rfl rfl ?_
        have Vx2191 := (Vx2185.keep K2184 (ninS ne2115 nin0))
        have Vx2192 := (Vx2186.keep K2184 (ninS ne2113 nin0))
        have Vx2193 := (((Vx2164.ext E2155).keep K2177 (ninS (Ne.symm ne2125) nin0)).keep K2184 (ninS (Ne.symm ne2126) nin0))
        refine s_callS0 C at_191 (pc' := 194) rfl (w11 hw) (w12 hw) (w13 hw) (w14 hw) (by decide) [(.ref a2119), (.ref a2104), (.ref a2104)] [] pd5 rfl rfl (c_add l Z a0 hw t p_ a2119 a2104 a2104 (0 : Int64) (0 : Int64) (0 : Int64) (0 : Int64) (0 : Int64) z2184_0 z2184_1 z2184_2 z2184_3 z2184_4 z2184_0 z2184_1 z2184_2 z2184_3 z2184_4 v2184 v2184 h2184 n0 sz2188 Od2189 S_t S_p Vx2191 Vx2192 gn2133 Vx2193 V2184 V2184 N2184 N2184 L2184 L2184) rfl (W := 0) rfl (by decide) (by decide) (k' := 8) rfl (by decide) (n' := 40) rfl (by decide) (fun h2190 q2190 => ?_)
        obtain ⟨K2190, z2190_0, z2190_1, z2190_2, z2190_3, z2190_4, v2190, V2190, N2190, L2190, C2190⟩ := q2190
        have sz2194 : n0 ≤ h2190.size := (Nat.le_trans sz2188 K2190.1)
        have Od2195 : Old Z n0 h2190 := Od2189.keep K2190 (allS gn2133 all0)
        refine s_aload C at_194 (pc' := 196) rfl rfl rfl ?_
        refine s_iload C at_196 (pc' := 198) rfl rfl ?_
        refine s_iconst C at_198 (pc' := 199) rfl (1 : Int32) rfl ?_
        refine s_iand C at_199 (pc' := 200) rfl ?_
        refine s_foldI C (y := (1 : Int32)) (by decide) ?_
        refine s_if_eq C at_200 (pc' := 203) rfl (pcY := 208) rfl (fun hc => by exfalso; revert hc; decide) (fun c2196 => ?_)
        refine s_aload C at_203 (pc' := 205) rfl rfl rfl ?_
        refine s_goto C at_205 (pc' := 210) rfl ?_
        refine s_iload C at_210 (pc' := 212) rfl rfl ?_
        refine s_iconst C at_212 (pc' := 213) rfl (2 : Int32) rfl ?_
        refine s_iand C at_213 (pc' := 214) rfl ?_
        refine s_foldI C (y := (2 : Int32)) (by decide) ?_
        refine s_if_eq C at_214 (pc' := 217) rfl (pcY := 222) rfl (fun hc => by exfalso; revert hc; decide) (fun c2197 => ?_)
        refine s_aload C at_217 (pc' := 219) rfl rfl rfl ?_
        refine s_goto C at_219 (pc' := 224) rfl ?_
        have Vx2199 := (Vx2191.keep K2190 (ninS ne2132 nin0))
        have Vx2200 := (Vx2192.keep K2190 (ninS ne2130 nin0))
        have Vx2201 := ((((A2136.ext E2155).keep K2177 (ninS (Ne.symm ne2142) nin0)).keep K2184 (ninS (Ne.symm ne2144) nin0)).keep K2190 (ninS (Ne.symm ne2145) nin0))
        have Vx2202 := (((Vx2181.keep K2177 (ninS ne2096 nin0)).keep K2184 (ninS ne2111 nin0)).keep K2190 (ninS ne2128 nin0))
        have Vx2203 := ((V2177.keep K2184 (ninS ne2109 nin0)).keep K2190 (ninS ne2125 nin0))
        refine s_callS0 C at_224 (pc' := 227) rfl (w11 hw) (w12 hw) (w13 hw) (w14 hw) (by decide) [(.ref a2136), (.ref a24), (.ref a2091)] [] pd5 rfl rfl (c_add l Z a0 hw t p_ a2136 a24 a2091 (0 : Int64) (0 : Int64) (0 : Int64) (0 : Int64) (0 : Int64) y0 y1 y2 y3 y4 z2177_0 z2177_1 z2177_2 z2177_3 z2177_4 va v2177 h2190 n0 sz2194 Od2195 S_t S_p Vx2199 Vx2200 gn2152 Vx2201 Vx2202 Vx2203 na N2177 la L2177) rfl (W := 0) rfl (by decide) (by decide) (k' := 8) rfl (by decide) (n' := 40) rfl (by decide) (fun h2198 q2198 => ?_)
        obtain ⟨K2198, z2198_0, z2198_1, z2198_2, z2198_3, z2198_4, v2198, V2198, N2198, L2198, C2198⟩ := q2198
        have sz2204 : n0 ≤ h2198.size := (Nat.le_trans sz2194 K2198.1)
        have Od2205 : Old Z n0 h2198 := Od2195.keep K2198 (allS gn2152 all0)
        refine s_aload C at_227 (pc' := 229) rfl rfl rfl ?_
        refine s_aload C at_229 (pc' := 231) rfl rfl rfl ?_
        refine s_iload C at_231 (pc' := 233) rfl rfl ?_
        refine s_iconst C at_233 (pc' := 234) rfl (4 : Int32) rfl ?_
        refine s_iand C at_234 (pc' := 235) rfl ?_
        refine s_foldI C (y := (4 : Int32)) (by decide) ?_
        refine s_if_eq C at_235 (pc' := 238) rfl (pcY := 243) rfl (fun hc => by exfalso; revert hc; decide) (fun c2206 => ?_)
        refine s_aload C at_238 (pc' := 240) rfl rfl rfl ?_
        refine s_goto C at_240 (pc' := 245) rfl ?_
        have Vx2208 := (Vx2199.keep K2198 (ninS ne2151 nin0))
        have Vx2209 := (Vx2200.keep K2198 (ninS ne2149 nin0))
        have Vx2210 := ((V2184.keep K2190 (ninS ne2126 nin0)).keep K2198 (ninS ne2144 nin0))
        refine s_callS0 C at_245 (pc' := 248) rfl (w11 hw) (w12 hw) (w13 hw) (w14 hw) (by decide) [(.ref a2136), (.ref a2136), (.ref a2104)] [] pd5 rfl rfl (c_add l Z a0 hw t p_ a2136 a2136 a2104 z2198_0 z2198_1 z2198_2 z2198_3 z2198_4 z2198_0 z2198_1 z2198_2 z2198_3 z2198_4 z2184_0 z2184_1 z2184_2 z2184_3 z2184_4 v2198 v2184 h2198 n0 sz2204 Od2205 S_t S_p Vx2208 Vx2209 gn2152 V2198 V2198 Vx2210 N2198 N2184 L2198 L2184) rfl (W := 0) rfl (by decide) (by decide) (k' := 8) rfl (by decide) (n' := 40) rfl (by decide) (fun h2207 q2207 => ?_)
        obtain ⟨K2207, z2207_0, z2207_1, z2207_2, z2207_3, z2207_4, v2207, V2207, N2207, L2207, C2207⟩ := q2207
        have sz2211 : n0 ≤ h2207.size := (Nat.le_trans sz2204 K2207.1)
        have Od2212 : Old Z n0 h2207 := Od2205.keep K2207 (allS gn2152 all0)
        refine s_aload C at_248 (pc' := 250) rfl rfl rfl ?_
        refine s_aload C at_250 (pc' := 252) rfl rfl rfl ?_
        refine s_iload C at_252 (pc' := 254) rfl rfl ?_
        refine s_bipush C at_254 (pc' := 256) rfl (8 : Int32) rfl ?_
        refine s_iand C at_256 (pc' := 257) rfl ?_
        refine s_foldI C (y := (0 : Int32)) (by decide) ?_
        refine s_if_eq C at_257 (pc' := 260) rfl (pcY := 265) rfl (fun c2213 => ?_) (fun hc => by exfalso; revert hc; decide)
        refine s_aload C at_265 (pc' := 267) rfl rfl rfl ?_
        have Vx2215 := (Vx2208.keep K2207 (ninS ne2151 nin0))
        have Vx2216 := (Vx2209.keep K2207 (ninS ne2149 nin0))
        have Vx2217 := ((((((Vx2158.ext E2155).keep K2177 (ninS ne2094 nin0)).keep K2184 (ninS ne2108 nin0)).keep K2190 (ninS ne2123 nin0)).keep K2198 (ninS ne2140 nin0)).keep K2207 (ninS ne2140 nin0))
        refine s_callS0 C at_267 (pc' := 270) rfl (w11 hw) (w12 hw) (w13 hw) (w14 hw) (by decide) [(.ref a2136), (.ref a2136), (.ref a2080)] [] pd5 rfl rfl (c_add l Z a0 hw t p_ a2136 a2136 a2080 z2207_0 z2207_1 z2207_2 z2207_3 z2207_4 z2207_0 z2207_1 z2207_2 z2207_3 z2207_4 (0 : Int64) (0 : Int64) (0 : Int64) (0 : Int64) (0 : Int64) v2207 0 h2207 n0 sz2211 Od2212 S_t S_p Vx2215 Vx2216 gn2152 V2207 V2207 Vx2217 N2207 own_zero L2207 (by decide)) rfl (W := 0) rfl (by decide) (by decide) (k' := 8) rfl (by decide) (n' := 40) rfl (by decide) (fun h2214 q2214 => ?_)
        obtain ⟨K2214, z2214_0, z2214_1, z2214_2, z2214_3, z2214_4, v2214, V2214, N2214, L2214, C2214⟩ := q2214
        have sz2218 : n0 ≤ h2214.size := (Nat.le_trans sz2211 K2214.1)
        have Od2219 : Old Z n0 h2214 := Od2212.keep K2214 (allS gn2152 all0)
        refine s_aload C at_270 (pc' := 272) rfl rfl rfl ?_
        refine s_aload C at_272 (pc' := 274) rfl rfl rfl ?_
        refine s_iload C at_274 (pc' := 276) rfl rfl ?_
        have Vx2221 := (((((((Vx2156.ext E2155).keep K2177 (ninS ne2093 nin0)).keep K2184 (ninS ne2106 nin0)).keep K2190 (ninS ne2121 nin0)).keep K2198 (ninS ne2138 nin0)).keep K2207 (ninS ne2138 nin0)).keep K2214 (ninS ne2138 nin0))
        refine s_callS0 C at_276 (pc' := 279) rfl (w22 hw) (w23 hw) (w13 hw) (w24 hw) (by decide) [(.ref a1), (.ref a1), (.int (7 : Int32))] [] pd3 rfl rfl (c_ms7 l Z a0 hw a1 a1 y0 y1 y2 y3 y4 y0 y1 y2 y3 y4 va h2214 n0 sz2218 gn4 Vx2221 Vx2221 na la) rfl (W := 0) rfl (by decide) (by decide) (k' := 8) rfl (by decide) (n' := 40) rfl (by decide) (fun h2220 q2220 => ?_)
        obtain ⟨K2220, z2220_0, z2220_1, z2220_2, z2220_3, z2220_4, v2220, V2220, N2220, L2220, C2220⟩ := q2220
        have sz2222 : n0 ≤ h2220.size := (Nat.le_trans sz2218 K2220.1)
        have Od2223 : Old Z n0 h2220 := Od2219.keep K2220 (allS gn4 all0)
        refine s_aload C at_279 (pc' := 281) rfl rfl rfl ?_
        refine s_callSI C at_281 (pc' := 284) rfl (w26 hw) (w27 hw) (w5 hw) (w28 hw) (by decide) [(.ref a1)] [] pd0 rfl rfl (c_nmz l Z a0 hw a1 z2220_0 z2220_1 z2220_2 z2220_3 z2220_4 h2220 n0 sz2222 V2220) rfl (W := 0) rfl (by decide) (by decide) (k' := 8) rfl (by decide) (n' := 40) rfl (by decide) (fun _ _ q2224 => ?_)
        obtain ⟨rfl, rfl⟩ := q2224
        refine s_foldI C (y := (1 : Int32)) (own_nmz N2220 L2220) ?_
        refine s_if_ne C at_284 (pc' := 287) rfl (pcY := 289) rfl (fun c2225 => ?_) (fun hc => by exfalso; revert hc; decide)
        refine s_aload C at_289 (pc' := 291) rfl rfl rfl ?_
        refine s_callSI C at_291 (pc' := 294) rfl (w3 hw) (w4 hw) (w5 hw) (w6 hw) (by decide) [(.ref a1)] [] pd0 rfl rfl (c_blw l Z a0 hw a1 z2220_0 z2220_1 z2220_2 z2220_3 z2220_4 h2220 n0 sz2222 V2220) rfl (W := 0) rfl (by decide) (by decide) (k' := 8) rfl (by decide) (n' := 40) rfl (by decide) (fun _ _ q2226 => ?_)
        obtain ⟨rfl, rfl⟩ := q2226
        refine s_foldI C (y := (1 : Int32)) ((own_blw N2220).1 L2220) ?_
        refine s_if_eq C at_294 (pc' := 297) rfl (pcY := 313) rfl (fun hc => by exfalso; revert hc; decide) (fun c2227 => ?_)
        refine s_aload C at_297 (pc' := 299) rfl rfl rfl ?_
        refine s_aload C at_299 (pc' := 301) rfl rfl rfl ?_
        have hab : (v2220 - v2214) % 115792089210356248762697446949407573530086143415290314195533631308867097853951 = 0 := own_hab7 C2177 C2184 C2190 C2198 C2207 C2214 C2220
        have Vx2229 := ((Vx2215.keep K2214 (ninS ne2151 nin0)).keep K2220 (ninS ne3 nin0))
        have Vx2230 := ((Vx2216.keep K2214 (ninS ne2149 nin0)).keep K2220 (ninS ne2 nin0))
        have Vx2231 := (V2214.keep K2220 (ninS (Ne.symm ne2138) nin0))
        refine s_callSL C at_301 (pc' := 304) rfl (w31 hw) (w32 hw) (w13 hw) (w33 hw) (by decide) [(.ref a1), (.ref a2136)] [] pd2 rfl rfl (c_eq l Z a0 hw t p_ a1 a2136 z2220_0 z2220_1 z2220_2 z2220_3 z2220_4 z2214_0 z2214_1 z2214_2 z2214_3 z2214_4 v2220 v2214 h2220 n0 sz2222 Od2223 S_t S_p Vx2229 Vx2230 V2220 Vx2231 N2220 N2214 L2220 L2214 hab) rfl (W := 0) rfl (by decide) (by decide) (k' := 10) rfl (by decide) (n' := 50) rfl (by decide) (fun _ h2228 q2228 => ?_)
        obtain ⟨rfl, K2228⟩ := q2228
        have sz2232 : n0 ≤ h2228.size := (Nat.le_trans sz2222 K2228.1)
        have Od2233 : Old Z n0 h2228 := Od2223.keep K2228 all0
        refine s_lconst C at_304 (pc' := 305) rfl (1 : Int64) rfl ?_
        refine s_lc_ne C at_305 (pc1 := 306) rfl at_306 (pc' := 309) rfl (pcY := 313) rfl (fun hc => by exfalso; revert hc; decide) (fun c2234 => ?_)
        refine s_iconst C at_309 (pc' := 310) rfl (1 : Int32) rfl ?_
        refine s_goto C at_310 (pc' := 314) rfl ?_
        exact s_retN C (by simp) at_314 (by decide) (by decide) rfl
    · subst q
      refine s_istoreP C at_106 (pc' := 108) rfl #[.val (.long x0), .second, .val (.long x1), .second, .val (.long x2), .second, .val (.long x3), .second, .val (.long x4), .second, .val (.int x5), .val (.long (4503599627370495 : Int64)), .second, .val (.ref a1), .val (.ref a24), .val (.int (8 : Int32)), .unset, .unset, .unset, .unset, .unset, .unset, .unset, .unset] rfl ?_
      refine s_iload C at_108 (pc' := 110) rfl rfl ?_
      refine s_bipush C at_110 (pc' := 112) rfl (8 : Int32) rfl ?_
      refine s_iand C at_112 (pc' := 113) rfl ?_
      refine s_if_eq C at_113 (pc' := 116) rfl (pcY := 120) rfl (fun c2235 => ?_) (fun c2235 => ?_)
      · skip
        refine s_iconst C at_120 (pc' := 121) rfl (0 : Int32) rfl ?_
        refine s_istoreP C at_121 (pc' := 123) rfl #[.val (.long x0), .second, .val (.long x1), .second, .val (.long x2), .second, .val (.long x3), .second, .val (.long x4), .second, .val (.int x5), .val (.long (4503599627370495 : Int64)), .second, .val (.ref a1), .val (.ref a24), .val (.int (8 : Int32)), .val (.int (0 : Int32)), .unset, .unset, .unset, .unset, .unset, .unset, .unset] rfl ?_
        refine s_iconst C at_123 (pc' := 124) rfl (5 : Int32) rfl ?_
        refine s_newarr C (cap := 5) at_124 (pc' := 126) rfl (w1 hw) (by decide) (by decide) (by decide) (k' := 3) rfl (by decide) (n' := 15) rfl (by decide) [(.long (0 : Int64)), (.long (0 : Int64)), (.long (0 : Int64)), (.long (0 : Int64)), (.long (0 : Int64))] rfl (fun h2236 a2236 E2236 g2236 A2236 => ?_)
        have Vx2237 := (Vx49.other W50 ne25)
        have ne2238 : a1 ≠ a2236 := Nat.ne_of_lt (by rw [g2236]; exact Vx2237.lt)
        have ne2239 : a24 ≠ a2236 := Nat.ne_of_lt (by rw [g2236]; exact A50.lt)
        have Vx2240 := ((((((Vx26.ext E24).other W34 ne27).other W38 ne27).other W42 ne27).other W46 ne27).other W50 ne27)
        have ne2241 : p_ ≠ a2236 := Nat.ne_of_lt (by rw [g2236]; exact Vx2240.lt)
        have Vx2242 := ((((((Vx28.ext E24).other W34 ne29).other W38 ne29).other W42 ne29).other W46 ne29).other W50 ne29)
        have ne2243 : t ≠ a2236 := Nat.ne_of_lt (by rw [g2236]; exact Vx2242.lt)
        have gn2244 : n0 ≤ a2236 := by rw [g2236]; exact sz51
        have sz2245 : n0 ≤ h2236.size := (Nat.le_trans sz51 E2236.1)
        have Od2246 : Old Z n0 h2236 := Od52.ext E2236
        refine s_astore C at_126 (pc' := 128) rfl rfl #[.val (.long x0), .second, .val (.long x1), .second, .val (.long x2), .second, .val (.long x3), .second, .val (.long x4), .second, .val (.int x5), .val (.long (4503599627370495 : Int64)), .second, .val (.ref a1), .val (.ref a24), .val (.int (8 : Int32)), .val (.int (0 : Int32)), .val (.ref a2236), .unset, .unset, .unset, .unset, .unset, .unset] rfl ?_
        refine s_iconst C at_128 (pc' := 129) rfl (5 : Int32) rfl ?_
        refine s_newarr C (cap := 5) at_129 (pc' := 131) rfl (w1 hw) (by decide) (by decide) (by decide) (k' := 4) rfl (by decide) (n' := 20) rfl (by decide) [(.long (0 : Int64)), (.long (0 : Int64)), (.long (0 : Int64)), (.long (0 : Int64)), (.long (0 : Int64))] rfl (fun h2247 a2247 E2247 g2247 A2247 => ?_)
        have Vx2248 := (Vx2237.ext E2236)
        have ne2249 : a1 ≠ a2247 := Nat.ne_of_lt (by rw [g2247]; exact Vx2248.lt)
        have ne2250 : a2236 ≠ a2247 := Nat.ne_of_lt (by rw [g2247]; exact A2236.lt)
        have Vx2251 := (A50.ext E2236)
        have ne2252 : a24 ≠ a2247 := Nat.ne_of_lt (by rw [g2247]; exact Vx2251.lt)
        have Vx2253 := (Vx2240.ext E2236)
        have ne2254 : p_ ≠ a2247 := Nat.ne_of_lt (by rw [g2247]; exact Vx2253.lt)
        have Vx2255 := (Vx2242.ext E2236)
        have ne2256 : t ≠ a2247 := Nat.ne_of_lt (by rw [g2247]; exact Vx2255.lt)
        have gn2257 : n0 ≤ a2247 := by rw [g2247]; exact sz2245
        have sz2258 : n0 ≤ h2247.size := (Nat.le_trans sz2245 E2247.1)
        have Od2259 : Old Z n0 h2247 := Od2246.ext E2247
        refine s_astore C at_131 (pc' := 133) rfl rfl #[.val (.long x0), .second, .val (.long x1), .second, .val (.long x2), .second, .val (.long x3), .second, .val (.long x4), .second, .val (.int x5), .val (.long (4503599627370495 : Int64)), .second, .val (.ref a1), .val (.ref a24), .val (.int (8 : Int32)), .val (.int (0 : Int32)), .val (.ref a2236), .val (.ref a2247), .unset, .unset, .unset, .unset, .unset] rfl ?_
        refine s_iconst C at_133 (pc' := 134) rfl (5 : Int32) rfl ?_
        refine s_newarr C (cap := 5) at_134 (pc' := 136) rfl (w1 hw) (by decide) (by decide) (by decide) (k' := 5) rfl (by decide) (n' := 25) rfl (by decide) [(.long (0 : Int64)), (.long (0 : Int64)), (.long (0 : Int64)), (.long (0 : Int64)), (.long (0 : Int64))] rfl (fun h2260 a2260 E2260 g2260 A2260 => ?_)
        have Vx2261 := (Vx2248.ext E2247)
        have ne2262 : a1 ≠ a2260 := Nat.ne_of_lt (by rw [g2260]; exact Vx2261.lt)
        have Vx2263 := (A2236.ext E2247)
        have ne2264 : a2236 ≠ a2260 := Nat.ne_of_lt (by rw [g2260]; exact Vx2263.lt)
        have ne2265 : a2247 ≠ a2260 := Nat.ne_of_lt (by rw [g2260]; exact A2247.lt)
        have Vx2266 := (Vx2251.ext E2247)
        have ne2267 : a24 ≠ a2260 := Nat.ne_of_lt (by rw [g2260]; exact Vx2266.lt)
        have Vx2268 := (Vx2253.ext E2247)
        have ne2269 : p_ ≠ a2260 := Nat.ne_of_lt (by rw [g2260]; exact Vx2268.lt)
        have Vx2270 := (Vx2255.ext E2247)
        have ne2271 : t ≠ a2260 := Nat.ne_of_lt (by rw [g2260]; exact Vx2270.lt)
        have gn2272 : n0 ≤ a2260 := by rw [g2260]; exact sz2258
        have sz2273 : n0 ≤ h2260.size := (Nat.le_trans sz2258 E2260.1)
        have Od2274 : Old Z n0 h2260 := Od2259.ext E2260
        refine s_astore C at_136 (pc' := 138) rfl rfl #[.val (.long x0), .second, .val (.long x1), .second, .val (.long x2), .second, .val (.long x3), .second, .val (.long x4), .second, .val (.int x5), .val (.long (4503599627370495 : Int64)), .second, .val (.ref a1), .val (.ref a24), .val (.int (8 : Int32)), .val (.int (0 : Int32)), .val (.ref a2236), .val (.ref a2247), .val (.ref a2260), .unset, .unset, .unset, .unset] rfl ?_
        refine s_iconst C at_138 (pc' := 139) rfl (5 : Int32) rfl ?_
        refine s_newarr C (cap := 5) at_139 (pc' := 141) rfl (w1 hw) (by decide) (by decide) (by decide) (k' := 6) rfl (by decide) (n' := 30) rfl (by decide) [(.long (0 : Int64)), (.long (0 : Int64)), (.long (0 : Int64)), (.long (0 : Int64)), (.long (0 : Int64))] rfl (fun h2275 a2275 E2275 g2275 A2275 => ?_)
        have Vx2276 := (Vx2261.ext E2260)
        have ne2277 : a1 ≠ a2275 := Nat.ne_of_lt (by rw [g2275]; exact Vx2276.lt)
        have Vx2278 := (Vx2263.ext E2260)
        have ne2279 : a2236 ≠ a2275 := Nat.ne_of_lt (by rw [g2275]; exact Vx2278.lt)
        have Vx2280 := (A2247.ext E2260)
        have ne2281 : a2247 ≠ a2275 := Nat.ne_of_lt (by rw [g2275]; exact Vx2280.lt)
        have ne2282 : a2260 ≠ a2275 := Nat.ne_of_lt (by rw [g2275]; exact A2260.lt)
        have Vx2283 := (Vx2266.ext E2260)
        have ne2284 : a24 ≠ a2275 := Nat.ne_of_lt (by rw [g2275]; exact Vx2283.lt)
        have Vx2285 := (Vx2268.ext E2260)
        have ne2286 : p_ ≠ a2275 := Nat.ne_of_lt (by rw [g2275]; exact Vx2285.lt)
        have Vx2287 := (Vx2270.ext E2260)
        have ne2288 : t ≠ a2275 := Nat.ne_of_lt (by rw [g2275]; exact Vx2287.lt)
        have gn2289 : n0 ≤ a2275 := by rw [g2275]; exact sz2273
        have sz2290 : n0 ≤ h2275.size := (Nat.le_trans sz2273 E2275.1)
        have Od2291 : Old Z n0 h2275 := Od2274.ext E2275
        refine s_astore C at_141 (pc' := 143) rfl rfl #[.val (.long x0), .second, .val (.long x1), .second, .val (.long x2), .second, .val (.long x3), .second, .val (.long x4), .second, .val (.int x5), .val (.long (4503599627370495 : Int64)), .second, .val (.ref a1), .val (.ref a24), .val (.int (8 : Int32)), .val (.int (0 : Int32)), .val (.ref a2236), .val (.ref a2247), .val (.ref a2260), .val (.ref a2275), .unset, .unset, .unset] rfl ?_
        refine s_iconst C at_143 (pc' := 144) rfl (5 : Int32) rfl ?_
        refine s_newarr C (cap := 5) at_144 (pc' := 146) rfl (w1 hw) (by decide) (by decide) (by decide) (k' := 7) rfl (by decide) (n' := 35) rfl (by decide) [(.long (0 : Int64)), (.long (0 : Int64)), (.long (0 : Int64)), (.long (0 : Int64)), (.long (0 : Int64))] rfl (fun h2292 a2292 E2292 g2292 A2292 => ?_)
        have Vx2293 := (Vx2276.ext E2275)
        have ne2294 : a1 ≠ a2292 := Nat.ne_of_lt (by rw [g2292]; exact Vx2293.lt)
        have Vx2295 := (Vx2278.ext E2275)
        have ne2296 : a2236 ≠ a2292 := Nat.ne_of_lt (by rw [g2292]; exact Vx2295.lt)
        have Vx2297 := (Vx2280.ext E2275)
        have ne2298 : a2247 ≠ a2292 := Nat.ne_of_lt (by rw [g2292]; exact Vx2297.lt)
        have Vx2299 := (A2260.ext E2275)
        have ne2300 : a2260 ≠ a2292 := Nat.ne_of_lt (by rw [g2292]; exact Vx2299.lt)
        have ne2301 : a2275 ≠ a2292 := Nat.ne_of_lt (by rw [g2292]; exact A2275.lt)
        have Vx2302 := (Vx2283.ext E2275)
        have ne2303 : a24 ≠ a2292 := Nat.ne_of_lt (by rw [g2292]; exact Vx2302.lt)
        have Vx2304 := (Vx2285.ext E2275)
        have ne2305 : p_ ≠ a2292 := Nat.ne_of_lt (by rw [g2292]; exact Vx2304.lt)
        have Vx2306 := (Vx2287.ext E2275)
        have ne2307 : t ≠ a2292 := Nat.ne_of_lt (by rw [g2292]; exact Vx2306.lt)
        have gn2308 : n0 ≤ a2292 := by rw [g2292]; exact sz2290
        have sz2309 : n0 ≤ h2292.size := (Nat.le_trans sz2290 E2292.1)
        have Od2310 : Old Z n0 h2292 := Od2291.ext E2292
        refine s_astore C at_146 (pc' := 148) rfl rfl #[.val (.long x0), .second, .val (.long x1), .second, .val (.long x2), .second, .val (.long x3), .second, .val (.long x4), .second, .val (.int x5), .val (.long (4503599627370495 : Int64)), .second, .val (.ref a1), .val (.ref a24), .val (.int (8 : Int32)), .val (.int (0 : Int32)), .val (.ref a2236), .val (.ref a2247), .val (.ref a2260), .val (.ref a2275), .val (.ref a2292), .unset, .unset] rfl ?_
        refine s_iconst C at_148 (pc' := 149) rfl (5 : Int32) rfl ?_
        refine s_newarr C (cap := 5) at_149 (pc' := 151) rfl (w1 hw) (by decide) (by decide) (by decide) (k' := 8) rfl (by decide) (n' := 40) rfl (by decide) [(.long (0 : Int64)), (.long (0 : Int64)), (.long (0 : Int64)), (.long (0 : Int64)), (.long (0 : Int64))] rfl (fun h2311 a2311 E2311 g2311 A2311 => ?_)
        have Vx2312 := (Vx2293.ext E2292)
        have ne2313 : a1 ≠ a2311 := Nat.ne_of_lt (by rw [g2311]; exact Vx2312.lt)
        have Vx2314 := (Vx2295.ext E2292)
        have ne2315 : a2236 ≠ a2311 := Nat.ne_of_lt (by rw [g2311]; exact Vx2314.lt)
        have Vx2316 := (Vx2297.ext E2292)
        have ne2317 : a2247 ≠ a2311 := Nat.ne_of_lt (by rw [g2311]; exact Vx2316.lt)
        have Vx2318 := (Vx2299.ext E2292)
        have ne2319 : a2260 ≠ a2311 := Nat.ne_of_lt (by rw [g2311]; exact Vx2318.lt)
        have Vx2320 := (A2275.ext E2292)
        have ne2321 : a2275 ≠ a2311 := Nat.ne_of_lt (by rw [g2311]; exact Vx2320.lt)
        have ne2322 : a2292 ≠ a2311 := Nat.ne_of_lt (by rw [g2311]; exact A2292.lt)
        have Vx2323 := (Vx2302.ext E2292)
        have ne2324 : a24 ≠ a2311 := Nat.ne_of_lt (by rw [g2311]; exact Vx2323.lt)
        have Vx2325 := (Vx2304.ext E2292)
        have ne2326 : p_ ≠ a2311 := Nat.ne_of_lt (by rw [g2311]; exact Vx2325.lt)
        have Vx2327 := (Vx2306.ext E2292)
        have ne2328 : t ≠ a2311 := Nat.ne_of_lt (by rw [g2311]; exact Vx2327.lt)
        have gn2329 : n0 ≤ a2311 := by rw [g2311]; exact sz2309
        have sz2330 : n0 ≤ h2311.size := (Nat.le_trans sz2309 E2311.1)
        have Od2331 : Old Z n0 h2311 := Od2310.ext E2311
        refine s_astore C at_151 (pc' := 153) rfl rfl #[.val (.long x0), .second, .val (.long x1), .second, .val (.long x2), .second, .val (.long x3), .second, .val (.long x4), .second, .val (.int x5), .val (.long (4503599627370495 : Int64)), .second, .val (.ref a1), .val (.ref a24), .val (.int (8 : Int32)), .val (.int (0 : Int32)), .val (.ref a2236), .val (.ref a2247), .val (.ref a2260), .val (.ref a2275), .val (.ref a2292), .val (.ref a2311), .unset] rfl ?_
        refine s_iload C at_153 (pc' := 155) rfl rfl ?_
        refine s_if_eq C at_155 (pc' := 158) rfl (pcY := 163) rfl (fun c2332 => ?_) (fun hc => by exfalso; revert hc; decide)
        refine s_aload C at_163 (pc' := 165) rfl rfl rfl ?_
        refine s_astore C at_165 (pc' := 167) rfl rfl #[.val (.long x0), .second, .val (.long x1), .second, .val (.long x2), .second, .val (.long x3), .second, .val (.long x4), .second, .val (.int x5), .val (.long (4503599627370495 : Int64)), .second, .val (.ref a1), .val (.ref a24), .val (.int (8 : Int32)), .val (.int (0 : Int32)), .val (.ref a2236), .val (.ref a2247), .val (.ref a2260), .val (.ref a2275), .val (.ref a2292), .val (.ref a2311), .val (.ref a2311)] rfl ?_
        refine s_aload C at_167 (pc' := 169) rfl rfl rfl ?_
        refine s_aload C at_169 (pc' := 171) rfl rfl rfl ?_
        refine s_aload C at_171 (pc' := 173) rfl rfl rfl ?_
        have Vx2334 := (Vx2327.ext E2311)
        have Vx2335 := (Vx2325.ext E2311)
        have Vx2336 := (Vx2316.ext E2311)
        have Vx2337 := (Vx2323.ext E2311)
        refine s_callS0 C at_173 (pc' := 176) rfl (w11 hw) (w12 hw) (w13 hw) (w14 hw) (by decide) [(.ref a2247), (.ref a24), (.ref a24)] [] pd5 rfl rfl (c_add l Z a0 hw t p_ a2247 a24 a24 (0 : Int64) (0 : Int64) (0 : Int64) (0 : Int64) (0 : Int64) y0 y1 y2 y3 y4 y0 y1 y2 y3 y4 va va h2311 n0 sz2330 Od2331 S_t S_p Vx2334 Vx2335 gn2257 Vx2336 Vx2337 Vx2337 na na la la) rfl (W := 0) rfl (by decide) (by decide) (k' := 8) rfl (by decide) (n' := 40) rfl (by decide) (fun h2333 q2333 => ?_)
        obtain ⟨K2333, z2333_0, z2333_1, z2333_2, z2333_3, z2333_4, v2333, V2333, N2333, L2333, C2333⟩ := q2333
        have sz2338 : n0 ≤ h2333.size := (Nat.le_trans sz2330 K2333.1)
        have Od2339 : Old Z n0 h2333 := Od2331.keep K2333 (allS gn2257 all0)
        refine s_aload C at_176 (pc' := 178) rfl rfl rfl ?_
        refine s_aload C at_178 (pc' := 180) rfl rfl rfl ?_
        refine s_aload C at_180 (pc' := 182) rfl rfl rfl ?_
        have Vx2341 := (Vx2334.keep K2333 (ninS ne2256 nin0))
        have Vx2342 := (Vx2335.keep K2333 (ninS ne2254 nin0))
        have Vx2343 := ((Vx2318.ext E2311).keep K2333 (ninS (Ne.symm ne2265) nin0))
        refine s_callS0 C at_182 (pc' := 185) rfl (w11 hw) (w12 hw) (w13 hw) (w14 hw) (by decide) [(.ref a2260), (.ref a2247), (.ref a2247)] [] pd5 rfl rfl (c_add l Z a0 hw t p_ a2260 a2247 a2247 (0 : Int64) (0 : Int64) (0 : Int64) (0 : Int64) (0 : Int64) z2333_0 z2333_1 z2333_2 z2333_3 z2333_4 z2333_0 z2333_1 z2333_2 z2333_3 z2333_4 v2333 v2333 h2333 n0 sz2338 Od2339 S_t S_p Vx2341 Vx2342 gn2272 Vx2343 V2333 V2333 N2333 N2333 L2333 L2333) rfl (W := 0) rfl (by decide) (by decide) (k' := 8) rfl (by decide) (n' := 40) rfl (by decide) (fun h2340 q2340 => ?_)
        obtain ⟨K2340, z2340_0, z2340_1, z2340_2, z2340_3, z2340_4, v2340, V2340, N2340, L2340, C2340⟩ := q2340
        have sz2344 : n0 ≤ h2340.size := (Nat.le_trans sz2338 K2340.1)
        have Od2345 : Old Z n0 h2340 := Od2339.keep K2340 (allS gn2272 all0)
        refine s_aload C at_185 (pc' := 187) rfl rfl rfl ?_
        refine s_aload C at_187 (pc' := 189) rfl rfl rfl ?_
        refine s_aload C at_189 (pc' := 191) rfl rfl rfl ?_
        have Vx2347 := (Vx2341.keep K2340 (ninS ne2271 nin0))
        have Vx2348 := (Vx2342.keep K2340 (ninS ne2269 nin0))
        have Vx2349 := (((Vx2320.ext E2311).keep K2333 (ninS (Ne.symm ne2281) nin0)).keep K2340 (ninS (Ne.symm ne2282) nin0))
        refine s_callS0 C at_191 (pc' := 194) rfl (w11 hw) (w12 hw) (w13 hw) (w14 hw) (by decide) [(.ref a2275), (.ref a2260), (.ref a2260)] [] pd5 rfl rfl (c_add l Z a0 hw t p_ a2275 a2260 a2260 (0 : Int64) (0 : Int64) (0 : Int64) (0 : Int64) (0 : Int64) z2340_0 z2340_1 z2340_2 z2340_3 z2340_4 z2340_0 z2340_1 z2340_2 z2340_3 z2340_4 v2340 v2340 h2340 n0 sz2344 Od2345 S_t S_p Vx2347 Vx2348 gn2289 Vx2349 V2340 V2340 N2340 N2340 L2340 L2340) rfl (W := 0) rfl (by decide) (by decide) (k' := 8) rfl (by decide) (n' := 40) rfl (by decide) (fun h2346 q2346 => ?_)
        obtain ⟨K2346, z2346_0, z2346_1, z2346_2, z2346_3, z2346_4, v2346, V2346, N2346, L2346, C2346⟩ := q2346
        have sz2350 : n0 ≤ h2346.size := (Nat.le_trans sz2344 K2346.1)
        have Od2351 : Old Z n0 h2346 := Od2345.keep K2346 (allS gn2289 all0)
        refine s_aload C at_194 (pc' := 196) rfl rfl rfl ?_
        refine s_iload C at_196 (pc' := 198) rfl rfl ?_
        refine s_iconst C at_198 (pc' := 199) rfl (1 : Int32) rfl ?_
        refine s_iand C at_199 (pc' := 200) rfl ?_
        refine s_foldI C (y := (0 : Int32)) (by decide) ?_
        refine s_if_eq C at_200 (pc' := 203) rfl (pcY := 208) rfl (fun c2352 => ?_) (fun hc => by exfalso; revert hc; decide)
        refine s_aload C at_208 (pc' := 210) rfl rfl rfl ?_
        refine s_iload C at_210 (pc' := 212) rfl rfl ?_
        refine s_iconst C at_212 (pc' := 213) rfl (2 : Int32) rfl ?_
        refine s_iand C at_213 (pc' := 214) rfl ?_
        refine s_foldI C (y := (0 : Int32)) (by decide) ?_
        refine s_if_eq C at_214 (pc' := 217) rfl (pcY := 222) rfl (fun c2353 => ?_) (fun hc => by exfalso; revert hc; decide)
        refine s_aload C at_222 (pc' := 224) rfl rfl rfl ?_
        have Vx2355 := (Vx2347.keep K2346 (ninS ne2288 nin0))
        have Vx2356 := (Vx2348.keep K2346 (ninS ne2286 nin0))
        have Vx2357 := ((((A2292.ext E2311).keep K2333 (ninS (Ne.symm ne2298) nin0)).keep K2340 (ninS (Ne.symm ne2300) nin0)).keep K2346 (ninS (Ne.symm ne2301) nin0))
        have Vx2358 := ((((Vx2314.ext E2311).keep K2333 (ninS ne2250 nin0)).keep K2340 (ninS ne2264 nin0)).keep K2346 (ninS ne2279 nin0))
        refine s_callS0 C at_224 (pc' := 227) rfl (w11 hw) (w12 hw) (w13 hw) (w14 hw) (by decide) [(.ref a2292), (.ref a2236), (.ref a2236)] [] pd5 rfl rfl (c_add l Z a0 hw t p_ a2292 a2236 a2236 (0 : Int64) (0 : Int64) (0 : Int64) (0 : Int64) (0 : Int64) (0 : Int64) (0 : Int64) (0 : Int64) (0 : Int64) (0 : Int64) (0 : Int64) (0 : Int64) (0 : Int64) (0 : Int64) (0 : Int64) 0 0 h2346 n0 sz2350 Od2351 S_t S_p Vx2355 Vx2356 gn2308 Vx2357 Vx2358 Vx2358 own_zero own_zero (by decide) (by decide)) rfl (W := 0) rfl (by decide) (by decide) (k' := 8) rfl (by decide) (n' := 40) rfl (by decide) (fun h2354 q2354 => ?_)
        obtain ⟨K2354, z2354_0, z2354_1, z2354_2, z2354_3, z2354_4, v2354, V2354, N2354, L2354, C2354⟩ := q2354
        have sz2359 : n0 ≤ h2354.size := (Nat.le_trans sz2350 K2354.1)
        have Od2360 : Old Z n0 h2354 := Od2351.keep K2354 (allS gn2308 all0)
        refine s_aload C at_227 (pc' := 229) rfl rfl rfl ?_
        refine s_aload C at_229 (pc' := 231) rfl rfl rfl ?_
        refine s_iload C at_231 (pc' := 233) rfl rfl ?_
        refine s_iconst C at_233 (pc' := 234) rfl (4 : Int32) rfl ?_
        refine s_iand C at_234 (pc' := 235) rfl ?_
        refine s_foldI C (y := (0 : Int32)) (by decide) ?_
        refine s_if_eq C at_235 (pc' := 238) rfl (pcY := 243) rfl (fun c2361 => ?_) (fun hc => by exfalso; revert hc; decide)
        refine s_aload C at_243 (pc' := 245) rfl rfl rfl ?_
        have Vx2363 := (Vx2355.keep K2354 (ninS ne2307 nin0))
        have Vx2364 := (Vx2356.keep K2354 (ninS ne2305 nin0))
        have Vx2365 := (Vx2358.keep K2354 (ninS ne2296 nin0))
        refine s_callS0 C at_245 (pc' := 248) rfl (w11 hw) (w12 hw) (w13 hw) (w14 hw) (by decide) [(.ref a2292), (.ref a2292), (.ref a2236)] [] pd5 rfl rfl (c_add l Z a0 hw t p_ a2292 a2292 a2236 z2354_0 z2354_1 z2354_2 z2354_3 z2354_4 z2354_0 z2354_1 z2354_2 z2354_3 z2354_4 (0 : Int64) (0 : Int64) (0 : Int64) (0 : Int64) (0 : Int64) v2354 0 h2354 n0 sz2359 Od2360 S_t S_p Vx2363 Vx2364 gn2308 V2354 V2354 Vx2365 N2354 own_zero L2354 (by decide)) rfl (W := 0) rfl (by decide) (by decide) (k' := 8) rfl (by decide) (n' := 40) rfl (by decide) (fun h2362 q2362 => ?_)
        obtain ⟨K2362, z2362_0, z2362_1, z2362_2, z2362_3, z2362_4, v2362, V2362, N2362, L2362, C2362⟩ := q2362
        have sz2366 : n0 ≤ h2362.size := (Nat.le_trans sz2359 K2362.1)
        have Od2367 : Old Z n0 h2362 := Od2360.keep K2362 (allS gn2308 all0)
        refine s_aload C at_248 (pc' := 250) rfl rfl rfl ?_
        refine s_aload C at_250 (pc' := 252) rfl rfl rfl ?_
        refine s_iload C at_252 (pc' := 254) rfl rfl ?_
        refine s_bipush C at_254 (pc' := 256) rfl (8 : Int32) rfl ?_
        refine s_iand C at_256 (pc' := 257) rfl ?_
        refine s_foldI C (y := (8 : Int32)) (by decide) ?_
        refine s_if_eq C at_257 (pc' := 260) rfl (pcY := 265) rfl (fun hc => by exfalso; revert hc; decide) (fun c2368 => ?_)
        refine s_aload C at_260 (pc' := 262) rfl rfl rfl ?_
        refine s_goto C at_262 (pc' := 267) rfl ?_
        have Vx2370 := (Vx2363.keep K2362 (ninS ne2307 nin0))
        have Vx2371 := (Vx2364.keep K2362 (ninS ne2305 nin0))
        have Vx2372 := ((V2346.keep K2354 (ninS ne2301 nin0)).keep K2362 (ninS ne2301 nin0))
        refine s_callS0 C at_267 (pc' := 270) rfl (w11 hw) (w12 hw) (w13 hw) (w14 hw) (by decide) [(.ref a2292), (.ref a2292), (.ref a2275)] [] pd5 rfl rfl (c_add l Z a0 hw t p_ a2292 a2292 a2275 z2362_0 z2362_1 z2362_2 z2362_3 z2362_4 z2362_0 z2362_1 z2362_2 z2362_3 z2362_4 z2346_0 z2346_1 z2346_2 z2346_3 z2346_4 v2362 v2346 h2362 n0 sz2366 Od2367 S_t S_p Vx2370 Vx2371 gn2308 V2362 V2362 Vx2372 N2362 N2346 L2362 L2346) rfl (W := 0) rfl (by decide) (by decide) (k' := 8) rfl (by decide) (n' := 40) rfl (by decide) (fun h2369 q2369 => ?_)
        obtain ⟨K2369, z2369_0, z2369_1, z2369_2, z2369_3, z2369_4, v2369, V2369, N2369, L2369, C2369⟩ := q2369
        have sz2373 : n0 ≤ h2369.size := (Nat.le_trans sz2366 K2369.1)
        have Od2374 : Old Z n0 h2369 := Od2367.keep K2369 (allS gn2308 all0)
        refine s_aload C at_270 (pc' := 272) rfl rfl rfl ?_
        refine s_aload C at_272 (pc' := 274) rfl rfl rfl ?_
        refine s_iload C at_274 (pc' := 276) rfl rfl ?_
        have Vx2376 := ((((((A2311.keep K2333 (ninS (Ne.symm ne2317) nin0)).keep K2340 (ninS (Ne.symm ne2319) nin0)).keep K2346 (ninS (Ne.symm ne2321) nin0)).keep K2354 (ninS (Ne.symm ne2322) nin0)).keep K2362 (ninS (Ne.symm ne2322) nin0)).keep K2369 (ninS (Ne.symm ne2322) nin0))
        have Vx2377 := (((((((Vx2312.ext E2311).keep K2333 (ninS ne2249 nin0)).keep K2340 (ninS ne2262 nin0)).keep K2346 (ninS ne2277 nin0)).keep K2354 (ninS ne2294 nin0)).keep K2362 (ninS ne2294 nin0)).keep K2369 (ninS ne2294 nin0))
        refine s_callS0 C at_276 (pc' := 279) rfl (w22 hw) (w23 hw) (w13 hw) (w24 hw) (by decide) [(.ref a2311), (.ref a1), (.int (8 : Int32))] [] pd3 rfl rfl (c_ms8 l Z a0 hw a2311 a1 (0 : Int64) (0 : Int64) (0 : Int64) (0 : Int64) (0 : Int64) y0 y1 y2 y3 y4 va h2369 n0 sz2373 gn2329 Vx2376 Vx2377 na la) rfl (W := 0) rfl (by decide) (by decide) (k' := 8) rfl (by decide) (n' := 40) rfl (by decide) (fun h2375 q2375 => ?_)
        obtain ⟨K2375, z2375_0, z2375_1, z2375_2, z2375_3, z2375_4, v2375, V2375, N2375, L2375, C2375⟩ := q2375
        have sz2378 : n0 ≤ h2375.size := (Nat.le_trans sz2373 K2375.1)
        have Od2379 : Old Z n0 h2375 := Od2374.keep K2375 (allS gn2329 all0)
        refine s_aload C at_279 (pc' := 281) rfl rfl rfl ?_
        refine s_callSI C at_281 (pc' := 284) rfl (w26 hw) (w27 hw) (w5 hw) (w28 hw) (by decide) [(.ref a2311)] [] pd0 rfl rfl (c_nmz l Z a0 hw a2311 z2375_0 z2375_1 z2375_2 z2375_3 z2375_4 h2375 n0 sz2378 V2375) rfl (W := 0) rfl (by decide) (by decide) (k' := 8) rfl (by decide) (n' := 40) rfl (by decide) (fun _ _ q2380 => ?_)
        obtain ⟨rfl, rfl⟩ := q2380
        refine s_foldI C (y := (1 : Int32)) (own_nmz N2375 L2375) ?_
        refine s_if_ne C at_284 (pc' := 287) rfl (pcY := 289) rfl (fun c2381 => ?_) (fun hc => by exfalso; revert hc; decide)
        refine s_aload C at_289 (pc' := 291) rfl rfl rfl ?_
        refine s_callSI C at_291 (pc' := 294) rfl (w3 hw) (w4 hw) (w5 hw) (w6 hw) (by decide) [(.ref a2311)] [] pd0 rfl rfl (c_blw l Z a0 hw a2311 z2375_0 z2375_1 z2375_2 z2375_3 z2375_4 h2375 n0 sz2378 V2375) rfl (W := 0) rfl (by decide) (by decide) (k' := 8) rfl (by decide) (n' := 40) rfl (by decide) (fun _ _ q2382 => ?_)
        obtain ⟨rfl, rfl⟩ := q2382
        refine s_foldI C (y := (1 : Int32)) ((own_blw N2375).1 L2375) ?_
        refine s_if_eq C at_294 (pc' := 297) rfl (pcY := 313) rfl (fun hc => by exfalso; revert hc; decide) (fun c2383 => ?_)
        refine s_aload C at_297 (pc' := 299) rfl rfl rfl ?_
        refine s_aload C at_299 (pc' := 301) rfl rfl rfl ?_
        have hab : (v2375 - v2369) % 115792089210356248762697446949407573530086143415290314195533631308867097853951 = 0 := own_hab8 C2333 C2340 C2346 C2354 C2362 C2369 C2375
        have Vx2385 := ((Vx2370.keep K2369 (ninS ne2307 nin0)).keep K2375 (ninS ne2328 nin0))
        have Vx2386 := ((Vx2371.keep K2369 (ninS ne2305 nin0)).keep K2375 (ninS ne2326 nin0))
        have Vx2387 := (V2369.keep K2375 (ninS ne2322 nin0))
        refine s_callSL C at_301 (pc' := 304) rfl (w31 hw) (w32 hw) (w13 hw) (w33 hw) (by decide) [(.ref a2311), (.ref a2292)] [] pd2 rfl rfl (c_eq l Z a0 hw t p_ a2311 a2292 z2375_0 z2375_1 z2375_2 z2375_3 z2375_4 z2369_0 z2369_1 z2369_2 z2369_3 z2369_4 v2375 v2369 h2375 n0 sz2378 Od2379 S_t S_p Vx2385 Vx2386 V2375 Vx2387 N2375 N2369 L2375 L2369 hab) rfl (W := 0) rfl (by decide) (by decide) (k' := 10) rfl (by decide) (n' := 50) rfl (by decide) (fun _ h2384 q2384 => ?_)
        obtain ⟨rfl, K2384⟩ := q2384
        have sz2388 : n0 ≤ h2384.size := (Nat.le_trans sz2378 K2384.1)
        have Od2389 : Old Z n0 h2384 := Od2379.keep K2384 all0
        refine s_lconst C at_304 (pc' := 305) rfl (1 : Int64) rfl ?_
        refine s_lc_ne C at_305 (pc1 := 306) rfl at_306 (pc' := 309) rfl (pcY := 313) rfl (fun hc => by exfalso; revert hc; decide) (fun c2390 => ?_)
        refine s_iconst C at_309 (pc' := 310) rfl (1 : Int32) rfl ?_
        refine s_goto C at_310 (pc' := 314) rfl ?_
        exact s_retN C (by simp) at_314 (by decide) (by decide) rfl
      · skip
        refine s_iconst C at_116 (pc' := 117) rfl (1 : Int32) rfl ?_
        refine s_goto C at_117 (pc' := 121) rfl ?_
        refine s_istoreP C at_121 (pc' := 123) rfl #[.val (.long x0), .second, .val (.long x1), .second, .val (.long x2), .second, .val (.long x3), .second, .val (.long x4), .second, .val (.int x5), .val (.long (4503599627370495 : Int64)), .second, .val (.ref a1), .val (.ref a24), .val (.int (8 : Int32)), .val (.int (1 : Int32)), .unset, .unset, .unset, .unset, .unset, .unset, .unset] rfl ?_
        refine s_iconst C at_123 (pc' := 124) rfl (5 : Int32) rfl ?_
        refine s_newarr C (cap := 5) at_124 (pc' := 126) rfl (w1 hw) (by decide) (by decide) (by decide) (k' := 3) rfl (by decide) (n' := 15) rfl (by decide) [(.long (0 : Int64)), (.long (0 : Int64)), (.long (0 : Int64)), (.long (0 : Int64)), (.long (0 : Int64))] rfl (fun h2391 a2391 E2391 g2391 A2391 => ?_)
        have Vx2392 := (Vx49.other W50 ne25)
        have ne2393 : a1 ≠ a2391 := Nat.ne_of_lt (by rw [g2391]; exact Vx2392.lt)
        have ne2394 : a24 ≠ a2391 := Nat.ne_of_lt (by rw [g2391]; exact A50.lt)
        have Vx2395 := ((((((Vx26.ext E24).other W34 ne27).other W38 ne27).other W42 ne27).other W46 ne27).other W50 ne27)
        have ne2396 : p_ ≠ a2391 := Nat.ne_of_lt (by rw [g2391]; exact Vx2395.lt)
        have Vx2397 := ((((((Vx28.ext E24).other W34 ne29).other W38 ne29).other W42 ne29).other W46 ne29).other W50 ne29)
        have ne2398 : t ≠ a2391 := Nat.ne_of_lt (by rw [g2391]; exact Vx2397.lt)
        have gn2399 : n0 ≤ a2391 := by rw [g2391]; exact sz51
        have sz2400 : n0 ≤ h2391.size := (Nat.le_trans sz51 E2391.1)
        have Od2401 : Old Z n0 h2391 := Od52.ext E2391
        refine s_astore C at_126 (pc' := 128) rfl rfl #[.val (.long x0), .second, .val (.long x1), .second, .val (.long x2), .second, .val (.long x3), .second, .val (.long x4), .second, .val (.int x5), .val (.long (4503599627370495 : Int64)), .second, .val (.ref a1), .val (.ref a24), .val (.int (8 : Int32)), .val (.int (1 : Int32)), .val (.ref a2391), .unset, .unset, .unset, .unset, .unset, .unset] rfl ?_
        refine s_iconst C at_128 (pc' := 129) rfl (5 : Int32) rfl ?_
        refine s_newarr C (cap := 5) at_129 (pc' := 131) rfl (w1 hw) (by decide) (by decide) (by decide) (k' := 4) rfl (by decide) (n' := 20) rfl (by decide) [(.long (0 : Int64)), (.long (0 : Int64)), (.long (0 : Int64)), (.long (0 : Int64)), (.long (0 : Int64))] rfl (fun h2402 a2402 E2402 g2402 A2402 => ?_)
        have Vx2403 := (Vx2392.ext E2391)
        have ne2404 : a1 ≠ a2402 := Nat.ne_of_lt (by rw [g2402]; exact Vx2403.lt)
        have ne2405 : a2391 ≠ a2402 := Nat.ne_of_lt (by rw [g2402]; exact A2391.lt)
        have Vx2406 := (A50.ext E2391)
        have ne2407 : a24 ≠ a2402 := Nat.ne_of_lt (by rw [g2402]; exact Vx2406.lt)
        have Vx2408 := (Vx2395.ext E2391)
        have ne2409 : p_ ≠ a2402 := Nat.ne_of_lt (by rw [g2402]; exact Vx2408.lt)
        have Vx2410 := (Vx2397.ext E2391)
        have ne2411 : t ≠ a2402 := Nat.ne_of_lt (by rw [g2402]; exact Vx2410.lt)
        have gn2412 : n0 ≤ a2402 := by rw [g2402]; exact sz2400
        have sz2413 : n0 ≤ h2402.size := (Nat.le_trans sz2400 E2402.1)
        have Od2414 : Old Z n0 h2402 := Od2401.ext E2402
        refine s_astore C at_131 (pc' := 133) rfl rfl #[.val (.long x0), .second, .val (.long x1), .second, .val (.long x2), .second, .val (.long x3), .second, .val (.long x4), .second, .val (.int x5), .val (.long (4503599627370495 : Int64)), .second, .val (.ref a1), .val (.ref a24), .val (.int (8 : Int32)), .val (.int (1 : Int32)), .val (.ref a2391), .val (.ref a2402), .unset, .unset, .unset, .unset, .unset] rfl ?_
        refine s_iconst C at_133 (pc' := 134) rfl (5 : Int32) rfl ?_
        refine s_newarr C (cap := 5) at_134 (pc' := 136) rfl (w1 hw) (by decide) (by decide) (by decide) (k' := 5) rfl (by decide) (n' := 25) rfl (by decide) [(.long (0 : Int64)), (.long (0 : Int64)), (.long (0 : Int64)), (.long (0 : Int64)), (.long (0 : Int64))] rfl (fun h2415 a2415 E2415 g2415 A2415 => ?_)
        have Vx2416 := (Vx2403.ext E2402)
        have ne2417 : a1 ≠ a2415 := Nat.ne_of_lt (by rw [g2415]; exact Vx2416.lt)
        have Vx2418 := (A2391.ext E2402)
        have ne2419 : a2391 ≠ a2415 := Nat.ne_of_lt (by rw [g2415]; exact Vx2418.lt)
        have Vx2420 := (Vx2406.ext E2402)
        have ne2421 : a24 ≠ a2415 := Nat.ne_of_lt (by rw [g2415]; exact Vx2420.lt)
        have ne2422 : a2402 ≠ a2415 := Nat.ne_of_lt (by rw [g2415]; exact A2402.lt)
        have Vx2423 := (Vx2408.ext E2402)
        have ne2424 : p_ ≠ a2415 := Nat.ne_of_lt (by rw [g2415]; exact Vx2423.lt)
        have Vx2425 := (Vx2410.ext E2402)
        have ne2426 : t ≠ a2415 := Nat.ne_of_lt (by rw [g2415]; exact Vx2425.lt)
        have gn2427 : n0 ≤ a2415 := by rw [g2415]; exact sz2413
        have sz2428 : n0 ≤ h2415.size := (Nat.le_trans sz2413 E2415.1)
        have Od2429 : Old Z n0 h2415 := Od2414.ext E2415
        refine s_astore C at_136 (pc' := 138) rfl rfl #[.val (.long x0), .second, .val (.long x1), .second, .val (.long x2), .second, .val (.long x3), .second, .val (.long x4), .second, .val (.int x5), .val (.long (4503599627370495 : Int64)), .second, .val (.ref a1), .val (.ref a24), .val (.int (8 : Int32)), .val (.int (1 : Int32)), .val (.ref a2391), .val (.ref a2402), .val (.ref a2415), .unset, .unset, .unset, .unset] rfl ?_
        refine s_iconst C at_138 (pc' := 139) rfl (5 : Int32) rfl ?_
        refine s_newarr C (cap := 5) at_139 (pc' := 141) rfl (w1 hw) (by decide) (by decide) (by decide) (k' := 6) rfl (by decide) (n' := 30) rfl (by decide) [(.long (0 : Int64)), (.long (0 : Int64)), (.long (0 : Int64)), (.long (0 : Int64)), (.long (0 : Int64))] rfl (fun h2430 a2430 E2430 g2430 A2430 => ?_)
        have Vx2431 := (Vx2416.ext E2415)
        have ne2432 : a1 ≠ a2430 := Nat.ne_of_lt (by rw [g2430]; exact Vx2431.lt)
        have Vx2433 := (Vx2418.ext E2415)
        have ne2434 : a2391 ≠ a2430 := Nat.ne_of_lt (by rw [g2430]; exact Vx2433.lt)
        have Vx2435 := (Vx2420.ext E2415)
        have ne2436 : a24 ≠ a2430 := Nat.ne_of_lt (by rw [g2430]; exact Vx2435.lt)
        have Vx2437 := (A2402.ext E2415)
        have ne2438 : a2402 ≠ a2430 := Nat.ne_of_lt (by rw [g2430]; exact Vx2437.lt)
        have ne2439 : a2415 ≠ a2430 := Nat.ne_of_lt (by rw [g2430]; exact A2415.lt)
        have Vx2440 := (Vx2423.ext E2415)
        have ne2441 : p_ ≠ a2430 := Nat.ne_of_lt (by rw [g2430]; exact Vx2440.lt)
        have Vx2442 := (Vx2425.ext E2415)
        have ne2443 : t ≠ a2430 := Nat.ne_of_lt (by rw [g2430]; exact Vx2442.lt)
        have gn2444 : n0 ≤ a2430 := by rw [g2430]; exact sz2428
        have sz2445 : n0 ≤ h2430.size := (Nat.le_trans sz2428 E2430.1)
        have Od2446 : Old Z n0 h2430 := Od2429.ext E2430
        refine s_astore C at_141 (pc' := 143) rfl rfl #[.val (.long x0), .second, .val (.long x1), .second, .val (.long x2), .second, .val (.long x3), .second, .val (.long x4), .second, .val (.int x5), .val (.long (4503599627370495 : Int64)), .second, .val (.ref a1), .val (.ref a24), .val (.int (8 : Int32)), .val (.int (1 : Int32)), .val (.ref a2391), .val (.ref a2402), .val (.ref a2415), .val (.ref a2430), .unset, .unset, .unset] rfl ?_
        refine s_iconst C at_143 (pc' := 144) rfl (5 : Int32) rfl ?_
        refine s_newarr C (cap := 5) at_144 (pc' := 146) rfl (w1 hw) (by decide) (by decide) (by decide) (k' := 7) rfl (by decide) (n' := 35) rfl (by decide) [(.long (0 : Int64)), (.long (0 : Int64)), (.long (0 : Int64)), (.long (0 : Int64)), (.long (0 : Int64))] rfl (fun h2447 a2447 E2447 g2447 A2447 => ?_)
        have Vx2448 := (Vx2431.ext E2430)
        have ne2449 : a1 ≠ a2447 := Nat.ne_of_lt (by rw [g2447]; exact Vx2448.lt)
        have Vx2450 := (Vx2433.ext E2430)
        have ne2451 : a2391 ≠ a2447 := Nat.ne_of_lt (by rw [g2447]; exact Vx2450.lt)
        have Vx2452 := (Vx2435.ext E2430)
        have ne2453 : a24 ≠ a2447 := Nat.ne_of_lt (by rw [g2447]; exact Vx2452.lt)
        have Vx2454 := (Vx2437.ext E2430)
        have ne2455 : a2402 ≠ a2447 := Nat.ne_of_lt (by rw [g2447]; exact Vx2454.lt)
        have Vx2456 := (A2415.ext E2430)
        have ne2457 : a2415 ≠ a2447 := Nat.ne_of_lt (by rw [g2447]; exact Vx2456.lt)
        have ne2458 : a2430 ≠ a2447 := Nat.ne_of_lt (by rw [g2447]; exact A2430.lt)
        have Vx2459 := (Vx2440.ext E2430)
        have ne2460 : p_ ≠ a2447 := Nat.ne_of_lt (by rw [g2447]; exact Vx2459.lt)
        have Vx2461 := (Vx2442.ext E2430)
        have ne2462 : t ≠ a2447 := Nat.ne_of_lt (by rw [g2447]; exact Vx2461.lt)
        have gn2463 : n0 ≤ a2447 := by rw [g2447]; exact sz2445
        have sz2464 : n0 ≤ h2447.size := (Nat.le_trans sz2445 E2447.1)
        have Od2465 : Old Z n0 h2447 := Od2446.ext E2447
        refine s_astore C at_146 (pc' := 148) rfl rfl #[.val (.long x0), .second, .val (.long x1), .second, .val (.long x2), .second, .val (.long x3), .second, .val (.long x4), .second, .val (.int x5), .val (.long (4503599627370495 : Int64)), .second, .val (.ref a1), .val (.ref a24), .val (.int (8 : Int32)), .val (.int (1 : Int32)), .val (.ref a2391), .val (.ref a2402), .val (.ref a2415), .val (.ref a2430), .val (.ref a2447), .unset, .unset] rfl ?_
        refine s_iconst C at_148 (pc' := 149) rfl (5 : Int32) rfl ?_
        refine s_newarr C (cap := 5) at_149 (pc' := 151) rfl (w1 hw) (by decide) (by decide) (by decide) (k' := 8) rfl (by decide) (n' := 40) rfl (by decide) [(.long (0 : Int64)), (.long (0 : Int64)), (.long (0 : Int64)), (.long (0 : Int64)), (.long (0 : Int64))] rfl (fun h2466 a2466 E2466 g2466 A2466 => ?_)
        have Vx2467 := (Vx2448.ext E2447)
        have ne2468 : a1 ≠ a2466 := Nat.ne_of_lt (by rw [g2466]; exact Vx2467.lt)
        have Vx2469 := (Vx2450.ext E2447)
        have ne2470 : a2391 ≠ a2466 := Nat.ne_of_lt (by rw [g2466]; exact Vx2469.lt)
        have Vx2471 := (Vx2452.ext E2447)
        have ne2472 : a24 ≠ a2466 := Nat.ne_of_lt (by rw [g2466]; exact Vx2471.lt)
        have Vx2473 := (Vx2454.ext E2447)
        have ne2474 : a2402 ≠ a2466 := Nat.ne_of_lt (by rw [g2466]; exact Vx2473.lt)
        have Vx2475 := (Vx2456.ext E2447)
        have ne2476 : a2415 ≠ a2466 := Nat.ne_of_lt (by rw [g2466]; exact Vx2475.lt)
        have Vx2477 := (A2430.ext E2447)
        have ne2478 : a2430 ≠ a2466 := Nat.ne_of_lt (by rw [g2466]; exact Vx2477.lt)
        have ne2479 : a2447 ≠ a2466 := Nat.ne_of_lt (by rw [g2466]; exact A2447.lt)
        have Vx2480 := (Vx2459.ext E2447)
        have ne2481 : p_ ≠ a2466 := Nat.ne_of_lt (by rw [g2466]; exact Vx2480.lt)
        have Vx2482 := (Vx2461.ext E2447)
        have ne2483 : t ≠ a2466 := Nat.ne_of_lt (by rw [g2466]; exact Vx2482.lt)
        have gn2484 : n0 ≤ a2466 := by rw [g2466]; exact sz2464
        have sz2485 : n0 ≤ h2466.size := (Nat.le_trans sz2464 E2466.1)
        have Od2486 : Old Z n0 h2466 := Od2465.ext E2466
        refine s_astore C at_151 (pc' := 153) rfl rfl #[.val (.long x0), .second, .val (.long x1), .second, .val (.long x2), .second, .val (.long x3), .second, .val (.long x4), .second, .val (.int x5), .val (.long (4503599627370495 : Int64)), .second, .val (.ref a1), .val (.ref a24), .val (.int (8 : Int32)), .val (.int (1 : Int32)), .val (.ref a2391), .val (.ref a2402), .val (.ref a2415), .val (.ref a2430), .val (.ref a2447), .val (.ref a2466), .unset] rfl ?_
        refine s_iload C at_153 (pc' := 155) rfl rfl ?_
        refine s_if_eq C at_155 (pc' := 158) rfl (pcY := 163) rfl (fun hc => by exfalso; revert hc; decide) (fun c2487 => ?_)
        refine s_aload C at_158 (pc' := 160) rfl rfl rfl ?_
        refine s_goto C at_160 (pc' := 165) rfl ?_
        refine s_astore C at_165 (pc' := 167) rfl rfl #[.val (.long x0), .second, .val (.long x1), .second, .val (.long x2), .second, .val (.long x3), .second, .val (.long x4), .second, .val (.int x5), .val (.long (4503599627370495 : Int64)), .second, .val (.ref a1), .val (.ref a24), .val (.int (8 : Int32)), .val (.int (1 : Int32)), .val (.ref a2391), .val (.ref a2402), .val (.ref a2415), .val (.ref a2430), .val (.ref a2447), .val (.ref a2466), .val (.ref a1)] rfl ?_
        refine s_aload C at_167 (pc' := 169) rfl rfl rfl ?_
        refine s_aload C at_169 (pc' := 171) rfl rfl rfl ?_
        refine s_aload C at_171 (pc' := 173) rfl rfl rfl ?_
        have Vx2489 := (Vx2482.ext E2466)
        have Vx2490 := (Vx2480.ext E2466)
        have Vx2491 := (Vx2473.ext E2466)
        have Vx2492 := (Vx2471.ext E2466)
        refine s_callS0 C at_173 (pc' := 176) rfl (w11 hw) (w12 hw) (w13 hw) (w14 hw) (by decide) [(.ref a2402), (.ref a24), (.ref a24)] [] pd5 rfl rfl (c_add l Z a0 hw t p_ a2402 a24 a24 (0 : Int64) (0 : Int64) (0 : Int64) (0 : Int64) (0 : Int64) y0 y1 y2 y3 y4 y0 y1 y2 y3 y4 va va h2466 n0 sz2485 Od2486 S_t S_p Vx2489 Vx2490 gn2412 Vx2491 Vx2492 Vx2492 na na la la) rfl (W := 0) rfl (by decide) (by decide) (k' := 8) rfl (by decide) (n' := 40) rfl (by decide) (fun h2488 q2488 => ?_)
        obtain ⟨K2488, z2488_0, z2488_1, z2488_2, z2488_3, z2488_4, v2488, V2488, N2488, L2488, C2488⟩ := q2488
        have sz2493 : n0 ≤ h2488.size := (Nat.le_trans sz2485 K2488.1)
        have Od2494 : Old Z n0 h2488 := Od2486.keep K2488 (allS gn2412 all0)
        refine s_aload C at_176 (pc' := 178) rfl rfl rfl ?_
        refine s_aload C at_178 (pc' := 180) rfl rfl rfl ?_
        refine s_aload C at_180 (pc' := 182) rfl rfl rfl ?_
        have Vx2496 := (Vx2489.keep K2488 (ninS ne2411 nin0))
        have Vx2497 := (Vx2490.keep K2488 (ninS ne2409 nin0))
        have Vx2498 := ((Vx2475.ext E2466).keep K2488 (ninS (Ne.symm ne2422) nin0))
        refine s_callS0 C at_182 (pc' := 185) rfl (w11 hw) (w12 hw) (w13 hw) (w14 hw) (by decide) [(.ref a2415), (.ref a2402), (.ref a2402)] [] pd5 rfl rfl (c_add l Z a0 hw t p_ a2415 a2402 a2402 (0 : Int64) (0 : Int64) (0 : Int64) (0 : Int64) (0 : Int64) z2488_0 z2488_1 z2488_2 z2488_3 z2488_4 z2488_0 z2488_1 z2488_2 z2488_3 z2488_4 v2488 v2488 h2488 n0 sz2493 Od2494 S_t S_p Vx2496 Vx2497 gn2427 Vx2498 V2488 V2488 N2488 N2488 L2488 L2488) rfl (W := 0) rfl (by decide) (by decide) (k' := 8) rfl (by decide) (n' := 40) rfl (by decide) (fun h2495 q2495 => ?_)
        obtain ⟨K2495, z2495_0, z2495_1, z2495_2, z2495_3, z2495_4, v2495, V2495, N2495, L2495, C2495⟩ := q2495
        have sz2499 : n0 ≤ h2495.size := (Nat.le_trans sz2493 K2495.1)
        have Od2500 : Old Z n0 h2495 := Od2494.keep K2495 (allS gn2427 all0)
        refine s_aload C at_185 (pc' := 187) rfl rfl rfl ?_
        refine s_aload C at_187 (pc' := 189) rfl rfl rfl ?_
        refine s_aload C at_189 (pc' := 191) rfl rfl rfl ?_
        have Vx2502 := (Vx2496.keep K2495 (ninS ne2426 nin0))
        have Vx2503 := (Vx2497.keep K2495 (ninS ne2424 nin0))
        have Vx2504 := (((Vx2477.ext E2466).keep K2488 (ninS (Ne.symm ne2438) nin0)).keep K2495 (ninS (Ne.symm ne2439) nin0))
        refine s_callS0 C at_191 (pc' := 194) rfl (w11 hw) (w12 hw) (w13 hw) (w14 hw) (by decide) [(.ref a2430), (.ref a2415), (.ref a2415)] [] pd5 rfl rfl (c_add l Z a0 hw t p_ a2430 a2415 a2415 (0 : Int64) (0 : Int64) (0 : Int64) (0 : Int64) (0 : Int64) z2495_0 z2495_1 z2495_2 z2495_3 z2495_4 z2495_0 z2495_1 z2495_2 z2495_3 z2495_4 v2495 v2495 h2495 n0 sz2499 Od2500 S_t S_p Vx2502 Vx2503 gn2444 Vx2504 V2495 V2495 N2495 N2495 L2495 L2495) rfl (W := 0) rfl (by decide) (by decide) (k' := 8) rfl (by decide) (n' := 40) rfl (by decide) (fun h2501 q2501 => ?_)
        obtain ⟨K2501, z2501_0, z2501_1, z2501_2, z2501_3, z2501_4, v2501, V2501, N2501, L2501, C2501⟩ := q2501
        have sz2505 : n0 ≤ h2501.size := (Nat.le_trans sz2499 K2501.1)
        have Od2506 : Old Z n0 h2501 := Od2500.keep K2501 (allS gn2444 all0)
        refine s_aload C at_194 (pc' := 196) rfl rfl rfl ?_
        refine s_iload C at_196 (pc' := 198) rfl rfl ?_
        refine s_iconst C at_198 (pc' := 199) rfl (1 : Int32) rfl ?_
        refine s_iand C at_199 (pc' := 200) rfl ?_
        refine s_foldI C (y := (0 : Int32)) (by decide) ?_
        refine s_if_eq C at_200 (pc' := 203) rfl (pcY := 208) rfl (fun c2507 => ?_) (fun hc => by exfalso; revert hc; decide)
        refine s_aload C at_208 (pc' := 210) rfl rfl rfl ?_
        refine s_iload C at_210 (pc' := 212) rfl rfl ?_
        refine s_iconst C at_212 (pc' := 213) rfl (2 : Int32) rfl ?_
        refine s_iand C at_213 (pc' := 214) rfl ?_
        refine s_foldI C (y := (0 : Int32)) (by decide) ?_
        refine s_if_eq C at_214 (pc' := 217) rfl (pcY := 222) rfl (fun c2508 => ?_) (fun hc => by exfalso; revert hc; decide)
        refine s_aload C at_222 (pc' := 224) rfl rfl rfl ?_
        have Vx2510 := (Vx2502.keep K2501 (ninS ne2443 nin0))
        have Vx2511 := (Vx2503.keep K2501 (ninS ne2441 nin0))
        have Vx2512 := ((((A2447.ext E2466).keep K2488 (ninS (Ne.symm ne2455) nin0)).keep K2495 (ninS (Ne.symm ne2457) nin0)).keep K2501 (ninS (Ne.symm ne2458) nin0))
        have Vx2513 := ((((Vx2469.ext E2466).keep K2488 (ninS ne2405 nin0)).keep K2495 (ninS ne2419 nin0)).keep K2501 (ninS ne2434 nin0))
        refine s_callS0 C at_224 (pc' := 227) rfl (w11 hw) (w12 hw) (w13 hw) (w14 hw) (by decide) [(.ref a2447), (.ref a2391), (.ref a2391)] [] pd5 rfl rfl (c_add l Z a0 hw t p_ a2447 a2391 a2391 (0 : Int64) (0 : Int64) (0 : Int64) (0 : Int64) (0 : Int64) (0 : Int64) (0 : Int64) (0 : Int64) (0 : Int64) (0 : Int64) (0 : Int64) (0 : Int64) (0 : Int64) (0 : Int64) (0 : Int64) 0 0 h2501 n0 sz2505 Od2506 S_t S_p Vx2510 Vx2511 gn2463 Vx2512 Vx2513 Vx2513 own_zero own_zero (by decide) (by decide)) rfl (W := 0) rfl (by decide) (by decide) (k' := 8) rfl (by decide) (n' := 40) rfl (by decide) (fun h2509 q2509 => ?_)
        obtain ⟨K2509, z2509_0, z2509_1, z2509_2, z2509_3, z2509_4, v2509, V2509, N2509, L2509, C2509⟩ := q2509
        have sz2514 : n0 ≤ h2509.size := (Nat.le_trans sz2505 K2509.1)
        have Od2515 : Old Z n0 h2509 := Od2506.keep K2509 (allS gn2463 all0)
        refine s_aload C at_227 (pc' := 229) rfl rfl rfl ?_
        refine s_aload C at_229 (pc' := 231) rfl rfl rfl ?_
        refine s_iload C at_231 (pc' := 233) rfl rfl ?_
        refine s_iconst C at_233 (pc' := 234) rfl (4 : Int32) rfl ?_
        refine s_iand C at_234 (pc' := 235) rfl ?_
        refine s_foldI C (y := (0 : Int32)) (by decide) ?_
        refine s_if_eq C at_235 (pc' := 238) rfl (pcY := 243) rfl (fun c2516 => ?_) (fun hc => by exfalso; revert hc; decide)
        refine s_aload C at_243 (pc' := 245) rfl rfl rfl ?_
        have Vx2518 := (Vx2510.keep K2509 (ninS ne2462 nin0))
        have Vx2519 := (Vx2511.keep K2509 (ninS ne2460 nin0))
        have Vx2520 := (Vx2513.keep K2509 (ninS ne2451 nin0))
        refine s_callS0 C at_245 (pc' := 248) rfl (w11 hw) (w12 hw) (w13 hw) (w14 hw) (by decide) [(.ref a2447), (.ref a2447), (.ref a2391)] [] pd5 rfl rfl (c_add l Z a0 hw t p_ a2447 a2447 a2391 z2509_0 z2509_1 z2509_2 z2509_3 z2509_4 z2509_0 z2509_1 z2509_2 z2509_3 z2509_4 (0 : Int64) (0 : Int64) (0 : Int64) (0 : Int64) (0 : Int64) v2509 0 h2509 n0 sz2514 Od2515 S_t S_p Vx2518 Vx2519 gn2463 V2509 V2509 Vx2520 N2509 own_zero L2509 (by decide)) rfl (W := 0) rfl (by decide) (by decide) (k' := 8) rfl (by decide) (n' := 40) rfl (by decide) (fun h2517 q2517 => ?_)
        obtain ⟨K2517, z2517_0, z2517_1, z2517_2, z2517_3, z2517_4, v2517, V2517, N2517, L2517, C2517⟩ := q2517
        have sz2521 : n0 ≤ h2517.size := (Nat.le_trans sz2514 K2517.1)
        have Od2522 : Old Z n0 h2517 := Od2515.keep K2517 (allS gn2463 all0)
        refine s_aload C at_248 (pc' := 250) rfl rfl rfl ?_
        refine s_aload C at_250 (pc' := 252) rfl rfl rfl ?_
        refine s_iload C at_252 (pc' := 254) rfl rfl ?_
        refine s_bipush C at_254 (pc' := 256) rfl (8 : Int32) rfl ?_
        refine s_iand C at_256 (pc' := 257) rfl ?_
        refine s_foldI C (y := (8 : Int32)) (by decide) ?_
        refine s_if_eq C at_257 (pc' := 260) rfl (pcY := 265) rfl (fun hc => by exfalso; revert hc; decide) (fun c2523 => ?_)
        refine s_aload C at_260 (pc' := 262) rfl rfl rfl ?_
        refine s_goto C at_262 (pc' := 267) rfl ?_
        have Vx2525 := (Vx2518.keep K2517 (ninS ne2462 nin0))
        have Vx2526 := (Vx2519.keep K2517 (ninS ne2460 nin0))
        have Vx2527 := ((V2501.keep K2509 (ninS ne2458 nin0)).keep K2517 (ninS ne2458 nin0))
        refine s_callS0 C at_267 (pc' := 270) rfl (w11 hw) (w12 hw) (w13 hw) (w14 hw) (by decide) [(.ref a2447), (.ref a2447), (.ref a2430)] [] pd5 rfl rfl (c_add l Z a0 hw t p_ a2447 a2447 a2430 z2517_0 z2517_1 z2517_2 z2517_3 z2517_4 z2517_0 z2517_1 z2517_2 z2517_3 z2517_4 z2501_0 z2501_1 z2501_2 z2501_3 z2501_4 v2517 v2501 h2517 n0 sz2521 Od2522 S_t S_p Vx2525 Vx2526 gn2463 V2517 V2517 Vx2527 N2517 N2501 L2517 L2501) rfl (W := 0) rfl (by decide) (by decide) (k' := 8) rfl (by decide) (n' := 40) rfl (by decide) (fun h2524 q2524 => ?_)
        obtain ⟨K2524, z2524_0, z2524_1, z2524_2, z2524_3, z2524_4, v2524, V2524, N2524, L2524, C2524⟩ := q2524
        have sz2528 : n0 ≤ h2524.size := (Nat.le_trans sz2521 K2524.1)
        have Od2529 : Old Z n0 h2524 := Od2522.keep K2524 (allS gn2463 all0)
        refine s_aload C at_270 (pc' := 272) rfl rfl rfl ?_
        refine s_aload C at_272 (pc' := 274) rfl rfl rfl ?_
        refine s_iload C at_274 (pc' := 276) rfl rfl ?_
        have Vx2531 := (((((((Vx2467.ext E2466).keep K2488 (ninS ne2404 nin0)).keep K2495 (ninS ne2417 nin0)).keep K2501 (ninS ne2432 nin0)).keep K2509 (ninS ne2449 nin0)).keep K2517 (ninS ne2449 nin0)).keep K2524 (ninS ne2449 nin0))
        refine s_callS0 C at_276 (pc' := 279) rfl (w22 hw) (w23 hw) (w13 hw) (w24 hw) (by decide) [(.ref a1), (.ref a1), (.int (8 : Int32))] [] pd3 rfl rfl (c_ms8 l Z a0 hw a1 a1 y0 y1 y2 y3 y4 y0 y1 y2 y3 y4 va h2524 n0 sz2528 gn4 Vx2531 Vx2531 na la) rfl (W := 0) rfl (by decide) (by decide) (k' := 8) rfl (by decide) (n' := 40) rfl (by decide) (fun h2530 q2530 => ?_)
        obtain ⟨K2530, z2530_0, z2530_1, z2530_2, z2530_3, z2530_4, v2530, V2530, N2530, L2530, C2530⟩ := q2530
        have sz2532 : n0 ≤ h2530.size := (Nat.le_trans sz2528 K2530.1)
        have Od2533 : Old Z n0 h2530 := Od2529.keep K2530 (allS gn4 all0)
        refine s_aload C at_279 (pc' := 281) rfl rfl rfl ?_
        refine s_callSI C at_281 (pc' := 284) rfl (w26 hw) (w27 hw) (w5 hw) (w28 hw) (by decide) [(.ref a1)] [] pd0 rfl rfl (c_nmz l Z a0 hw a1 z2530_0 z2530_1 z2530_2 z2530_3 z2530_4 h2530 n0 sz2532 V2530) rfl (W := 0) rfl (by decide) (by decide) (k' := 8) rfl (by decide) (n' := 40) rfl (by decide) (fun _ _ q2534 => ?_)
        obtain ⟨rfl, rfl⟩ := q2534
        refine s_foldI C (y := (1 : Int32)) (own_nmz N2530 L2530) ?_
        refine s_if_ne C at_284 (pc' := 287) rfl (pcY := 289) rfl (fun c2535 => ?_) (fun hc => by exfalso; revert hc; decide)
        refine s_aload C at_289 (pc' := 291) rfl rfl rfl ?_
        refine s_callSI C at_291 (pc' := 294) rfl (w3 hw) (w4 hw) (w5 hw) (w6 hw) (by decide) [(.ref a1)] [] pd0 rfl rfl (c_blw l Z a0 hw a1 z2530_0 z2530_1 z2530_2 z2530_3 z2530_4 h2530 n0 sz2532 V2530) rfl (W := 0) rfl (by decide) (by decide) (k' := 8) rfl (by decide) (n' := 40) rfl (by decide) (fun _ _ q2536 => ?_)
        obtain ⟨rfl, rfl⟩ := q2536
        refine s_foldI C (y := (1 : Int32)) ((own_blw N2530).1 L2530) ?_
        refine s_if_eq C at_294 (pc' := 297) rfl (pcY := 313) rfl (fun hc => by exfalso; revert hc; decide) (fun c2537 => ?_)
        refine s_aload C at_297 (pc' := 299) rfl rfl rfl ?_
        refine s_aload C at_299 (pc' := 301) rfl rfl rfl ?_
        have hab : (v2530 - v2524) % 115792089210356248762697446949407573530086143415290314195533631308867097853951 = 0 := own_hab8 C2488 C2495 C2501 C2509 C2517 C2524 C2530
        have Vx2539 := ((Vx2525.keep K2524 (ninS ne2462 nin0)).keep K2530 (ninS ne3 nin0))
        have Vx2540 := ((Vx2526.keep K2524 (ninS ne2460 nin0)).keep K2530 (ninS ne2 nin0))
        have Vx2541 := (V2524.keep K2530 (ninS (Ne.symm ne2449) nin0))
        refine s_callSL C at_301 (pc' := 304) rfl (w31 hw) (w32 hw) (w13 hw) (w33 hw) (by decide) [(.ref a1), (.ref a2447)] [] pd2 rfl rfl (c_eq l Z a0 hw t p_ a1 a2447 z2530_0 z2530_1 z2530_2 z2530_3 z2530_4 z2524_0 z2524_1 z2524_2 z2524_3 z2524_4 v2530 v2524 h2530 n0 sz2532 Od2533 S_t S_p Vx2539 Vx2540 V2530 Vx2541 N2530 N2524 L2530 L2524 hab) rfl (W := 0) rfl (by decide) (by decide) (k' := 10) rfl (by decide) (n' := 50) rfl (by decide) (fun _ h2538 q2538 => ?_)
        obtain ⟨rfl, K2538⟩ := q2538
        have sz2542 : n0 ≤ h2538.size := (Nat.le_trans sz2532 K2538.1)
        have Od2543 : Old Z n0 h2538 := Od2533.keep K2538 all0
        refine s_lconst C at_304 (pc' := 305) rfl (1 : Int64) rfl ?_
        refine s_lc_ne C at_305 (pc1 := 306) rfl at_306 (pc' := 309) rfl (pcY := 313) rfl (fun hc => by exfalso; revert hc; decide) (fun c2544 => ?_)
        refine s_iconst C at_309 (pc' := 310) rfl (1 : Int32) rfl ?_
        refine s_goto C at_310 (pc' := 314) rfl ?_
        exact s_retN C (by simp) at_314 (by decide) (by decide) rfl
  · skip
    refine s_iconst C at_57 (pc' := 58) rfl (1 : Int32) rfl ?_
    exact s_retN C (by simp) at_58 (by decide) (by decide) rfl
end Own
end Jvm.Pilot.@@N@@
namespace Jvm.Pilot.@@N@@
open Jvm Jvm.ClassFile Sem Op Lib Jvm.Free Jvm.Stand Jvm.LawKit Jvm.RoadKit Bundle Own Jvm.Pilot.@@N@@.Jvm.D
set_option maxRecDepth 65536 in
set_option maxHeartbeats 40000000 in
theorem comes_1 {Post : Tables → Env → Array Value → State → Outcome → State → Prop} (hpost : ∀ tb e args s v u, (limb_1_1.after args s (.returned v) u = true ∧ limb_1_2.after args s (.returned v) u = true ∧ True) → FrameEnd s (.returned v) u (Jvm.fieldLocs frame_1_writes args s ++ Jvm.arrayLocs frame_1_arrays args s ++ Jvm.staticLocs frame_1_statics s) 32 192 → Post tb e args s (.returned v) u) :
    ArmFor flags0 classFile x code maxLocals ret World_1 tables_1 room_1 Calls_1 rest_1 Pre_1 Post := by
  intro l hfl _ _ p e ha hc hk s m args below hf hA hF happ hP
  obtain ⟨hcalls, hrest, hpre⟩ := hP
  obtain ⟨-, -, -, hnamed, -, -, -, hat⟩ := (Spec.applies_iff hf).mp happ
  obtain ⟨hg, hn⟩ := and_e (Cond.before_iff.mp (show (Jvm.Cond.and given_1 narrow_1).before args s = true from hpre))
  obtain ⟨g1, g2⟩ := and_e hg
  obtain ⟨g3, g4⟩ := and_e g2
  obtain ⟨g5, g6⟩ := and_e g4
  obtain ⟨g7, g8⟩ := and_e g6
  obtain ⟨g9, g10⟩ := and_e g8
  obtain ⟨g11, g12⟩ := and_e g10
  obtain ⟨w0, w1, w2, w3, w4, w5, rfl⟩ : ∃ w0 w1 w2 w3 w4 w5 : Value, args = #[w0, w1, w2, w3, w4, w5] := by
    have hs : args.size = 6 := by simpa [Cond.value, given_1] using g1
    obtain ⟨L⟩ := args
    match L, hs with
    | [w0, w1, w2, w3, w4, w5], _ => exact ⟨w0, w1, w2, w3, w4, w5, rfl⟩
  have hw := fun d (hd : d ∈ tables_1) => atoms_spec (ws := Jvm.Cond.code x code maxLocals ret :: tables_1) hat d (List.mem_cons_of_mem _ hd)
  have hfit : Fit s := fun {y c} hc i hi => by
    obtain ⟨ha, rfl⟩ := Array.getElem?_eq_some_iff.mp hc
    have q := List.all_eq_true.mp ((Array.all_eq_true_iff_forall_mem.mp hF) _ (Array.getElem_mem ha)) i (List.mem_range.mpr hi)
    simpa [Array.getElem?_eq_getElem hi] using q
  obtain ⟨i0, ei0⟩ := isL_v g3
  obtain rfl : w0 = (.long i0) := Option.some.inj ei0
  obtain ⟨i1, ei1⟩ := isL_v g5
  obtain rfl : w1 = (.long i1) := Option.some.inj ei1
  obtain ⟨i2, ei2⟩ := isL_v g7
  obtain rfl : w2 = (.long i2) := Option.some.inj ei2
  obtain ⟨i3, ei3⟩ := isL_v g9
  obtain rfl : w3 = (.long i3) := Option.some.inj ei3
  obtain ⟨i4, ei4⟩ := isL_v g11
  obtain rfl : w4 = (.long i4) := Option.some.inj ei4
  obtain ⟨i5, ei5⟩ := is_v g12
  obtain rfl : w5 = (.int i5) := Option.some.inj ei5
  obtain ⟨t, p_, T1, T2, T3, T4⟩ := own_nar hw hn
  obtain ⟨n, o, h1, h2, h3, _, L, rfl, ⟨⟨_, rfl, rfl⟩, N⟩, hq⟩ := law l s _ hw i0 i1 i2 i3 i4 i5 t p_ s.heap s.heap.size (Nat.le_refl _) (Old.start s) T1 T2 T3 T4 p e ha hc hk s m _ below hf ((Spec.applies_iff_loose hf).mp happ).1 ⟨rfl, State.Warmed39.refl s, rfl⟩ trivial
  refine ⟨n, _, h1, h2, h3, hpost _ _ _ _ _ _ ⟨Cond.after_iff.mpr rfl, Cond.after_iff.mpr (eq_i res_at (Term.int_eval (1)) rfl), trivial⟩ ⟨hq.1, hq.2.1, (hq.2.2.sift fun y hy => Or.inr (N y hy)).mono (by decide) (by decide)⟩⟩
theorem main_1_1 : Claimed_1_1 := comes_1 fun _ _ _ _ _ _ h hF => ⟨h.1, hF⟩
theorem main_1_2 : Claimed_1_2 := comes_1 fun _ _ _ _ _ _ h hF => ⟨h.2.1, hF⟩
end Jvm.Pilot.@@N@@
namespace Jvm.Pilot.@@N@@
open Jvm Jvm.ClassFile Sem Op Lib Jvm.Free Jvm.Stand Jvm.Pilot.@@N@@.Jvm.D
/-! MADE BY PROGRAM (witnessworld.py) out of the Statement's table words and the real class files: 11 classes; the members and pool entries that the words name. The judged class is class 1, her method 3. -/
namespace start1
open Jvm.ClassFile
def u (s : String) : CpInfo := .utf8 (stringToUtf16 s)
/-- a pool by its gaps: so many unusable entries, then the entry; so many at the end -/
def gap : Nat → List CpInfo → List CpInfo
  | 0, r => r
  | n + 1, r => .unusable :: gap n r
def poolList (es : List (Nat × CpInfo)) (last : Nat) : List CpInfo := es.foldr (fun e r => gap e.1 (e.2 :: r)) (gap last [])
def pool (es : List (Nat × CpInfo)) (last : Nat) : Array CpInfo := ⟨poolList es last⟩
def fileOf (pool : Array CpInfo) (this : Nat) (attrs : Array Attribute := #[]) (ms : Array MethodInfo := #[]) (fl : Nat := 33) (sup : Nat := 0) (ifs : Array Nat := #[]) (fds : Array FieldInfo := #[]) : ClassFile where
  minorVersion := 0
  majorVersion := 65
  constantPool := pool
  accessFlags := fl
  thisClass := this
  superClass := sup
  interfaces := ifs
  fields := fds
  methods := ms
  attributes := attrs
def plain (name : String) (sup : Option ClassId) : Class where
  name := name
  kind := .ordinary
  loader := none
  accessFlags := 33
  super := sup
  interfaces := #[]
  cf := none
  fields := #[]
  methods := #[]
  instanceTypes := #[]
  staticTypes := #[]
  resolved := #[]
  callSites := []
  init := .initialized
  statics := none
  mirror := none

def pool0 : Array CpInfo := pool [(5, u "<init>"), (0, u "()V"), (1, .class_ 10), (1, u "java/lang/Object")] 113

def k0m0 : Method := { name := "<init>", desc := "()V", sig := { parameters := [], returnType := none }, accessFlags := 1, code := none }
/-- java/lang/Object -/
def k0 : Class := { plain "java/lang/Object" none with
  accessFlags := 33
  interfaces := #[]
  cf := some (fileOf pool0 8 #[] #[{ accessFlags := 1, nameIndex := 5, descriptorIndex := 6, attributes := #[] }] 33 0 #[] #[])
  fields := #[]
  methods := #[k0m0]
  instanceTypes := #[]
  staticTypes := #[]
  resolved := Array.replicate 124 none
  statics := none }

def pool1 : Array CpInfo := pool [(2, .class_ 4), (1, u "java/lang/Object"), (0, u "<init>"), (0, u "()V"), (0, .long 4503599627370494), (1, .long 35184372088831), (1, .long 137438953472), (1, .long 562949953290240), (1, .long 4503599627370496), (1, .long 562949953421312), (1, .long 4503599627370495), (1, .long 562949953421311), (1, .methodref 24 25), (0, .class_ 26), (0, .nameAndType 27 28), (0, u "org/subveil/Secp256r1FieldMultiplySmallPinLaw"), (0, u "belowTwoP"), (0, u "([J)Z"), (0, .methodref 30 31), (0, .class_ 32), (0, .nameAndType 33 34), (0, u "org/subveil/Secp256r1Field"), (0, u "add"), (0, u "([J[J[J)V"), (0, .methodref 30 36), (0, .nameAndType 37 38), (0, u "multiplySmall"), (0, u "([J[JI)V"), (0, .methodref 24 40), (0, .nameAndType 41 28), (0, u "normalized"), (0, .methodref 30 43), (0, .nameAndType 44 45), (0, u "equal"), (0, u "([J[J)J"), (5, u "law"), (0, u "(JJJJJI)Z")] 2

def k1m0 : Method := { name := "<init>", desc := "()V", sig := { parameters := [], returnType := none }, accessFlags := 2, code := none }
def k1c1 : Code := { maxStack := 4, maxLocals := 11, code := method_2_code, exceptionTable := #[], attributes := #[] }
def k1m1 : Method := { name := "belowTwoP", desc := "([J)Z", sig := { parameters := [(.array .long)], returnType := some .boolean }, accessFlags := 10, code := some k1c1 }
def k1c2 : Code := { maxStack := 4, maxLocals := 3, code := method_3_code, exceptionTable := #[], attributes := #[] }
def k1m2 : Method := { name := "normalized", desc := "([J)Z", sig := { parameters := [(.array .long)], returnType := some .boolean }, accessFlags := 10, code := some k1c2 }
def k1c3 : Code := { maxStack := 7, maxLocals := 24, code := code, exceptionTable := #[], attributes := #[] }
def k1m3 : Method := { name := "law", desc := "(JJJJJI)Z", sig := { parameters := [.long, .long, .long, .long, .long, .int], returnType := some .boolean }, accessFlags := 9, code := some k1c3 }
/-- org/subveil/Secp256r1FieldMultiplySmallPinLaw -/
def k1 : Class := { plain "org/subveil/Secp256r1FieldMultiplySmallPinLaw" (some 0) with
  accessFlags := 49
  interfaces := #[]
  cf := some (fileOf pool1 24 #[] #[{ accessFlags := 2, nameIndex := 5, descriptorIndex := 6, attributes := #[] }, { accessFlags := 10, nameIndex := 27, descriptorIndex := 28, attributes := #[] }, { accessFlags := 10, nameIndex := 41, descriptorIndex := 28, attributes := #[] }, { accessFlags := 9, nameIndex := 51, descriptorIndex := 52, attributes := #[] }] 49 2 #[] #[])
  fields := #[]
  methods := #[k1m0, k1m1, k1m2, k1m3]
  instanceTypes := #[]
  staticTypes := #[]
  resolved := Array.replicate 55 none
  statics := none }

def pool2 : Array CpInfo := pool [(1, .class_ 2), (0, u "org/subveil/Secp256r1Field"), (1, .class_ 6), (1, u "java/lang/Object"), (0, u "<init>"), (0, u "()V"), (6, u "R_SQUARED"), (0, u "[J"), (3, u "([J[J[J)V"), (4, .long 4503599627370495), (4, u "([J)[J"), (7, .fieldref 1 39), (0, .nameAndType 40 16), (0, u "TWO_P"), (0, .methodref 1 42), (0, .nameAndType 43 44), (0, u "subtractIfAtLeast"), (0, u "([J[JJJJJJ)V"), (0, .methodref 1 46), (0, .nameAndType 47 30), (0, u "canonical"), (9, u "TWO_P_BORROWED"), (2, .long 281474976710655), (27, .class_ 89), (0, u "org/subveil/Secp256r1Field$Powers"), (29, u "equal"), (0, u "([J[J)J"), (18, u "ONE"), (0, .fieldref 1 141), (0, .nameAndType 142 16), (0, u "P_LIMBS"), (0, .long 18446744073709551615), (14, u "Ljava/math/BigInteger;"), (8, u "add"), (4, u "P"), (2, u "R"), (7, u "MONTGOMERY_ONE"), (5, .class_ 190), (0, u "org/subveil/Secp256r1Field$1"), (3, u "ARITHMETIC"), (0, u "Lorg/subveil/PrimeField;"), (0, u "LIMBS"), (0, u "I"), (2, u "OCTETS"), (1, u "BITS"), (1, u "MASK"), (0, u "J"), (0, u "P0"), (0, u "P1"), (0, u "P2"), (2, u "P3"), (0, u "P4"), (0, u "UNIT"), (0, u "D"), (0, u "THREE_UP"), (0, u "FOUR_UP"), (0, u "SHIFT"), (1, u "LOW_SHIFT"), (1, u "TOP_BITS"), (20, u "multiplySmall"), (0, u "([J[JI)V")] 12

def k2m0 : Method := { name := "<init>", desc := "()V", sig := { parameters := [], returnType := none }, accessFlags := 2, code := none }
def k2c1 : Code := { maxStack := 6, maxLocals := 7, code := prog_45_method_7_code, exceptionTable := #[], attributes := #[] }
def k2m1 : Method := { name := "equal", desc := "([J[J)J", sig := { parameters := [(.array .long), (.array .long)], returnType := some .long }, accessFlags := 8, code := some k2c1 }
def k2c2 : Code := { maxStack := 12, maxLocals := 13, code := prog_45_method_9_code, exceptionTable := #[], attributes := #[] }
def k2m2 : Method := { name := "add", desc := "([J[J[J)V", sig := { parameters := [(.array .long), (.array .long), (.array .long)], returnType := none }, accessFlags := 8, code := some k2c2 }
def k2c3 : Code := { maxStack := 7, maxLocals := 15, code := prog_45_method_15_code, exceptionTable := #[], attributes := #[] }
def k2m3 : Method := { name := "multiplySmall", desc := "([J[JI)V", sig := { parameters := [(.array .long), (.array .long), .int], returnType := none }, accessFlags := 8, code := some k2c3 }
def k2c4 : Code := { maxStack := 12, maxLocals := 2, code := prog_45_method_27_code, exceptionTable := #[], attributes := #[] }
def k2m4 : Method := { name := "canonical", desc := "([J)[J", sig := { parameters := [(.array .long)], returnType := some (.array .long) }, accessFlags := 10, code := some k2c4 }
def k2c5 : Code := { maxStack := 10, maxLocals := 24, code := prog_45_method_28_code, exceptionTable := #[], attributes := #[] }
def k2m5 : Method := { name := "subtractIfAtLeast", desc := "([J[JJJJJJ)V", sig := { parameters := [(.array .long), (.array .long), .long, .long, .long, .long, .long], returnType := none }, accessFlags := 10, code := some k2c5 }
/-- org/subveil/Secp256r1Field -/
def k2 : Class := { plain "org/subveil/Secp256r1Field" (some 0) with
  accessFlags := 48
  interfaces := #[]
  cf := some (fileOf pool2 1 #[.nestMembers #[88, 189]] #[{ accessFlags := 2, nameIndex := 7, descriptorIndex := 8, attributes := #[] }, { accessFlags := 8, nameIndex := 119, descriptorIndex := 120, attributes := #[] }, { accessFlags := 8, nameIndex := 167, descriptorIndex := 20, attributes := #[] }, { accessFlags := 8, nameIndex := 242, descriptorIndex := 243, attributes := #[] }, { accessFlags := 10, nameIndex := 47, descriptorIndex := 30, attributes := #[] }, { accessFlags := 10, nameIndex := 43, descriptorIndex := 44, attributes := #[] }] 48 4 #[] #[{ accessFlags := 24, nameIndex := 196, descriptorIndex := 197, attributes := #[] }, { accessFlags := 24, nameIndex := 200, descriptorIndex := 197, attributes := #[] }, { accessFlags := 24, nameIndex := 172, descriptorIndex := 158, attributes := #[] }, { accessFlags := 26, nameIndex := 202, descriptorIndex := 197, attributes := #[] }, { accessFlags := 26, nameIndex := 204, descriptorIndex := 205, attributes := #[] }, { accessFlags := 26, nameIndex := 206, descriptorIndex := 205, attributes := #[] }, { accessFlags := 26, nameIndex := 207, descriptorIndex := 205, attributes := #[] }, { accessFlags := 26, nameIndex := 208, descriptorIndex := 205, attributes := #[] }, { accessFlags := 26, nameIndex := 211, descriptorIndex := 205, attributes := #[] }, { accessFlags := 26, nameIndex := 212, descriptorIndex := 205, attributes := #[] }, { accessFlags := 26, nameIndex := 213, descriptorIndex := 214, attributes := #[] }, { accessFlags := 26, nameIndex := 215, descriptorIndex := 214, attributes := #[] }, { accessFlags := 26, nameIndex := 216, descriptorIndex := 214, attributes := #[] }, { accessFlags := 26, nameIndex := 217, descriptorIndex := 197, attributes := #[] }, { accessFlags := 26, nameIndex := 219, descriptorIndex := 197, attributes := #[] }, { accessFlags := 26, nameIndex := 175, descriptorIndex := 158, attributes := #[] }, { accessFlags := 26, nameIndex := 15, descriptorIndex := 16, attributes := #[] }, { accessFlags := 26, nameIndex := 139, descriptorIndex := 16, attributes := #[] }, { accessFlags := 26, nameIndex := 183, descriptorIndex := 16, attributes := #[] }, { accessFlags := 26, nameIndex := 142, descriptorIndex := 16, attributes := #[] }, { accessFlags := 26, nameIndex := 40, descriptorIndex := 16, attributes := #[] }, { accessFlags := 26, nameIndex := 57, descriptorIndex := 16, attributes := #[] }, { accessFlags := 26, nameIndex := 221, descriptorIndex := 197, attributes := #[] }, { accessFlags := 24, nameIndex := 194, descriptorIndex := 195, attributes := #[] }])
  fields := #[{ name := "LIMBS", type := .int, accessFlags := 24, slot := 0, constantValue := 0 }, { name := "OCTETS", type := .int, accessFlags := 24, slot := 1, constantValue := 0 }, { name := "P", type := (.object "java/math/BigInteger"), accessFlags := 24, slot := 2, constantValue := 0 }, { name := "BITS", type := .int, accessFlags := 26, slot := 3, constantValue := 0 }, { name := "MASK", type := .long, accessFlags := 26, slot := 4, constantValue := 0 }, { name := "P0", type := .long, accessFlags := 26, slot := 5, constantValue := 0 }, { name := "P1", type := .long, accessFlags := 26, slot := 6, constantValue := 0 }, { name := "P2", type := .long, accessFlags := 26, slot := 7, constantValue := 0 }, { name := "P3", type := .long, accessFlags := 26, slot := 8, constantValue := 0 }, { name := "P4", type := .long, accessFlags := 26, slot := 9, constantValue := 0 }, { name := "UNIT", type := .double, accessFlags := 26, slot := 10, constantValue := 0 }, { name := "THREE_UP", type := .double, accessFlags := 26, slot := 11, constantValue := 0 }, { name := "FOUR_UP", type := .double, accessFlags := 26, slot := 12, constantValue := 0 }, { name := "SHIFT", type := .int, accessFlags := 26, slot := 13, constantValue := 0 }, { name := "LOW_SHIFT", type := .int, accessFlags := 26, slot := 14, constantValue := 0 }, { name := "R", type := (.object "java/math/BigInteger"), accessFlags := 26, slot := 15, constantValue := 0 }, { name := "R_SQUARED", type := (.array .long), accessFlags := 26, slot := 16, constantValue := 0 }, { name := "ONE", type := (.array .long), accessFlags := 26, slot := 17, constantValue := 0 }, { name := "MONTGOMERY_ONE", type := (.array .long), accessFlags := 26, slot := 18, constantValue := 0 }, { name := "P_LIMBS", type := (.array .long), accessFlags := 26, slot := 19, constantValue := 0 }, { name := "TWO_P", type := (.array .long), accessFlags := 26, slot := 20, constantValue := 0 }, { name := "TWO_P_BORROWED", type := (.array .long), accessFlags := 26, slot := 21, constantValue := 0 }, { name := "TOP_BITS", type := .int, accessFlags := 26, slot := 22, constantValue := 0 }, { name := "ARITHMETIC", type := (.object "org/subveil/PrimeField"), accessFlags := 24, slot := 23, constantValue := 0 }]
  methods := #[k2m0, k2m1, k2m2, k2m3, k2m4, k2m5]
  instanceTypes := #[]
  staticTypes := #[.int, .int, (.object "java/math/BigInteger"), .int, .long, .long, .long, .long, .long, .long, .double, .double, .double, .int, .int, (.object "java/math/BigInteger"), (.array .long), (.array .long), (.array .long), (.array .long), (.array .long), (.array .long), .int, (.object "org/subveil/PrimeField")]
  resolved := Array.replicate 256 none
  statics := some 0 }

def pool3 : Array CpInfo := pool [(1, u "java/lang/Cloneable"), (0, .class_ 1), (0, u "java/lang/Object"), (0, .class_ 3)] 3

/-- java/lang/Cloneable -/
def k3 : Class := { plain "java/lang/Cloneable" (some 0) with
  accessFlags := 1537
  interfaces := #[]
  cf := some (fileOf pool3 2 #[] #[] 1537 4 #[] #[])
  fields := #[]
  methods := #[]
  instanceTypes := #[]
  staticTypes := #[]
  resolved := Array.replicate 8 none
  statics := none }

def pool4 : Array CpInfo := pool [(1, u "java/io/Serializable"), (0, .class_ 1), (0, u "java/lang/Object"), (0, .class_ 3)] 3

/-- java/io/Serializable -/
def k4 : Class := { plain "java/io/Serializable" (some 0) with
  accessFlags := 1537
  interfaces := #[]
  cf := some (fileOf pool4 2 #[] #[] 1537 4 #[] #[])
  fields := #[]
  methods := #[]
  instanceTypes := #[]
  staticTypes := #[]
  resolved := Array.replicate 8 none
  statics := none }

/-- the primitive byte -/
def k5 : Class := { plain "byte" none with kind := .primitive 'B', accessFlags := 0x411 }
/-- [B -/
def k6 : Class := { plain "[B" (some 0) with kind := .array 5 .byte, interfaces := #[3, 4], accessFlags := 1041 }

/-- the primitive int -/
def k7 : Class := { plain "int" none with kind := .primitive 'I', accessFlags := 0x411 }
/-- [I -/
def k8 : Class := { plain "[I" (some 0) with kind := .array 7 .int, interfaces := #[3, 4], accessFlags := 1041 }

/-- the primitive long -/
def k9 : Class := { plain "long" none with kind := .primitive 'J', accessFlags := 0x411 }
/-- [J -/
def k10 : Class := { plain "[J" (some 0) with kind := .array 9 .long, interfaces := #[3, 4], accessFlags := 1041 }

def heap : Heap := #[{ cls := 2, slots := #[.int 0, .int 0, .null, .int 0, .long 0, .long 0, .long 0, .long 0, .long 0, .long 0, .double 0, .double 0, .double 0, .int 0, .int 0, .null, .null, .null, .null, .ref 2, .ref 1, .null, .int 0, .null], vm := .statics 2 },
  { cls := 10, slots := #[.long 4503599627370494, .long 35184372088831, .long 0, .long 137438953472, .long 562949953290240], vm := .none },
  { cls := 10, slots := #[.long 4503599627370495, .long 17592186044415, .long 0, .long 68719476736, .long 281474976645120], vm := .none }]
def classes : Array Class := #[k0, k1, k2, k3, k4, k5, k6, k7, k8, k9, k10]
def interned : List (Array UInt16 × Addr) := []
def slotsUsed : Nat := 34
def theMethod : MethodId := ⟨1, 3⟩
def args0 : Array Value := #[.long 3, .long 5, .long 7, .long 9, .long 11, .int 5]
def aboutOver (below : List Frame) : State where
  vm := { classes := classes, interned := interned.toArray }
  heap := heap
  slotsUsed := slotsUsed
  threads := #[{ frames := .invoking theMethod args0 :: below }]
def below0 : List Frame := [.native { method := ⟨0, 0⟩, args := #[] }]
def about1 : State := aboutOver below0
def p0 : Program := .bare "" "" ""
def e0 : Env := launch0.env 0 0 0
theorem w_frames : about1.frames = Frame.invoking theMethod args0 :: below0 := rfl
set_option maxRecDepth 65536 in
theorem w_args : argsFit about1.vm theMethod args0 = true := by decide +kernel
set_option maxRecDepth 65536 in
theorem w_heap : heapFits about1 = true := by decide +kernel
set_option maxRecDepth 65536 in
theorem w_runnable : about1.curStatus? = some .runnable := by decide +kernel
set_option maxRecDepth 65536 in
theorem w_alone : about1.alone = true := by decide +kernel
set_option maxRecDepth 65536 in
theorem w_named : about1.methodNamed? x = some theMethod := by decide +kernel
set_option maxRecDepth 65536 in
theorem w_hears : about1.hears theMethod below0 = true := by decide +kernel
set_option maxRecDepth 65536 in
theorem w_ripe : about1.ripe theMethod args0 below0 = true := by decide +kernel
theorem w_running : about1.status = .running := rfl
set_option maxRecDepth 65536 in
theorem w_room : about1.hasRoom e0.platform room_1 = true :=
  launch0.hasRoom_least _ room_1 (by decide +kernel) (by decide +kernel) (by decide +kernel) (by decide +kernel) (by decide +kernel) (by decide +kernel)
theorem allAtoms_all (ts : List Jvm.Cond) (a : Array Jvm.Value) (st : Jvm.State) : (allAtoms ts).before a st = ts.all (fun c => c.before a st) := by
  induction ts with
  | nil => rfl
  | cons c t ih =>
    show (Jvm.Cond.and c (allAtoms t)).before a st = _
    rw [Jvm.Cond.before_and, ih, List.all_cons]
def words1 : List Jvm.Cond := Jvm.Cond.code x code maxLocals ret :: tables_1
/-- a 'code' word, met by the world's own term for the bytes: nothing is compared byte by byte -/
theorem code_word {y : MethodName} {bytes : ByteArray} {mx : Nat} {rt : Option FieldType} {a : Array Value} {s : State} {m : MethodId} {meth : Method} {c : Code} (h1 : s.methodNamed? y = some m) (h2 : s.vm.method? m = some meth) (h3 : meth.code = some c) (h4 : c.code = bytes)
    (h5 : (c.maxLocals == mx && c.exceptionTable.isEmpty && decide (c.maxStack ≤ mostOperands) && decide (meth.sig.returnType = rt) && !meth.locks && decide (parseMethodDescriptor y.desc = some meth.sig)) = true) : (Jvm.Cond.code y bytes mx rt).before a s = true := by
  simp only [Bool.and_eq_true, beq_iff_eq, Bool.not_eq_true', decide_eq_true_eq] at h5
  obtain ⟨⟨⟨⟨⟨g1, g2⟩, g3⟩, g4⟩, g5⟩, g6⟩ := h5
  simp [Cond.before, Cond.holds, Cond.value, h1, h2, h3, h4, g1, g2, g3, g4, g5, g6]
def isCode : Jvm.Cond → Bool
  | .code _ _ _ _ => true
  | _ => false
theorem all_split {L : List Jvm.Cond} {P : Jvm.Cond → Bool} (h1 : L.all (fun c => isCode c || P c) = true) (h2 : ∀ c ∈ L.filter isCode, P c = true) : L.all P = true := by
  refine List.all_eq_true.mpr fun c hc => ?_
  have h := List.all_eq_true.mp h1 c hc
  rcases Bool.eq_false_or_eq_true (isCode c) with hi | hi
  · exact h2 c (List.mem_filter.mpr ⟨hc, hi⟩)
  · simpa [hi] using h
set_option maxRecDepth 65536 in
theorem w_c0 : (Jvm.Cond.code x code maxLocals ret).before args0 about1 = true := code_word (m := ⟨1, 3⟩) (meth := k1m3) (c := k1c3) (by decide +kernel) rfl rfl rfl (by decide +kernel)
set_option maxRecDepth 65536 in
theorem w_c1 : (Jvm.Cond.code ({ cls := "org/subveil/Secp256r1FieldMultiplySmallPinLaw", name := "belowTwoP", desc := "([J)Z" } : Jvm.MethodName) method_2_code (11 : Nat) (Option.some Jvm.ClassFile.FieldType.boolean)).before args0 about1 = true := code_word (m := ⟨1, 1⟩) (meth := k1m1) (c := k1c1) (by decide +kernel) rfl rfl rfl (by decide +kernel)
set_option maxRecDepth 65536 in
theorem w_c2 : (Jvm.Cond.code ({ cls := "org/subveil/Secp256r1Field", name := "add", desc := "([J[J[J)V" } : Jvm.MethodName) prog_45_method_9_code (13 : Nat) (Option.none : Option Jvm.ClassFile.FieldType)).before args0 about1 = true := code_word (m := ⟨2, 2⟩) (meth := k2m2) (c := k2c2) (by decide +kernel) rfl rfl rfl (by decide +kernel)
set_option maxRecDepth 65536 in
theorem w_c3 : (Jvm.Cond.code ({ cls := "org/subveil/Secp256r1Field", name := "subtractIfAtLeast", desc := "([J[JJJJJJ)V" } : Jvm.MethodName) prog_45_method_28_code (24 : Nat) (Option.none : Option Jvm.ClassFile.FieldType)).before args0 about1 = true := code_word (m := ⟨2, 5⟩) (meth := k2m5) (c := k2c5) (by decide +kernel) rfl rfl rfl (by decide +kernel)
set_option maxRecDepth 65536 in
theorem w_c4 : (Jvm.Cond.code ({ cls := "org/subveil/Secp256r1Field", name := "multiplySmall", desc := "([J[JI)V" } : Jvm.MethodName) prog_45_method_15_code (15 : Nat) (Option.none : Option Jvm.ClassFile.FieldType)).before args0 about1 = true := code_word (m := ⟨2, 3⟩) (meth := k2m3) (c := k2c3) (by decide +kernel) rfl rfl rfl (by decide +kernel)
set_option maxRecDepth 65536 in
theorem w_c5 : (Jvm.Cond.code ({ cls := "org/subveil/Secp256r1FieldMultiplySmallPinLaw", name := "normalized", desc := "([J)Z" } : Jvm.MethodName) method_3_code (3 : Nat) (Option.some Jvm.ClassFile.FieldType.boolean)).before args0 about1 = true := code_word (m := ⟨1, 2⟩) (meth := k1m2) (c := k1c2) (by decide +kernel) rfl rfl rfl (by decide +kernel)
set_option maxRecDepth 65536 in
theorem w_c6 : (Jvm.Cond.code ({ cls := "org/subveil/Secp256r1Field", name := "equal", desc := "([J[J)J" } : Jvm.MethodName) prog_45_method_7_code (7 : Nat) (Option.some Jvm.ClassFile.FieldType.long)).before args0 about1 = true := code_word (m := ⟨2, 1⟩) (meth := k2m1) (c := k2c1) (by decide +kernel) rfl rfl rfl (by decide +kernel)
set_option maxRecDepth 65536 in
theorem w_c7 : (Jvm.Cond.code ({ cls := "org/subveil/Secp256r1Field", name := "canonical", desc := "([J)[J" } : Jvm.MethodName) prog_45_method_27_code (2 : Nat) (Option.some (Jvm.ClassFile.FieldType.array Jvm.ClassFile.FieldType.long))).before args0 about1 = true := code_word (m := ⟨2, 4⟩) (meth := k2m4) (c := k2c4) (by decide +kernel) rfl rfl rfl (by decide +kernel)
def codes1 : List Jvm.Cond := [Jvm.Cond.code x code maxLocals ret, Jvm.Cond.code ({ cls := "org/subveil/Secp256r1FieldMultiplySmallPinLaw", name := "belowTwoP", desc := "([J)Z" } : Jvm.MethodName) method_2_code (11 : Nat) (Option.some Jvm.ClassFile.FieldType.boolean), Jvm.Cond.code ({ cls := "org/subveil/Secp256r1Field", name := "add", desc := "([J[J[J)V" } : Jvm.MethodName) prog_45_method_9_code (13 : Nat) (Option.none : Option Jvm.ClassFile.FieldType), Jvm.Cond.code ({ cls := "org/subveil/Secp256r1Field", name := "subtractIfAtLeast", desc := "([J[JJJJJJ)V" } : Jvm.MethodName) prog_45_method_28_code (24 : Nat) (Option.none : Option Jvm.ClassFile.FieldType), Jvm.Cond.code ({ cls := "org/subveil/Secp256r1Field", name := "multiplySmall", desc := "([J[JI)V" } : Jvm.MethodName) prog_45_method_15_code (15 : Nat) (Option.none : Option Jvm.ClassFile.FieldType), Jvm.Cond.code ({ cls := "org/subveil/Secp256r1FieldMultiplySmallPinLaw", name := "normalized", desc := "([J)Z" } : Jvm.MethodName) method_3_code (3 : Nat) (Option.some Jvm.ClassFile.FieldType.boolean), Jvm.Cond.code ({ cls := "org/subveil/Secp256r1Field", name := "equal", desc := "([J[J)J" } : Jvm.MethodName) prog_45_method_7_code (7 : Nat) (Option.some Jvm.ClassFile.FieldType.long), Jvm.Cond.code ({ cls := "org/subveil/Secp256r1Field", name := "canonical", desc := "([J)[J" } : Jvm.MethodName) prog_45_method_27_code (2 : Nat) (Option.some (Jvm.ClassFile.FieldType.array Jvm.ClassFile.FieldType.long))]
set_option maxRecDepth 65536 in
theorem codes_eq : words1.filter isCode = codes1 := rfl
theorem w_codes : ∀ c ∈ words1.filter isCode, c.before args0 about1 = true := by
  rw [codes_eq]
  intro c hc
  simp only [codes1, List.mem_cons, List.not_mem_nil, or_false] at hc
  rcases hc with rfl | rfl | rfl | rfl | rfl | rfl | rfl | rfl
  · exact w_c0
  · exact w_c1
  · exact w_c2
  · exact w_c3
  · exact w_c4
  · exact w_c5
  · exact w_c6
  · exact w_c7
set_option maxRecDepth 65536 in
theorem w_t1 : (words1.take 24).all (fun c => isCode c || c.before args0 about1) = true := by decide +kernel
set_option maxRecDepth 65536 in
theorem w_t2 : (words1.drop 24).all (fun c => isCode c || c.before args0 about1) = true := by decide +kernel
theorem w_tables : (allAtoms (Jvm.Cond.code x code maxLocals ret :: tables_1)).before args0 about1 = true := by
  rw [allAtoms_all]
  show words1.all (fun c => c.before args0 about1) = true
  refine all_split ?_ w_codes
  rw [← List.take_append_drop 24 words1, List.all_append, w_t1, w_t2]
  rfl
set_option maxRecDepth 65536 in
theorem w_case : (Jvm.Cond.and given_1 narrow_1).before args0 about1 = true := by decide +kernel
theorem w_applies : (headSpec (Jvm.Cond.code x code maxLocals ret :: tables_1) room_1).applies x e0.platform about1 = true :=
  (Spec.applies_iff w_frames).mpr ⟨w_running, w_runnable, w_alone, w_named, w_hears, w_ripe, w_room, w_tables⟩
theorem atStart : AtStart classFile x code maxLocals ret World_1 tables_1 room_1 Calls_1 rest_1 Pre_1 launch0 p0 e0 about1 theMethod args0 below0 :=
  ⟨lists_1, trivial, launch0.admits_env _ _ _, launch0.least_env, fairChoices_fair.cas, fairChoices_fair.clock, w_frames, w_args, w_heap, w_applies, trivial, trivial, w_case⟩
end start1
theorem witness_1 : WitnessClaimed_1 := ⟨start1.p0, start1.e0, start1.about1, start1.theMethod, start1.args0, start1.below0, start1.atStart⟩
end Jvm.Pilot.@@N@@
