import JvmDerived
import JvmDerived.Pilot.@@N@@Statement
import JvmDerived.Pilot.@@N@@Code
set_option linter.unusedVariables false
set_option linter.unusedSimpArgs false
namespace Jvm.Pilot.@@N@@
namespace Own
open Jvm Jvm.ClassFile Sem Op Lib Jvm.Free Jvm.Stand Jvm.LawKit Jvm.RoadKit Bundle
/-- what a body's walk knows of its method -/
def Ctx (p : Program) (l : Launch) (e : Env) (R : Room) (s : State) (m : MethodId) (args : Array Value) (below : List Frame) (meth : Method) (c : Code) (Z : State) (own : String) (cd : ByteArray) (maxL : Nat) (ret : Option FieldType) (nm : String) : Prop :=
  p.tables.exec = Jvm.exec ∧ Z.Warmed39 s.vm ∧ c.code = cd ∧ c.maxLocals = maxL ∧ s.vm.findClass own = some m.cls ∧ meth.sig.returnType = ret ∧ meth.locks = false ∧ meth.name = nm
/-- from every state that stands at pc with these locals and this stack over the heap h the method returns, and P holds -/
def Run (p : Program) (l : Launch) (e : Env) (R : Room) (s : State) (m : MethodId) (args : Array Value) (below : List Frame) (meth : Method) (c : Code) (n0 : Nat) (P : Option Value → Heap → Prop) (h : Heap) (k n : Nat) (pc : Nat) (Ls : Array Slot) (st : List Value) : Prop :=
  ∀ (T : State) (locs : List Loc), Stand p l e R s m args below meth c T locs k n → T.heap = h → Fr n0 locs →
    ∃ s₂ o, Steps p.tables e below (T.setTop (mkF m pc Ls st)) s₂ ∧ s₂.status = .running ∧ Ended s₂ below o ∧ ∃ v L, o = .returned v ∧ (P v s₂.heap ∧ Fr n0 L) ∧ FrameEnd s o s₂ L R.cells R.slots
def RetI (Q : Int32 → Heap → Prop) (v : Option Value) (h : Heap) : Prop := ∃ z, v = some (.int z) ∧ Q z h
def RetL (Q : Int64 → Heap → Prop) (v : Option Value) (h : Heap) : Prop := ∃ z, v = some (.long z) ∧ Q z h
def RetV (Q : Value → Heap → Prop) (v : Option Value) (h : Heap) : Prop := ∃ z, v = some z ∧ Q z h
def Ret0 (Q : Heap → Prop) (v : Option Value) (h : Heap) : Prop := v = none ∧ Q h
def Met (l : Launch) (Z : State) (y : MethodName) (bytes : ByteArray) (mL : Nat) (rt : Option FieldType) (ws : List Jvm.Cond) (rm : Room) (as : Array Value) (h : Heap) (n0 : Nat) (P : Option Value → Heap → Prop) : Prop :=
  MetFree l y (head1 (Jvm.Cond.code y bytes mL rt :: ws) rm) (fun a U => a = as ∧ Z.Warmed39 U.vm ∧ U.heap = h) (fun _ _ _ _ _ => True) (fun _ U o U' => ∃ v L, o = .returned v ∧ (P v U'.heap ∧ Fr n0 L) ∧ FrameEnd U o U' L rm.cells rm.slots)
section Steps
variable {p : Program} {l : Launch} {e : Env} {R : Room} {s : State} {m : MethodId} {args : Array Value} {below : List Frame} {meth : Method} {c : Code} {Z : State} {own nm : String} {cd : ByteArray} {maxL : Nat} {ret : Option FieldType} {n0 : Nat} {P : Option Value → Heap → Prop} {h : Heap} {k n pc pc' : Nat} {Ls l' : Array Slot} {st st' rest : List Value} {a0 : Array Value}
theorem Met.intro {y : MethodName} {bytes : ByteArray} {mL : Nat} {rt : Option FieldType} {ws : List Jvm.Cond} {rm : Room} {as : Array Value} (hpl : plainFor y = true) (ho : y.cls = own) (hn : y.name = nm) (ef : ∀ m, entryFrame m as mL = mkF m 0 Ls [])
    (body : ∀ p e s m below meth c, Ctx p l e rm s m as below meth c Z own bytes mL rt nm → Run p l e rm s m as below meth c n0 P h 0 0 0 Ls []) : Met l Z y bytes mL rt ws rm as h n0 P := by
  subst ho hn
  refine MetFree.of_bodySF hpl hisR ?_
  intro p e s m args below meth c s₁ Bd hml0 hP hK
  obtain ⟨rfl, hZ, hh⟩ := hP
  have X0 : Stand p l e rm s m args below meth c s₁ [] 0 0 := Stand.of_body Bd
  have e0 : s₁.heap = h := by rw [← hh, Bd.state]; rfl
  have hown : s.vm.findClass y.cls = some m.cls := findClass_of_methodNamed Bd.named
  obtain ⟨s₂, o, h1, h2⟩ := body p e s m below meth c ⟨Bd.exec, hZ, Bd.bytes, hml0, hown, Bd.returns, Bd.notSynchronized, (name_of_methodNamed Bd.named Bd.method).1⟩ s₁ [] X0 e0 (Fr.nil _)
  exact ⟨s₂, o, castTop (ef m) h1, h2⟩
theorem Run.pure (f : ∀ T locs, Stand p l e R s m args below meth c T locs k n → T.heap = h → ∀ t, Steps p.tables e below (T.setTop (mkF m pc' l' st')) t → Steps p.tables e below (T.setTop (mkF m pc Ls st)) t) (r : Run p l e R s m args below meth c n0 P h k n pc' l' st') : Run p l e R s m args below meth c n0 P h k n pc Ls st := fun T locs X eT N => by
  obtain ⟨s₂, o, q, r⟩ := r T locs X eT N
  exact ⟨s₂, o, f T locs X eT _ q, r⟩
theorem Run.warm (f : ∀ T locs, Stand p l e R s m args below meth c T locs k n → T.heap = h → ∃ T', Stand p l e R s m args below meth c T' locs k n ∧ T'.heap = h ∧ ∀ t, Steps p.tables e below (T'.setTop (mkF m pc' l' st')) t → Steps p.tables e below (T.setTop (mkF m pc Ls st)) t) (r : Run p l e R s m args below meth c n0 P h k n pc' l' st') : Run p l e R s m args below meth c n0 P h k n pc Ls st := fun T locs X eT N => by
  obtain ⟨T', X', e', f'⟩ := f T locs X eT
  obtain ⟨s₂, o, q, r⟩ := r T' locs X' e' N
  exact ⟨s₂, o, f' _ q, r⟩
/-! loads, stores, constants -/
theorem s_iloadN (C : Ctx p l e R s m args below meth c Z own cd maxL ret nm) {q : Fin 4} {v : Int32} (hd : decode cd pc = .ok (.iload_n q, 1)) (hp : pc + 1 = pc') (hl : Ls[q.val]? = some (.val (.int v))) (r : Run p l e R s m args below meth c n0 P h k n pc' Ls (.int v :: st)) : Run p l e R s m args below meth c n0 P h k n pc Ls st := by
  subst hp; exact Run.pure (fun T locs X _ t z => XS.iloadN X.here C.1 rfl (hb C.2.2.1 hd) hl z) r
theorem s_iload (C : Ctx p l e R s m args below meth c Z own cd maxL ret nm) {q : Nat} {v : Int32} (hd : decode cd pc = .ok (.iload q, 2)) (hp : pc + 2 = pc') (hl : Ls[q]? = some (.val (.int v))) (r : Run p l e R s m args below meth c n0 P h k n pc' Ls (.int v :: st)) : Run p l e R s m args below meth c n0 P h k n pc Ls st := by
  subst hp; exact Run.pure (fun T locs X _ t z => XS.iload X.here C.1 rfl (hb C.2.2.1 hd) hl z) r
theorem s_lloadN (C : Ctx p l e R s m args below meth c Z own cd maxL ret nm) {q : Fin 4} {v : Int64} (hd : decode cd pc = .ok (.lload_n q, 1)) (hp : pc + 1 = pc') (hl : Ls[q.val]? = some (.val (.long v))) (r : Run p l e R s m args below meth c n0 P h k n pc' Ls (.long v :: st)) : Run p l e R s m args below meth c n0 P h k n pc Ls st := by
  subst hp; exact Run.pure (fun T locs X _ t z => XS.lloadN X.here C.1 rfl (hb C.2.2.1 hd) hl z) r
theorem s_lload (C : Ctx p l e R s m args below meth c Z own cd maxL ret nm) {q : Nat} {v : Int64} (hd : decode cd pc = .ok (.lload q, 2)) (hp : pc + 2 = pc') (hl : Ls[q]? = some (.val (.long v))) (r : Run p l e R s m args below meth c n0 P h k n pc' Ls (.long v :: st)) : Run p l e R s m args below meth c n0 P h k n pc Ls st := by
  subst hp; exact Run.pure (fun T locs X _ t z => XS.lload X.here C.1 rfl (hb C.2.2.1 hd) hl z) r
theorem s_aloadN (C : Ctx p l e R s m args below meth c Z own cd maxL ret nm) {q : Fin 4} {v : Value} (hd : decode cd pc = .ok (.aload_n q, 1)) (hp : pc + 1 = pc') (hl : Ls[q.val]? = some (.val v)) (hv : v.isRef = true) (r : Run p l e R s m args below meth c n0 P h k n pc' Ls (v :: st)) : Run p l e R s m args below meth c n0 P h k n pc Ls st := by
  subst hp; exact Run.pure (fun T locs X _ t z => XS.aloadN X.here C.1 rfl (hb C.2.2.1 hd) hl hv z) r
theorem s_aload (C : Ctx p l e R s m args below meth c Z own cd maxL ret nm) {q : Nat} {v : Value} (hd : decode cd pc = .ok (.aload q, 2)) (hp : pc + 2 = pc') (hl : Ls[q]? = some (.val v)) (hv : v.isRef = true) (r : Run p l e R s m args below meth c n0 P h k n pc' Ls (v :: st)) : Run p l e R s m args below meth c n0 P h k n pc Ls st := by
  subst hp; exact Run.pure (fun T locs X _ t z => XS.aload X.here C.1 rfl (hb C.2.2.1 hd) hl hv z) r
theorem s_istoreN (C : Ctx p l e R s m args below meth c Z own cd maxL ret nm) {q : Fin 4} {x : Int32} (hd : decode cd pc = .ok (.istore_n q, 1)) (hp : pc + 1 = pc') (L : Int32 → Array Slot) (hl : ∀ y, storeLocals Ls q.val (.int y) = some (L y)) (r : ∀ y, y = x → Run p l e R s m args below meth c n0 P h k n pc' (L y) st) : Run p l e R s m args below meth c n0 P h k n pc Ls (.int x :: st) := by
  subst hp; exact Run.pure (fun T locs X _ t z => XS.istoreN X.here C.1 rfl (hb C.2.2.1 hd) rfl (hl x) z) (r x rfl)
theorem s_istore (C : Ctx p l e R s m args below meth c Z own cd maxL ret nm) {q : Nat} {x : Int32} (hd : decode cd pc = .ok (.istore q, 2)) (hp : pc + 2 = pc') (L : Int32 → Array Slot) (hl : ∀ y, storeLocals Ls q (.int y) = some (L y)) (r : ∀ y, y = x → Run p l e R s m args below meth c n0 P h k n pc' (L y) st) : Run p l e R s m args below meth c n0 P h k n pc Ls (.int x :: st) := by
  subst hp; exact Run.pure (fun T locs X _ t z => XS.istore X.here C.1 rfl (hb C.2.2.1 hd) rfl (hl x) z) (r x rfl)
theorem s_lstoreN (C : Ctx p l e R s m args below meth c Z own cd maxL ret nm) {q : Fin 4} {x : Int64} (hd : decode cd pc = .ok (.lstore_n q, 1)) (hp : pc + 1 = pc') (L : Int64 → Array Slot) (hl : ∀ y, storeLocals Ls q.val (.long y) = some (L y)) (r : ∀ y, y = x → Run p l e R s m args below meth c n0 P h k n pc' (L y) st) : Run p l e R s m args below meth c n0 P h k n pc Ls (.long x :: st) := by
  subst hp; exact Run.pure (fun T locs X _ t z => XS.lstoreN X.here C.1 rfl (hb C.2.2.1 hd) rfl (hl x) z) (r x rfl)
theorem s_lstore (C : Ctx p l e R s m args below meth c Z own cd maxL ret nm) {q : Nat} {x : Int64} (hd : decode cd pc = .ok (.lstore q, 2)) (hp : pc + 2 = pc') (L : Int64 → Array Slot) (hl : ∀ y, storeLocals Ls q (.long y) = some (L y)) (r : ∀ y, y = x → Run p l e R s m args below meth c n0 P h k n pc' (L y) st) : Run p l e R s m args below meth c n0 P h k n pc Ls (.long x :: st) := by
  subst hp; exact Run.pure (fun T locs X _ t z => XS.lstore X.here C.1 rfl (hb C.2.2.1 hd) rfl (hl x) z) (r x rfl)
theorem s_istoreNP (C : Ctx p l e R s m args below meth c Z own cd maxL ret nm) {q : Fin 4} {x : Int32} (hd : decode cd pc = .ok (.istore_n q, 1)) (hp : pc + 1 = pc') (L : Array Slot) (hl : storeLocals Ls q.val (.int x) = some L) (r : Run p l e R s m args below meth c n0 P h k n pc' L st) : Run p l e R s m args below meth c n0 P h k n pc Ls (.int x :: st) := by
  subst hp; exact Run.pure (fun T locs X _ t z => XS.istoreN X.here C.1 rfl (hb C.2.2.1 hd) rfl hl z) r
theorem s_istoreP (C : Ctx p l e R s m args below meth c Z own cd maxL ret nm) {q : Nat} {x : Int32} (hd : decode cd pc = .ok (.istore q, 2)) (hp : pc + 2 = pc') (L : Array Slot) (hl : storeLocals Ls q (.int x) = some L) (r : Run p l e R s m args below meth c n0 P h k n pc' L st) : Run p l e R s m args below meth c n0 P h k n pc Ls (.int x :: st) := by
  subst hp; exact Run.pure (fun T locs X _ t z => XS.istore X.here C.1 rfl (hb C.2.2.1 hd) rfl hl z) r
theorem s_lstoreNP (C : Ctx p l e R s m args below meth c Z own cd maxL ret nm) {q : Fin 4} {x : Int64} (hd : decode cd pc = .ok (.lstore_n q, 1)) (hp : pc + 1 = pc') (L : Array Slot) (hl : storeLocals Ls q.val (.long x) = some L) (r : Run p l e R s m args below meth c n0 P h k n pc' L st) : Run p l e R s m args below meth c n0 P h k n pc Ls (.long x :: st) := by
  subst hp; exact Run.pure (fun T locs X _ t z => XS.lstoreN X.here C.1 rfl (hb C.2.2.1 hd) rfl hl z) r
theorem s_lstoreP (C : Ctx p l e R s m args below meth c Z own cd maxL ret nm) {q : Nat} {x : Int64} (hd : decode cd pc = .ok (.lstore q, 2)) (hp : pc + 2 = pc') (L : Array Slot) (hl : storeLocals Ls q (.long x) = some L) (r : Run p l e R s m args below meth c n0 P h k n pc' L st) : Run p l e R s m args below meth c n0 P h k n pc Ls (.long x :: st) := by
  subst hp; exact Run.pure (fun T locs X _ t z => XS.lstore X.here C.1 rfl (hb C.2.2.1 hd) rfl hl z) r
theorem s_astoreN (C : Ctx p l e R s m args below meth c Z own cd maxL ret nm) {q : Fin 4} {x : Value} (hd : decode cd pc = .ok (.astore_n q, 1)) (hp : pc + 1 = pc') (hv : x.isRef = true) (L : Array Slot) (hl : storeLocals Ls q.val x = some L) (r : Run p l e R s m args below meth c n0 P h k n pc' L st) : Run p l e R s m args below meth c n0 P h k n pc Ls (x :: st) := by
  subst hp; exact Run.pure (fun T locs X _ t z => XS.astoreN X.here C.1 rfl (hb C.2.2.1 hd) rfl hv hl z) r
theorem s_astore (C : Ctx p l e R s m args below meth c Z own cd maxL ret nm) {q : Nat} {x : Value} (hd : decode cd pc = .ok (.astore q, 2)) (hp : pc + 2 = pc') (hv : x.isRef = true) (L : Array Slot) (hl : storeLocals Ls q x = some L) (r : Run p l e R s m args below meth c n0 P h k n pc' L st) : Run p l e R s m args below meth c n0 P h k n pc Ls (x :: st) := by
  subst hp; exact Run.pure (fun T locs X _ t z => XS.astore X.here C.1 rfl (hb C.2.2.1 hd) rfl hv hl z) r
theorem s_iconst (C : Ctx p l e R s m args below meth c Z own cd maxL ret nm) {i : Int} (hd : decode cd pc = .ok (.iconst i, 1)) (hp : pc + 1 = pc') (v : Int32) (hv : Int32.ofInt i = v) (r : Run p l e R s m args below meth c n0 P h k n pc' Ls (.int v :: st)) : Run p l e R s m args below meth c n0 P h k n pc Ls st := by
  subst hp hv; exact Run.pure (fun T locs X _ t z => XS.iconst X.here C.1 rfl (hb C.2.2.1 hd) z) r
theorem s_bipush (C : Ctx p l e R s m args below meth c Z own cd maxL ret nm) {i : Int} (hd : decode cd pc = .ok (.bipush i, 2)) (hp : pc + 2 = pc') (v : Int32) (hv : (Int8.ofInt i).toInt32 = v) (r : Run p l e R s m args below meth c n0 P h k n pc' Ls (.int v :: st)) : Run p l e R s m args below meth c n0 P h k n pc Ls st := by
  subst hp hv; exact Run.pure (fun T locs X _ t z => XS.bipush X.here C.1 rfl (hb C.2.2.1 hd) z) r
theorem s_sipush (C : Ctx p l e R s m args below meth c Z own cd maxL ret nm) {i : Int} (hd : decode cd pc = .ok (.sipush i, 3)) (hp : pc + 3 = pc') (v : Int32) (hv : (Int16.ofInt i).toInt32 = v) (r : Run p l e R s m args below meth c n0 P h k n pc' Ls (.int v :: st)) : Run p l e R s m args below meth c n0 P h k n pc Ls st := by
  subst hp hv; exact Run.pure (fun T locs X _ t z => XS.sipush X.here C.1 rfl (hb C.2.2.1 hd) z) r
theorem s_lconst (C : Ctx p l e R s m args below meth c Z own cd maxL ret nm) {i : Fin 2} (hd : decode cd pc = .ok (.lconst i, 1)) (hp : pc + 1 = pc') (v : Int64) (hv : Int64.ofNat i.val = v) (r : Run p l e R s m args below meth c n0 P h k n pc' Ls (.long v :: st)) : Run p l e R s m args below meth c n0 P h k n pc Ls st := by
  subst hp hv; exact Run.pure (fun T locs X _ t z => XS.lconst X.here C.1 rfl (hb C.2.2.1 hd) z) r
theorem s_null (C : Ctx p l e R s m args below meth c Z own cd maxL ret nm) (hd : decode cd pc = .ok (.aconst_null, 1)) (hp : pc + 1 = pc') (r : Run p l e R s m args below meth c n0 P h k n pc' Ls (.null :: st)) : Run p l e R s m args below meth c n0 P h k n pc Ls st := by
  subst hp; exact Run.pure (fun T locs X _ t z => XS.aconstNull X.here C.1 rfl (hb C.2.2.1 hd) z) r
theorem s_ldc (C : Ctx p l e R s m args below meth c Z own cd maxL ret nm) {i : Nat} {v : Int32} (hd : decode cd pc = .ok (.ldc i, 2)) (hp : pc + 2 = pc') (w : (Jvm.Cond.constant own i v).before a0 Z = true) (r : Run p l e R s m args below meth c n0 P h k n pc' Ls (.int v :: st)) : Run p l e R s m args below meth c n0 P h k n pc Ls st := by
  subst hp; exact Run.pure (fun T locs X _ t z => X.ldcInt C.1 C.2.2.2.2.1 (mvT C.2.1 w) (g := mkF m pc Ls st) rfl (hb C.2.2.1 hd) _ z) r
theorem s_ldc2 (C : Ctx p l e R s m args below meth c Z own cd maxL ret nm) {i : Nat} {v : Int64} (hd : decode cd pc = .ok (.ldc2_w i, 3)) (hp : pc + 3 = pc') (w : (Jvm.Cond.constantLong own i v).before a0 Z = true) (r : Run p l e R s m args below meth c n0 P h k n pc' Ls (.long v :: st)) : Run p l e R s m args below meth c n0 P h k n pc Ls st := by
  subst hp; exact Run.pure (fun T locs X _ t z => X.ldc2Long C.1 C.2.2.2.2.1 (mvT C.2.1 w) (g := mkF m pc Ls st) rfl (hb C.2.2.1 hd) _ z) r
theorem s_iinc (C : Ctx p l e R s m args below meth c Z own cd maxL ret nm) {q : Nat} {cst : Int} {x : Int32} (hd : decode cd pc = .ok (.iinc q cst, 3)) (hp : pc + 3 = pc') (hl : Ls[q]? = some (.val (.int x))) (z : Int32) (hz : Int32.ofInt cst = z) (L : Int32 → Array Slot) (hl' : ∀ y, storeLocals Ls q (.int y) = some (L y)) (r : ∀ y, y = x + z → Run p l e R s m args below meth c n0 P h k n pc' (L y) st) : Run p l e R s m args below meth c n0 P h k n pc Ls st := by
  subst hp hz; exact Run.pure (fun T locs X _ t z => XS.iinc X.here C.1 rfl (hb C.2.2.1 hd) hl (hl' _) z) (r _ rfl)
theorem s_iincP (C : Ctx p l e R s m args below meth c Z own cd maxL ret nm) {q : Nat} {cst : Int} {x : Int32} (hd : decode cd pc = .ok (.iinc q cst, 3)) (hp : pc + 3 = pc') (hl : Ls[q]? = some (.val (.int x))) (z : Int32) (hz : x + Int32.ofInt cst = z) (L : Array Slot) (hl' : storeLocals Ls q (.int z) = some L) (r : Run p l e R s m args below meth c n0 P h k n pc' L st) : Run p l e R s m args below meth c n0 P h k n pc Ls st := by
  subst hp hz; exact Run.pure (fun T locs X _ t z => XS.iinc X.here C.1 rfl (hb C.2.2.1 hd) hl hl' z) r
/-! plain steps -/
theorem s_iadd (C : Ctx p l e R s m args below meth c Z own cd maxL ret nm) {x y : Int32} (hd : decode cd pc = .ok (.iadd, 1)) (hp : pc + 1 = pc') (r : Run p l e R s m args below meth c n0 P h k n pc' Ls (.int (x + y) :: st)) : Run p l e R s m args below meth c n0 P h k n pc Ls (.int y :: .int x :: st) := by
  subst hp; exact Run.pure (fun T locs X _ t z => XS.iadd X.here C.1 rfl (hb C.2.2.1 hd) rfl z) r
theorem s_isub (C : Ctx p l e R s m args below meth c Z own cd maxL ret nm) {x y : Int32} (hd : decode cd pc = .ok (.isub, 1)) (hp : pc + 1 = pc') (r : Run p l e R s m args below meth c n0 P h k n pc' Ls (.int (x - y) :: st)) : Run p l e R s m args below meth c n0 P h k n pc Ls (.int y :: .int x :: st) := by
  subst hp; exact Run.pure (fun T locs X _ t z => XS.isub X.here C.1 rfl (hb C.2.2.1 hd) rfl z) r
theorem s_imul (C : Ctx p l e R s m args below meth c Z own cd maxL ret nm) {x y : Int32} (hd : decode cd pc = .ok (.imul, 1)) (hp : pc + 1 = pc') (r : Run p l e R s m args below meth c n0 P h k n pc' Ls (.int (x * y) :: st)) : Run p l e R s m args below meth c n0 P h k n pc Ls (.int y :: .int x :: st) := by
  subst hp; exact Run.pure (fun T locs X _ t z => XS.imul X.here C.1 rfl (hb C.2.2.1 hd) rfl z) r
theorem s_iand (C : Ctx p l e R s m args below meth c Z own cd maxL ret nm) {x y : Int32} (hd : decode cd pc = .ok (.iand, 1)) (hp : pc + 1 = pc') (r : Run p l e R s m args below meth c n0 P h k n pc' Ls (.int (x &&& y) :: st)) : Run p l e R s m args below meth c n0 P h k n pc Ls (.int y :: .int x :: st) := by
  subst hp; exact Run.pure (fun T locs X _ t z => XS.iand X.here C.1 rfl (hb C.2.2.1 hd) rfl z) r
theorem s_ior (C : Ctx p l e R s m args below meth c Z own cd maxL ret nm) {x y : Int32} (hd : decode cd pc = .ok (.ior, 1)) (hp : pc + 1 = pc') (r : Run p l e R s m args below meth c n0 P h k n pc' Ls (.int (x ||| y) :: st)) : Run p l e R s m args below meth c n0 P h k n pc Ls (.int y :: .int x :: st) := by
  subst hp; exact Run.pure (fun T locs X _ t z => XS.ior X.here C.1 rfl (hb C.2.2.1 hd) rfl z) r
theorem s_ixor (C : Ctx p l e R s m args below meth c Z own cd maxL ret nm) {x y : Int32} (hd : decode cd pc = .ok (.ixor, 1)) (hp : pc + 1 = pc') (r : Run p l e R s m args below meth c n0 P h k n pc' Ls (.int (x ^^^ y) :: st)) : Run p l e R s m args below meth c n0 P h k n pc Ls (.int y :: .int x :: st) := by
  subst hp; exact Run.pure (fun T locs X _ t z => XS.ixor X.here C.1 rfl (hb C.2.2.1 hd) rfl z) r
theorem s_ishl (C : Ctx p l e R s m args below meth c Z own cd maxL ret nm) {x y : Int32} (hd : decode cd pc = .ok (.ishl, 1)) (hp : pc + 1 = pc') (r : Run p l e R s m args below meth c n0 P h k n pc' Ls (.int (x <<< (y &&& 31)) :: st)) : Run p l e R s m args below meth c n0 P h k n pc Ls (.int y :: .int x :: st) := by
  subst hp; exact Run.pure (fun T locs X _ t z => XS.ishl X.here C.1 rfl (hb C.2.2.1 hd) rfl z) r
theorem s_ishr (C : Ctx p l e R s m args below meth c Z own cd maxL ret nm) {x y : Int32} (hd : decode cd pc = .ok (.ishr, 1)) (hp : pc + 1 = pc') (r : Run p l e R s m args below meth c n0 P h k n pc' Ls (.int (x >>> (y &&& 31)) :: st)) : Run p l e R s m args below meth c n0 P h k n pc Ls (.int y :: .int x :: st) := by
  subst hp; exact Run.pure (fun T locs X _ t z => XS.ishr X.here C.1 rfl (hb C.2.2.1 hd) rfl z) r
theorem s_iushr (C : Ctx p l e R s m args below meth c Z own cd maxL ret nm) {x y : Int32} (hd : decode cd pc = .ok (.iushr, 1)) (hp : pc + 1 = pc') (r : Run p l e R s m args below meth c n0 P h k n pc' Ls (.int ((x.toUInt32 >>> (y &&& 31).toUInt32).toInt32) :: st)) : Run p l e R s m args below meth c n0 P h k n pc Ls (.int y :: .int x :: st) := by
  subst hp; exact Run.pure (fun T locs X _ t z => XS.iushr X.here C.1 rfl (hb C.2.2.1 hd) rfl z) r
theorem s_ladd (C : Ctx p l e R s m args below meth c Z own cd maxL ret nm) {x y : Int64} (hd : decode cd pc = .ok (.ladd, 1)) (hp : pc + 1 = pc') (r : Run p l e R s m args below meth c n0 P h k n pc' Ls (.long (x + y) :: st)) : Run p l e R s m args below meth c n0 P h k n pc Ls (.long y :: .long x :: st) := by
  subst hp; exact Run.pure (fun T locs X _ t z => XS.ladd X.here C.1 rfl (hb C.2.2.1 hd) rfl z) r
theorem s_lsub (C : Ctx p l e R s m args below meth c Z own cd maxL ret nm) {x y : Int64} (hd : decode cd pc = .ok (.lsub, 1)) (hp : pc + 1 = pc') (r : Run p l e R s m args below meth c n0 P h k n pc' Ls (.long (x - y) :: st)) : Run p l e R s m args below meth c n0 P h k n pc Ls (.long y :: .long x :: st) := by
  subst hp; exact Run.pure (fun T locs X _ t z => XS.lsub X.here C.1 rfl (hb C.2.2.1 hd) rfl z) r
theorem s_lmul (C : Ctx p l e R s m args below meth c Z own cd maxL ret nm) {x y : Int64} (hd : decode cd pc = .ok (.lmul, 1)) (hp : pc + 1 = pc') (r : Run p l e R s m args below meth c n0 P h k n pc' Ls (.long (x * y) :: st)) : Run p l e R s m args below meth c n0 P h k n pc Ls (.long y :: .long x :: st) := by
  subst hp; exact Run.pure (fun T locs X _ t z => XS.lmul X.here C.1 rfl (hb C.2.2.1 hd) rfl z) r
theorem s_land (C : Ctx p l e R s m args below meth c Z own cd maxL ret nm) {x y : Int64} (hd : decode cd pc = .ok (.land, 1)) (hp : pc + 1 = pc') (r : Run p l e R s m args below meth c n0 P h k n pc' Ls (.long (x &&& y) :: st)) : Run p l e R s m args below meth c n0 P h k n pc Ls (.long y :: .long x :: st) := by
  subst hp; exact Run.pure (fun T locs X _ t z => XS.land X.here C.1 rfl (hb C.2.2.1 hd) rfl z) r
theorem s_lor (C : Ctx p l e R s m args below meth c Z own cd maxL ret nm) {x y : Int64} (hd : decode cd pc = .ok (.lor, 1)) (hp : pc + 1 = pc') (r : Run p l e R s m args below meth c n0 P h k n pc' Ls (.long (x ||| y) :: st)) : Run p l e R s m args below meth c n0 P h k n pc Ls (.long y :: .long x :: st) := by
  subst hp; exact Run.pure (fun T locs X _ t z => XS.lor X.here C.1 rfl (hb C.2.2.1 hd) rfl z) r
theorem s_lxor (C : Ctx p l e R s m args below meth c Z own cd maxL ret nm) {x y : Int64} (hd : decode cd pc = .ok (.lxor, 1)) (hp : pc + 1 = pc') (r : Run p l e R s m args below meth c n0 P h k n pc' Ls (.long (x ^^^ y) :: st)) : Run p l e R s m args below meth c n0 P h k n pc Ls (.long y :: .long x :: st) := by
  subst hp; exact Run.pure (fun T locs X _ t z => XS.lxor X.here C.1 rfl (hb C.2.2.1 hd) rfl z) r
theorem s_lshl (C : Ctx p l e R s m args below meth c Z own cd maxL ret nm) {x : Int64} {y : Int32} (hd : decode cd pc = .ok (.lshl, 1)) (hp : pc + 1 = pc') (r : Run p l e R s m args below meth c n0 P h k n pc' Ls (.long (x <<< (y &&& 0x3f).toInt64) :: st)) : Run p l e R s m args below meth c n0 P h k n pc Ls (.int y :: .long x :: st) := by
  subst hp; exact Run.pure (fun T locs X _ t z => XS.lshl X.here C.1 rfl (hb C.2.2.1 hd) rfl z) r
theorem s_lshr (C : Ctx p l e R s m args below meth c Z own cd maxL ret nm) {x : Int64} {y : Int32} (hd : decode cd pc = .ok (.lshr, 1)) (hp : pc + 1 = pc') (r : Run p l e R s m args below meth c n0 P h k n pc' Ls (.long (x >>> (y &&& 0x3f).toInt64) :: st)) : Run p l e R s m args below meth c n0 P h k n pc Ls (.int y :: .long x :: st) := by
  subst hp; exact Run.pure (fun T locs X _ t z => XS.lshr X.here C.1 rfl (hb C.2.2.1 hd) rfl z) r
theorem s_lushr (C : Ctx p l e R s m args below meth c Z own cd maxL ret nm) {x : Int64} {y : Int32} (hd : decode cd pc = .ok (.lushr, 1)) (hp : pc + 1 = pc') (r : Run p l e R s m args below meth c n0 P h k n pc' Ls (.long ((x.toUInt64 >>> (y &&& 0x3f).toInt64.toUInt64).toInt64) :: st)) : Run p l e R s m args below meth c n0 P h k n pc Ls (.int y :: .long x :: st) := by
  subst hp; exact Run.pure (fun T locs X _ t z => XS.lushr X.here C.1 rfl (hb C.2.2.1 hd) rfl z) r
theorem s_idiv (C : Ctx p l e R s m args below meth c Z own cd maxL ret nm) {x y : Int32} (hd : decode cd pc = .ok (.idiv, 1)) (hp : pc + 1 = pc') (hy : y ≠ 0) (r : Run p l e R s m args below meth c n0 P h k n pc' Ls (.int (x / y) :: st)) : Run p l e R s m args below meth c n0 P h k n pc Ls (.int y :: .int x :: st) := by
  subst hp; exact Run.pure (fun T locs X _ t z => XS.idiv X.here C.1 rfl (hb C.2.2.1 hd) rfl hy z) r
theorem s_irem (C : Ctx p l e R s m args below meth c Z own cd maxL ret nm) {x y : Int32} (hd : decode cd pc = .ok (.irem, 1)) (hp : pc + 1 = pc') (hy : y ≠ 0) (r : Run p l e R s m args below meth c n0 P h k n pc' Ls (.int (x % y) :: st)) : Run p l e R s m args below meth c n0 P h k n pc Ls (.int y :: .int x :: st) := by
  subst hp; exact Run.pure (fun T locs X _ t z => iremM X C.1 (g := mkF m pc Ls (.int y :: .int x :: st)) rfl (hb C.2.2.1 hd) rfl hy z) r
theorem s_ldiv (C : Ctx p l e R s m args below meth c Z own cd maxL ret nm) {x y : Int64} (hd : decode cd pc = .ok (.ldiv, 1)) (hp : pc + 1 = pc') (hy : y ≠ 0) (r : Run p l e R s m args below meth c n0 P h k n pc' Ls (.long (x / y) :: st)) : Run p l e R s m args below meth c n0 P h k n pc Ls (.long y :: .long x :: st) := by
  subst hp; exact Run.pure (fun T locs X _ t z => XS.ldiv X.here C.1 rfl (hb C.2.2.1 hd) rfl hy z) r
theorem s_lrem (C : Ctx p l e R s m args below meth c Z own cd maxL ret nm) {x y : Int64} (hd : decode cd pc = .ok (.lrem, 1)) (hp : pc + 1 = pc') (hy : y ≠ 0) (r : Run p l e R s m args below meth c n0 P h k n pc' Ls (.long (x % y) :: st)) : Run p l e R s m args below meth c n0 P h k n pc Ls (.long y :: .long x :: st) := by
  subst hp; rw [← lrem_mod] at r; exact Run.pure (fun T locs X _ t z => XS.lrem X.here C.1 rfl (hb C.2.2.1 hd) rfl hy z) r
theorem s_ineg (C : Ctx p l e R s m args below meth c Z own cd maxL ret nm) {x : Int32} (hd : decode cd pc = .ok (.ineg, 1)) (hp : pc + 1 = pc') (r : Run p l e R s m args below meth c n0 P h k n pc' Ls (.int (-x) :: st)) : Run p l e R s m args below meth c n0 P h k n pc Ls (.int x :: st) := by
  subst hp; exact Run.pure (fun T locs X _ t z => XS.ineg X.here C.1 rfl (hb C.2.2.1 hd) rfl z) r
theorem s_lneg (C : Ctx p l e R s m args below meth c Z own cd maxL ret nm) {x : Int64} (hd : decode cd pc = .ok (.lneg, 1)) (hp : pc + 1 = pc') (r : Run p l e R s m args below meth c n0 P h k n pc' Ls (.long (-x) :: st)) : Run p l e R s m args below meth c n0 P h k n pc Ls (.long x :: st) := by
  subst hp; exact Run.pure (fun T locs X _ t z => XS.lneg X.here C.1 rfl (hb C.2.2.1 hd) rfl z) r
theorem s_i2l (C : Ctx p l e R s m args below meth c Z own cd maxL ret nm) {x : Int32} (hd : decode cd pc = .ok (.i2l, 1)) (hp : pc + 1 = pc') (r : Run p l e R s m args below meth c n0 P h k n pc' Ls (.long (x.toInt64) :: st)) : Run p l e R s m args below meth c n0 P h k n pc Ls (.int x :: st) := by
  subst hp; exact Run.pure (fun T locs X _ t z => XS.i2l X.here C.1 rfl (hb C.2.2.1 hd) rfl z) r
theorem s_l2i (C : Ctx p l e R s m args below meth c Z own cd maxL ret nm) {x : Int64} (hd : decode cd pc = .ok (.l2i, 1)) (hp : pc + 1 = pc') (r : Run p l e R s m args below meth c n0 P h k n pc' Ls (.int (x.toInt32) :: st)) : Run p l e R s m args below meth c n0 P h k n pc Ls (.long x :: st) := by
  subst hp; exact Run.pure (fun T locs X _ t z => XS.l2i X.here C.1 rfl (hb C.2.2.1 hd) rfl z) r
theorem s_i2b (C : Ctx p l e R s m args below meth c Z own cd maxL ret nm) {x : Int32} (hd : decode cd pc = .ok (.i2b, 1)) (hp : pc + 1 = pc') (r : Run p l e R s m args below meth c n0 P h k n pc' Ls (.int (x.toInt8.toInt32) :: st)) : Run p l e R s m args below meth c n0 P h k n pc Ls (.int x :: st) := by
  subst hp; exact Run.pure (fun T locs X _ t z => XS.i2b X.here C.1 rfl (hb C.2.2.1 hd) rfl z) r
theorem s_i2s (C : Ctx p l e R s m args below meth c Z own cd maxL ret nm) {x : Int32} (hd : decode cd pc = .ok (.i2s, 1)) (hp : pc + 1 = pc') (r : Run p l e R s m args below meth c n0 P h k n pc' Ls (.int (x.toInt16.toInt32) :: st)) : Run p l e R s m args below meth c n0 P h k n pc Ls (.int x :: st) := by
  subst hp; exact Run.pure (fun T locs X _ t z => XS.i2s X.here C.1 rfl (hb C.2.2.1 hd) rfl z) r
theorem s_i2c (C : Ctx p l e R s m args below meth c Z own cd maxL ret nm) {x : Int32} (hd : decode cd pc = .ok (.i2c, 1)) (hp : pc + 1 = pc') (r : Run p l e R s m args below meth c n0 P h k n pc' Ls (.int (x.toUInt32.toUInt16.toUInt32.toInt32) :: st)) : Run p l e R s m args below meth c n0 P h k n pc Ls (.int x :: st) := by
  subst hp; exact Run.pure (fun T locs X _ t z => XS.i2c X.here C.1 rfl (hb C.2.2.1 hd) rfl z) r
theorem s_lcmp (C : Ctx p l e R s m args below meth c Z own cd maxL ret nm) {x y : Int64} (hd : decode cd pc = .ok (.lcmp, 1)) (hp : pc + 1 = pc') (r : Run p l e R s m args below meth c n0 P h k n pc' Ls (.int (lcmpW x y) :: st)) : Run p l e R s m args below meth c n0 P h k n pc Ls (.long y :: .long x :: st) := by
  subst hp; exact Run.pure (fun T locs X _ t z => XS.lcmp X.here C.1 rfl (hb C.2.2.1 hd) rfl z) r
theorem s_goto (C : Ctx p l e R s m args below meth c Z own cd maxL ret nm) {o : Int} (hd : decode cd pc = .ok (.goto o, 3)) (hp : (pc : Int) + o = (pc' : Int)) (r : Run p l e R s m args below meth c n0 P h k n pc' Ls st) : Run p l e R s m args below meth c n0 P h k n pc Ls st :=
  Run.pure (fun T locs X _ t z => XS.goto X.here C.1 rfl (pc0 := pc) rfl (hb C.2.2.1 hd) (by omega) (by omega) z) r
theorem s_dup (C : Ctx p l e R s m args below meth c Z own cd maxL ret nm) {v : Value} (hd : decode cd pc = .ok (.dup, 1)) (hp : pc + 1 = pc') (hc : v.category = 1) (r : Run p l e R s m args below meth c n0 P h k n pc' Ls (v :: v :: st)) : Run p l e R s m args below meth c n0 P h k n pc Ls (v :: st) := by
  subst hp; exact Run.pure (fun T locs X _ t z => XS.dup X.here C.1 rfl (hb C.2.2.1 hd) rfl hc z) r
theorem s_pop (C : Ctx p l e R s m args below meth c Z own cd maxL ret nm) {v : Value} (hd : decode cd pc = .ok (.pop, 1)) (hp : pc + 1 = pc') (hc : v.category = 1) (r : Run p l e R s m args below meth c n0 P h k n pc' Ls st) : Run p l e R s m args below meth c n0 P h k n pc Ls (v :: st) := by
  subst hp; exact Run.pure (fun T locs X _ t z => XS.pop X.here C.1 rfl (hb C.2.2.1 hd) rfl hc z) r
theorem s_dup2 (C : Ctx p l e R s m args below meth c Z own cd maxL ret nm) {v w : Value} (hd : decode cd pc = .ok (.dup2, 1)) (hp : pc + 1 = pc') (hc : v.category = 1) (hc' : w.category = 1) (r : Run p l e R s m args below meth c n0 P h k n pc' Ls (v :: w :: v :: w :: st)) : Run p l e R s m args below meth c n0 P h k n pc Ls (v :: w :: st) := by
  subst hp; exact Run.pure (fun T locs X _ t z => XT.dup2 X.here C.1 rfl (hb C.2.2.1 hd) rfl hc hc' z) r
theorem s_dupX1 (C : Ctx p l e R s m args below meth c Z own cd maxL ret nm) {v w : Value} (hd : decode cd pc = .ok (.dup_x1, 1)) (hp : pc + 1 = pc') (hc : v.category = 1) (hc' : w.category = 1) (r : Run p l e R s m args below meth c n0 P h k n pc' Ls (v :: w :: v :: st)) : Run p l e R s m args below meth c n0 P h k n pc Ls (v :: w :: st) := by
  subst hp; exact Run.pure (fun T locs X _ t z => XS.dupX1 X.here C.1 rfl (hb C.2.2.1 hd) rfl hc hc' z) r
/-! branches -/
theorem s_if (C : Ctx p l e R s m args below meth c Z own cd maxL ret nm) {cc : ClassFile.Cond} {o : Int} {x : Int32} {pcY : Nat} (hd : decode cd pc = .ok (.ifCond cc o, 3)) (hp : pc + 3 = pc') (ho : (pc : Int) + o = (pcY : Int)) (rY : if_icmp.holds cc x 0 = true → Run p l e R s m args below meth c n0 P h k n pcY Ls st) (rN : if_icmp.holds cc x 0 = false → Run p l e R s m args below meth c n0 P h k n pc' Ls st) : Run p l e R s m args below meth c n0 P h k n pc Ls (.int x :: st) := by
  subst hp
  cases hq : if_icmp.holds cc x 0
  · exact Run.pure (fun T locs X _ t z => XS.ifNo X.here C.1 rfl (hb C.2.2.1 hd) rfl ((if0 _ _).trans hq) z) (rN hq)
  · exact Run.pure (fun T locs X _ t z => XS.ifYes X.here C.1 rfl (pc0 := pc) rfl (hb C.2.2.1 hd) rfl ((if0 _ _).trans hq) (by omega) (by omega) z) (rY hq)
theorem s_icmp (C : Ctx p l e R s m args below meth c Z own cd maxL ret nm) {cc : ClassFile.Cond} {o : Int} {x y : Int32} {pcY : Nat} (hd : decode cd pc = .ok (.if_icmp cc o, 3)) (hp : pc + 3 = pc') (ho : (pc : Int) + o = (pcY : Int)) (rY : if_icmp.holds cc x y = true → Run p l e R s m args below meth c n0 P h k n pcY Ls st) (rN : if_icmp.holds cc x y = false → Run p l e R s m args below meth c n0 P h k n pc' Ls st) : Run p l e R s m args below meth c n0 P h k n pc Ls (.int y :: .int x :: st) := by
  subst hp
  cases hq : if_icmp.holds cc x y
  · exact Run.pure (fun T locs X _ t z => XS.icmpNo X.here C.1 rfl (hb C.2.2.1 hd) rfl hq z) (rN hq)
  · exact Run.pure (fun T locs X _ t z => XS.icmpYes X.here C.1 rfl (pc0 := pc) rfl (hb C.2.2.1 hd) rfl hq (by omega) (by omega) z) (rY hq)
theorem holds_lt {x y : Int32} : (if_icmp.holds .lt x y = true → x < y) ∧ (if_icmp.holds .lt x y = false → ¬ x < y) := ⟨fun h => by simpa [if_icmp.holds] using h, fun h q => by simp [if_icmp.holds, q] at h⟩
theorem holds_ge {x y : Int32} : (if_icmp.holds .ge x y = true → ¬ x < y) ∧ (if_icmp.holds .ge x y = false → x < y) := ⟨fun h q => (by rw [(tlt q).2.1] at h; cases h), fun h => Decidable.byContradiction fun q => (by rw [(flt q).2.1] at h; cases h)⟩
theorem holds_gt {x y : Int32} : (if_icmp.holds .gt x y = true → y < x) ∧ (if_icmp.holds .gt x y = false → ¬ y < x) := ⟨fun h => Decidable.byContradiction fun q => (by rw [(flt q).2.2.1] at h; cases h), fun h q => (by rw [(tlt q).2.2.1] at h; cases h)⟩
theorem holds_le {x y : Int32} : (if_icmp.holds .le x y = true → ¬ y < x) ∧ (if_icmp.holds .le x y = false → y < x) := ⟨fun h q => (by rw [(tlt q).2.2.2] at h; cases h), fun h => Decidable.byContradiction fun q => (by rw [(flt q).2.2.2] at h; cases h)⟩
theorem holds_eq {x y : Int32} : (if_icmp.holds .eq x y = true → x = y) ∧ (if_icmp.holds .eq x y = false → ¬ x = y) := ⟨fun h => Decidable.byContradiction fun q => (by rw [(feq q).1] at h; cases h), fun h q => (by rw [(teq q).1] at h; cases h)⟩
theorem holds_ne {x y : Int32} : (if_icmp.holds .ne x y = true → ¬ x = y) ∧ (if_icmp.holds .ne x y = false → x = y) := ⟨fun h q => (by rw [(teq q).2] at h; cases h), fun h => Decidable.byContradiction fun q => (by rw [(feq q).2] at h; cases h)⟩
theorem s_if_lt (C : Ctx p l e R s m args below meth c Z own cd maxL ret nm) {o : Int} {x : Int32} {pcY : Nat} (hd : decode cd pc = .ok (.ifCond .lt o, 3)) (hp : pc + 3 = pc') (ho : (pc : Int) + o = (pcY : Int)) (rY : x < (0 : Int32) → Run p l e R s m args below meth c n0 P h k n pcY Ls st) (rN : ¬ x < (0 : Int32) → Run p l e R s m args below meth c n0 P h k n pc' Ls st) : Run p l e R s m args below meth c n0 P h k n pc Ls (.int x :: st) :=
  s_if C hd hp ho (fun h => rY (holds_lt.1 h)) (fun h => rN (holds_lt.2 h))
theorem s_icmp_lt (C : Ctx p l e R s m args below meth c Z own cd maxL ret nm) {o : Int} {x y : Int32} {pcY : Nat} (hd : decode cd pc = .ok (.if_icmp .lt o, 3)) (hp : pc + 3 = pc') (ho : (pc : Int) + o = (pcY : Int)) (rY : x < y → Run p l e R s m args below meth c n0 P h k n pcY Ls st) (rN : ¬ x < y → Run p l e R s m args below meth c n0 P h k n pc' Ls st) : Run p l e R s m args below meth c n0 P h k n pc Ls (.int y :: .int x :: st) :=
  s_icmp C hd hp ho (fun h => rY (holds_lt.1 h)) (fun h => rN (holds_lt.2 h))
theorem s_lc_lt (C : Ctx p l e R s m args below meth c Z own cd maxL ret nm) {o : Int} {x y : Int64} {pc1 pcY : Nat} (hd : decode cd pc = .ok (.lcmp, 1)) (hp1 : pc + 1 = pc1) (hd2 : decode cd pc1 = .ok (.ifCond .lt o, 3)) (hp : pc1 + 3 = pc') (ho : (pc1 : Int) + o = (pcY : Int)) (rY : x < y → Run p l e R s m args below meth c n0 P h k n pcY Ls st) (rN : ¬ x < y → Run p l e R s m args below meth c n0 P h k n pc' Ls st) : Run p l e R s m args below meth c n0 P h k n pc Ls (.long y :: .long x :: st) :=
  s_lcmp C hd hp1 (s_if_lt C hd2 hp ho (fun h => rY ((lw_lt x y).mp h)) (fun h => rN (fun q => h ((lw_lt x y).mpr q))))
theorem s_if_ge (C : Ctx p l e R s m args below meth c Z own cd maxL ret nm) {o : Int} {x : Int32} {pcY : Nat} (hd : decode cd pc = .ok (.ifCond .ge o, 3)) (hp : pc + 3 = pc') (ho : (pc : Int) + o = (pcY : Int)) (rY : ¬ x < (0 : Int32) → Run p l e R s m args below meth c n0 P h k n pcY Ls st) (rN : x < (0 : Int32) → Run p l e R s m args below meth c n0 P h k n pc' Ls st) : Run p l e R s m args below meth c n0 P h k n pc Ls (.int x :: st) :=
  s_if C hd hp ho (fun h => rY (holds_ge.1 h)) (fun h => rN (holds_ge.2 h))
theorem s_icmp_ge (C : Ctx p l e R s m args below meth c Z own cd maxL ret nm) {o : Int} {x y : Int32} {pcY : Nat} (hd : decode cd pc = .ok (.if_icmp .ge o, 3)) (hp : pc + 3 = pc') (ho : (pc : Int) + o = (pcY : Int)) (rY : ¬ x < y → Run p l e R s m args below meth c n0 P h k n pcY Ls st) (rN : x < y → Run p l e R s m args below meth c n0 P h k n pc' Ls st) : Run p l e R s m args below meth c n0 P h k n pc Ls (.int y :: .int x :: st) :=
  s_icmp C hd hp ho (fun h => rY (holds_ge.1 h)) (fun h => rN (holds_ge.2 h))
theorem s_lc_ge (C : Ctx p l e R s m args below meth c Z own cd maxL ret nm) {o : Int} {x y : Int64} {pc1 pcY : Nat} (hd : decode cd pc = .ok (.lcmp, 1)) (hp1 : pc + 1 = pc1) (hd2 : decode cd pc1 = .ok (.ifCond .ge o, 3)) (hp : pc1 + 3 = pc') (ho : (pc1 : Int) + o = (pcY : Int)) (rY : ¬ x < y → Run p l e R s m args below meth c n0 P h k n pcY Ls st) (rN : x < y → Run p l e R s m args below meth c n0 P h k n pc' Ls st) : Run p l e R s m args below meth c n0 P h k n pc Ls (.long y :: .long x :: st) :=
  s_lcmp C hd hp1 (s_if_ge C hd2 hp ho (fun h => rY (fun q => h ((lw_lt x y).mpr q))) (fun h => rN ((lw_lt x y).mp h)))
theorem s_if_gt (C : Ctx p l e R s m args below meth c Z own cd maxL ret nm) {o : Int} {x : Int32} {pcY : Nat} (hd : decode cd pc = .ok (.ifCond .gt o, 3)) (hp : pc + 3 = pc') (ho : (pc : Int) + o = (pcY : Int)) (rY : (0 : Int32) < x → Run p l e R s m args below meth c n0 P h k n pcY Ls st) (rN : ¬ (0 : Int32) < x → Run p l e R s m args below meth c n0 P h k n pc' Ls st) : Run p l e R s m args below meth c n0 P h k n pc Ls (.int x :: st) :=
  s_if C hd hp ho (fun h => rY (holds_gt.1 h)) (fun h => rN (holds_gt.2 h))
theorem s_icmp_gt (C : Ctx p l e R s m args below meth c Z own cd maxL ret nm) {o : Int} {x y : Int32} {pcY : Nat} (hd : decode cd pc = .ok (.if_icmp .gt o, 3)) (hp : pc + 3 = pc') (ho : (pc : Int) + o = (pcY : Int)) (rY : y < x → Run p l e R s m args below meth c n0 P h k n pcY Ls st) (rN : ¬ y < x → Run p l e R s m args below meth c n0 P h k n pc' Ls st) : Run p l e R s m args below meth c n0 P h k n pc Ls (.int y :: .int x :: st) :=
  s_icmp C hd hp ho (fun h => rY (holds_gt.1 h)) (fun h => rN (holds_gt.2 h))
theorem s_lc_gt (C : Ctx p l e R s m args below meth c Z own cd maxL ret nm) {o : Int} {x y : Int64} {pc1 pcY : Nat} (hd : decode cd pc = .ok (.lcmp, 1)) (hp1 : pc + 1 = pc1) (hd2 : decode cd pc1 = .ok (.ifCond .gt o, 3)) (hp : pc1 + 3 = pc') (ho : (pc1 : Int) + o = (pcY : Int)) (rY : y < x → Run p l e R s m args below meth c n0 P h k n pcY Ls st) (rN : ¬ y < x → Run p l e R s m args below meth c n0 P h k n pc' Ls st) : Run p l e R s m args below meth c n0 P h k n pc Ls (.long y :: .long x :: st) :=
  s_lcmp C hd hp1 (s_if_gt C hd2 hp ho (fun h => rY ((lw_gt x y).mp h)) (fun h => rN (fun q => h ((lw_gt x y).mpr q))))
theorem s_if_le (C : Ctx p l e R s m args below meth c Z own cd maxL ret nm) {o : Int} {x : Int32} {pcY : Nat} (hd : decode cd pc = .ok (.ifCond .le o, 3)) (hp : pc + 3 = pc') (ho : (pc : Int) + o = (pcY : Int)) (rY : ¬ (0 : Int32) < x → Run p l e R s m args below meth c n0 P h k n pcY Ls st) (rN : (0 : Int32) < x → Run p l e R s m args below meth c n0 P h k n pc' Ls st) : Run p l e R s m args below meth c n0 P h k n pc Ls (.int x :: st) :=
  s_if C hd hp ho (fun h => rY (holds_le.1 h)) (fun h => rN (holds_le.2 h))
theorem s_icmp_le (C : Ctx p l e R s m args below meth c Z own cd maxL ret nm) {o : Int} {x y : Int32} {pcY : Nat} (hd : decode cd pc = .ok (.if_icmp .le o, 3)) (hp : pc + 3 = pc') (ho : (pc : Int) + o = (pcY : Int)) (rY : ¬ y < x → Run p l e R s m args below meth c n0 P h k n pcY Ls st) (rN : y < x → Run p l e R s m args below meth c n0 P h k n pc' Ls st) : Run p l e R s m args below meth c n0 P h k n pc Ls (.int y :: .int x :: st) :=
  s_icmp C hd hp ho (fun h => rY (holds_le.1 h)) (fun h => rN (holds_le.2 h))
theorem s_lc_le (C : Ctx p l e R s m args below meth c Z own cd maxL ret nm) {o : Int} {x y : Int64} {pc1 pcY : Nat} (hd : decode cd pc = .ok (.lcmp, 1)) (hp1 : pc + 1 = pc1) (hd2 : decode cd pc1 = .ok (.ifCond .le o, 3)) (hp : pc1 + 3 = pc') (ho : (pc1 : Int) + o = (pcY : Int)) (rY : ¬ y < x → Run p l e R s m args below meth c n0 P h k n pcY Ls st) (rN : y < x → Run p l e R s m args below meth c n0 P h k n pc' Ls st) : Run p l e R s m args below meth c n0 P h k n pc Ls (.long y :: .long x :: st) :=
  s_lcmp C hd hp1 (s_if_le C hd2 hp ho (fun h => rY (fun q => h ((lw_gt x y).mpr q))) (fun h => rN ((lw_gt x y).mp h)))
theorem s_if_eq (C : Ctx p l e R s m args below meth c Z own cd maxL ret nm) {o : Int} {x : Int32} {pcY : Nat} (hd : decode cd pc = .ok (.ifCond .eq o, 3)) (hp : pc + 3 = pc') (ho : (pc : Int) + o = (pcY : Int)) (rY : x = (0 : Int32) → Run p l e R s m args below meth c n0 P h k n pcY Ls st) (rN : ¬ x = (0 : Int32) → Run p l e R s m args below meth c n0 P h k n pc' Ls st) : Run p l e R s m args below meth c n0 P h k n pc Ls (.int x :: st) :=
  s_if C hd hp ho (fun h => rY (holds_eq.1 h)) (fun h => rN (holds_eq.2 h))
theorem s_icmp_eq (C : Ctx p l e R s m args below meth c Z own cd maxL ret nm) {o : Int} {x y : Int32} {pcY : Nat} (hd : decode cd pc = .ok (.if_icmp .eq o, 3)) (hp : pc + 3 = pc') (ho : (pc : Int) + o = (pcY : Int)) (rY : x = y → Run p l e R s m args below meth c n0 P h k n pcY Ls st) (rN : ¬ x = y → Run p l e R s m args below meth c n0 P h k n pc' Ls st) : Run p l e R s m args below meth c n0 P h k n pc Ls (.int y :: .int x :: st) :=
  s_icmp C hd hp ho (fun h => rY (holds_eq.1 h)) (fun h => rN (holds_eq.2 h))
theorem s_lc_eq (C : Ctx p l e R s m args below meth c Z own cd maxL ret nm) {o : Int} {x y : Int64} {pc1 pcY : Nat} (hd : decode cd pc = .ok (.lcmp, 1)) (hp1 : pc + 1 = pc1) (hd2 : decode cd pc1 = .ok (.ifCond .eq o, 3)) (hp : pc1 + 3 = pc') (ho : (pc1 : Int) + o = (pcY : Int)) (rY : x = y → Run p l e R s m args below meth c n0 P h k n pcY Ls st) (rN : ¬ x = y → Run p l e R s m args below meth c n0 P h k n pc' Ls st) : Run p l e R s m args below meth c n0 P h k n pc Ls (.long y :: .long x :: st) :=
  s_lcmp C hd hp1 (s_if_eq C hd2 hp ho (fun h => rY ((lw_eq x y).mp h)) (fun h => rN (fun q => h ((lw_eq x y).mpr q))))
theorem s_if_ne (C : Ctx p l e R s m args below meth c Z own cd maxL ret nm) {o : Int} {x : Int32} {pcY : Nat} (hd : decode cd pc = .ok (.ifCond .ne o, 3)) (hp : pc + 3 = pc') (ho : (pc : Int) + o = (pcY : Int)) (rY : ¬ x = (0 : Int32) → Run p l e R s m args below meth c n0 P h k n pcY Ls st) (rN : x = (0 : Int32) → Run p l e R s m args below meth c n0 P h k n pc' Ls st) : Run p l e R s m args below meth c n0 P h k n pc Ls (.int x :: st) :=
  s_if C hd hp ho (fun h => rY (holds_ne.1 h)) (fun h => rN (holds_ne.2 h))
theorem s_icmp_ne (C : Ctx p l e R s m args below meth c Z own cd maxL ret nm) {o : Int} {x y : Int32} {pcY : Nat} (hd : decode cd pc = .ok (.if_icmp .ne o, 3)) (hp : pc + 3 = pc') (ho : (pc : Int) + o = (pcY : Int)) (rY : ¬ x = y → Run p l e R s m args below meth c n0 P h k n pcY Ls st) (rN : x = y → Run p l e R s m args below meth c n0 P h k n pc' Ls st) : Run p l e R s m args below meth c n0 P h k n pc Ls (.int y :: .int x :: st) :=
  s_icmp C hd hp ho (fun h => rY (holds_ne.1 h)) (fun h => rN (holds_ne.2 h))
theorem s_lc_ne (C : Ctx p l e R s m args below meth c Z own cd maxL ret nm) {o : Int} {x y : Int64} {pc1 pcY : Nat} (hd : decode cd pc = .ok (.lcmp, 1)) (hp1 : pc + 1 = pc1) (hd2 : decode cd pc1 = .ok (.ifCond .ne o, 3)) (hp : pc1 + 3 = pc') (ho : (pc1 : Int) + o = (pcY : Int)) (rY : ¬ x = y → Run p l e R s m args below meth c n0 P h k n pcY Ls st) (rN : x = y → Run p l e R s m args below meth c n0 P h k n pc' Ls st) : Run p l e R s m args below meth c n0 P h k n pc Ls (.long y :: .long x :: st) :=
  s_lcmp C hd hp1 (s_if_ne C hd2 hp ho (fun h => rY (fun q => h ((lw_eq x y).mpr q))) (fun h => rN ((lw_eq x y).mp h)))
theorem s_ifnullR (C : Ctx p l e R s m args below meth c Z own cd maxL ret nm) {o : Int} {b : Addr} (hd : decode cd pc = .ok (.ifnull o, 3)) (hp : pc + 3 = pc') (r : Run p l e R s m args below meth c n0 P h k n pc' Ls st) : Run p l e R s m args below meth c n0 P h k n pc Ls (.ref b :: st) := by
  subst hp; exact Run.pure (fun T locs X _ t z => XS.ifnullNo X.here C.1 rfl (hb C.2.2.1 hd) rfl z) r
theorem s_ifnullN (C : Ctx p l e R s m args below meth c Z own cd maxL ret nm) {o : Int} (hd : decode cd pc = .ok (.ifnull o, 3)) (hp : (pc : Int) + o = (pc' : Int)) (r : Run p l e R s m args below meth c n0 P h k n pc' Ls st) : Run p l e R s m args below meth c n0 P h k n pc Ls (.null :: st) :=
  Run.pure (fun T locs X _ t z => XS.ifnullYes X.here C.1 rfl (pc0 := pc) rfl (hb C.2.2.1 hd) rfl (by omega) (by omega) z) r
theorem s_ifnonnullR (C : Ctx p l e R s m args below meth c Z own cd maxL ret nm) {o : Int} {b : Addr} (hd : decode cd pc = .ok (.ifnonnull o, 3)) (hp : (pc : Int) + o = (pc' : Int)) (r : Run p l e R s m args below meth c n0 P h k n pc' Ls st) : Run p l e R s m args below meth c n0 P h k n pc Ls (.ref b :: st) :=
  Run.pure (fun T locs X _ t z => XS.ifnonnullYes X.here C.1 rfl (pc0 := pc) rfl (hb C.2.2.1 hd) rfl (by omega) (by omega) z) r
theorem s_ifnonnullN (C : Ctx p l e R s m args below meth c Z own cd maxL ret nm) {o : Int} (hd : decode cd pc = .ok (.ifnonnull o, 3)) (hp : pc + 3 = pc') (r : Run p l e R s m args below meth c n0 P h k n pc' Ls st) : Run p l e R s m args below meth c n0 P h k n pc Ls (.null :: st) := by
  subst hp; exact Run.pure (fun T locs X _ t z => XS.ifnonnullNo X.here C.1 rfl (hb C.2.2.1 hd) rfl z) r
theorem s_acmp (C : Ctx p l e R s m args below meth c Z own cd maxL ret nm) {cc : ClassFile.ACond} {o : Int} {x y : Value} {same : Bool} (hd : decode cd pc = .ok (.if_acmp cc o, 3)) (h1 : x.isRef = true) (h2 : y.isRef = true) (hq : decide (x = y) = same) (ho : 0 ≤ (pc : Int) + o) (hp : pc' = if acV cc same = true then ((pc : Int) + o).toNat else pc + 3) (r : Run p l e R s m args below meth c n0 P h k n pc' Ls st) : Run p l e R s m args below meth c n0 P h k n pc Ls (y :: x :: st) :=
  Run.pure (fun T locs X _ t z => Jvm.RoadKit.acmp (g := mkF m pc Ls (y :: x :: st)) X C.1 rfl h1 h2 rfl (hb C.2.2.1 hd) rfl hq ho hp z) r
/-! returns -/
theorem Run.out {v : Option Value} (C : Ctx p l e R s m args below meth c Z own cd maxL ret nm) (hv : ret = none → v = none) (f : ∀ T locs, Stand p l e R s m args below meth c T locs k n → ∀ fs, (∀ (f : JFrame) (acts : List Action), f.method = m → f.locked = none → f.entered = [] → (doReturn e (T.setTop f) acts v).1 = T.setFrames fs) → Steps p.tables e below (T.setTop (mkF m pc Ls st)) (T.setFrames fs)) (hk : k ≤ R.cells) (hn : n ≤ R.slots) (hP : P v h) : Run p l e R s m args below meth c n0 P h k n pc Ls st := fun T locs X eT N => by
  obtain ⟨fs, hr, hrun, hended, hW, hsame⟩ := X.leave (v := v) (fun h => hv (C.2.2.2.2.2.1 ▸ h)) C.2.2.2.2.2.2.1
  exact ⟨_, _, f T locs X fs hr, hrun, hended, _, _, rfl, ⟨(by rw [show (T.setFrames fs).heap = h from eT]; exact hP), N⟩, ⟨_, rfl⟩, hW, hsame.mono hk hn⟩
theorem s_retI {Q : Int32 → Heap → Prop} (C : Ctx p l e R s m args below meth c Z own cd maxL (some .int) nm) {z : Int32} (hd : decode cd pc = .ok (.ireturn, 1)) (hk : k ≤ R.cells) (hn : n ≤ R.slots) (hQ : Q z h) : Run p l e R s m args below meth c n0 (RetI Q) h k n pc Ls (.int z :: st) :=
  Run.out C (fun h => by cases h) (fun T locs X fs hr => retOut X C.1 C.2.2.2.2.2.1 rfl (Or.inl ⟨rfl, Or.inl rfl, _, rfl⟩) (hb C.2.2.1 hd) hr) hk hn ⟨_, rfl, hQ⟩
theorem s_retN {Q : Int32 → Heap → Prop} {t : FieldType} (C : Ctx p l e R s m args below meth c Z own cd maxL (some t) nm) (ht : t = .boolean ∨ t = .byte ∨ t = .char ∨ t = .short) {z : Int32} (hd : decode cd pc = .ok (.ireturn, 1)) (hk : k ≤ R.cells) (hn : n ≤ R.slots) (hQ : Q (nar t z) h) : Run p l e R s m args below meth c n0 (RetI Q) h k n pc Ls (.int z :: st) :=
  Run.out C (fun h => by cases h) (fun T locs X fs hr => retN X C.1 C.2.2.2.2.2.1 ht (hb C.2.2.1 hd) hr) hk hn ⟨_, rfl, hQ⟩
theorem s_retL {Q : Int64 → Heap → Prop} (C : Ctx p l e R s m args below meth c Z own cd maxL (some .long) nm) {z : Int64} (hd : decode cd pc = .ok (.lreturn, 1)) (hk : k ≤ R.cells) (hn : n ≤ R.slots) (hQ : Q z h) : Run p l e R s m args below meth c n0 (RetL Q) h k n pc Ls (.long z :: st) :=
  Run.out C (fun h => by cases h) (fun T locs X fs hr => retOut X C.1 C.2.2.2.2.2.1 rfl (Or.inr (Or.inl ⟨rfl, rfl, _, rfl⟩)) (hb C.2.2.1 hd) hr) hk hn ⟨_, rfl, hQ⟩
theorem s_retA {Q : Value → Heap → Prop} {t : FieldType} (C : Ctx p l e R s m args below meth c Z own cd maxL (some t) nm) (ht : t.isReference = true) {v : Value} (hv : v.isRef = true) (hn' : narrow t v = v) (hd : decode cd pc = .ok (.areturn, 1)) (hk : k ≤ R.cells) (hn : n ≤ R.slots) (hQ : Q v h) : Run p l e R s m args below meth c n0 (RetV Q) h k n pc Ls (v :: st) :=
  Run.out C (fun h => by cases h) (fun T locs X fs hr => retOut X C.1 C.2.2.2.2.2.1 hn' (Or.inr (Or.inr (Or.inr (Or.inr ⟨rfl, ht, hv⟩)))) (hb C.2.2.1 hd) hr) hk hn ⟨_, rfl, hQ⟩
theorem s_ret0 {Q : Heap → Prop} (C : Ctx p l e R s m args below meth c Z own cd maxL none nm) (hd : decode cd pc = .ok (.return_, 1)) (hk : k ≤ R.cells) (hn : n ≤ R.slots) (hQ : Q h) : Run p l e R s m args below meth c n0 (Ret0 Q) h k n pc Ls [] :=
  Run.out C (fun _ => rfl) (fun T locs X fs hr => X.returnOut C.1 C.2.2.2.2.2.1 (hb C.2.2.1 hd) hr) hk hn ⟨rfl, hQ⟩
/-! fields, objects -/
theorem s_getF (C : Ctx p l e R s m args below meth c Z own cd maxL ret nm) {O f d : String} {i : Nat} {a : Addr} {v : Value} (hd : decode cd pc = .ok (.getfield i, 3)) (hp : pc + 3 = pc') (w : (Jvm.Cond.fieldLink own i O f d).before a0 Z = true) (F : Fld Z h a O f d v) (r : Run p l e R s m args below meth c n0 P h k n pc' Ls (v :: st)) : Run p l e R s m args below meth c n0 P h k n pc Ls (.ref a :: st) := by
  subst hp; exact Run.warm (fun T locs X eT => getF X C.1 C.2.1 C.2.2.2.2.1 (host := "") (Or.inl w) Via.refl eT F (g := mkF m pc Ls (.ref a :: st)) rfl rfl (hb C.2.2.1 hd)) r
theorem s_getS (C : Ctx p l e R s m args below meth c Z own cd maxL ret nm) {O f d : String} {i : Nat} {v : Value} (hd : decode cd pc = .ok (.getstatic i, 3)) (hp : pc + 3 = pc') (w : (Jvm.Cond.fieldLink own i O f d).before a0 Z = true) (F : Sta Z h O f d v) (r : Run p l e R s m args below meth c n0 P h k n pc' Ls (v :: st)) : Run p l e R s m args below meth c n0 P h k n pc Ls st := by
  subst hp; exact Run.warm (fun T locs X eT => getS (host := "") X C.1 C.2.1 C.2.2.2.2.1 w Via.refl eT F (g := mkF m pc Ls st) rfl (hb C.2.2.1 hd)) r
theorem s_putF (C : Ctx p l e R s m args below meth c Z own cd maxL ret nm) {O f d K : String} {i kk : Nat} {a : Addr} {v old : Value} {ty : FieldType} (hd : decode cd pc = .ok (.putfield i, 3)) (hp : pc + 3 = pc') (w : (Jvm.Cond.fieldLink own i O f d).before a0 Z = true) (F : Fld Z h a O f d old) (E : Exa Z h a K)
    (L : (Jvm.Cond.lays K O f d).before a0 Z = true ∨ ((Jvm.Cond.laysFinal K O f d).before a0 Z = true ∧ own = O ∧ nm = "<init>")) (wi : (Jvm.Cond.instantiable K kk).before a0 Z = true) (hty : parseFieldDescriptor d = some ty) (hn : narrow ty v = v) (hf : fits ty v = true) (ha : n0 ≤ a)
    (r : ∀ h', Wr h h' a (Jvm.RoadKit.slotOf Z O f d) v → Run p l e R s m args below meth c n0 P h' k n pc' Ls st) : Run p l e R s m args below meth c n0 P h k n pc Ls (v :: .ref a :: st) := by
  subst hp
  intro T locs X eT N
  obtain ⟨T', h', X', e', W, q⟩ := putF X C.1 C.2.1 C.2.2.2.2.1 (host := "") (Or.inl w) Via.refl eT F E (L.imp id fun z => ⟨z.1, z.2.1, C.2.2.2.2.2.2.2.trans z.2.2⟩) wi hty hn hf (g := mkF m pc Ls (v :: .ref a :: st)) rfl rfl (hb C.2.2.1 hd)
  obtain ⟨s₂, o, z, r⟩ := r h' W T' _ X' e' (Fr.snoc X' N ha)
  exact ⟨s₂, o, q _ z, r⟩
theorem s_new (C : Ctx p l e R s m args below meth c Z own cd maxL ret nm) {K : String} {i sl k' n' : Nat} (hd : decode cd pc = .ok (.new i, 3)) (hp : pc + 3 = pc') (w : (Jvm.Cond.classLink own i K).before a0 Z = true) (wi : (Jvm.Cond.instantiable K sl).before a0 Z = true) (wz : (Jvm.Cond.initialized K).before a0 Z = true) (hk : k + 1 = k') (hk' : k' ≤ R.cells) (hn : n + sl = n') (hn' : n' ≤ R.slots)
    (r : ∀ h' a, Ext h h' → a = h.size → Exa Z h' a K → (∀ {O nm d : String} {ty : FieldType}, Laid Z a0 K O nm d → parseFieldDescriptor d = some ty → Fld Z h' a O nm d (defaultValue ty)) → Run p l e R s m args below meth c n0 P h' k' n' pc' Ls (.ref a :: st)) : Run p l e R s m args below meth c n0 P h k n pc Ls st := by
  subst hp hk hn
  intro T locs X eT N
  obtain ⟨T', h', X', e', E, A, D, -, q⟩ := newO X C.1 C.2.1 C.2.2.2.2.1 w wi wz eT (g := mkF m pc Ls st) rfl (hb C.2.2.1 hd) hk' hn'
  obtain ⟨s₂, o, z, r⟩ := r h' _ E rfl A D T' _ X' e' N
  exact ⟨s₂, o, q _ z, r⟩
theorem s_initO (C : Ctx p l e R s m args below meth c Z own cd maxL ret nm) {i W : Nat} {a : Addr} (hd : decode cd pc = .ok (.invokespecial i, 3)) (hp : pc + 3 = pc') (w1 : (Jvm.Cond.methodLink own i Lib.objectInit).before a0 Z = true) (w2 : (Jvm.Cond.instanceMethod Lib.objectInit).before a0 Z = true) (w3 : (Jvm.Cond.code Lib.objectInit ⟨#[0xb1]⟩ 1 none).before a0 Z = true) (hs : Ls.size = maxL) (hf : 1 ≤ R.frames) (hW : (st.map fun v => v.category).sum = W) (hl : W + 12 ≤ R.locals)
    (r : Run p l e R s m args below meth c n0 P h k n pc' Ls st) : Run p l e R s m args below meth c n0 P h k n pc Ls (.ref a :: st) := by
  subst hp; exact Run.warm (fun T locs X eT => initO X C.1 C.2.1 C.2.2.2.2.1 w1 w2 w3 eT (g := mkF m pc Ls (.ref a :: st)) rfl (by rw [C.2.2.2.1]; exact hs) rfl (hb C.2.2.1 hd) hf (W := W) (by show 2 * 0 + _ ≤ _; omega) hl) r
theorem s_cast (C : Ctx p l e R s m args below meth c Z own cd maxL ret nm) {K : String} {i : Nat} {a : Addr} (hd : decode cd pc = .ok (.checkcast i, 3)) (hp : pc + 3 = pc') (w : (Jvm.Cond.classLink own i K).before a0 Z = true) (F : Ins Z h a K true) (r : Run p l e R s m args below meth c n0 P h k n pc' Ls (.ref a :: st)) : Run p l e R s m args below meth c n0 P h k n pc Ls (.ref a :: st) := by
  subst hp; exact Run.warm (fun T locs X eT => castY X C.1 C.2.1 C.2.2.2.2.1 w eT F (g := mkF m pc Ls (.ref a :: st)) rfl rfl (hb C.2.2.1 hd)) r
theorem s_instY (C : Ctx p l e R s m args below meth c Z own cd maxL ret nm) {K : String} {i : Nat} {a : Addr} (hd : decode cd pc = .ok (.instanceof i, 3)) (hp : pc + 3 = pc') (w : (Jvm.Cond.classLink own i K).before a0 Z = true) (F : Ins Z h a K true) (r : Run p l e R s m args below meth c n0 P h k n pc' Ls (.int 1 :: st)) : Run p l e R s m args below meth c n0 P h k n pc Ls (.ref a :: st) := by
  subst hp; exact Run.warm (fun T locs X eT => instY X C.1 C.2.1 C.2.2.2.2.1 w eT F (g := mkF m pc Ls (.ref a :: st)) rfl rfl (hb C.2.2.1 hd)) r
/-! calls -/
theorem Met.back {y : MethodName} {bytes : ByteArray} {mL len W : Nat} {rt : Option FieldType} {rm : Room} {as : Array Value} {Q : Option Value → Heap → Prop} (M : Met l Z y bytes mL rt [] rm as h n0 Q) (hZ : Z.Warmed39 s.vm) (wc : (Jvm.Cond.code y bytes mL rt).before a0 Z = true) (wz : (Jvm.Cond.initialized y.cls).before a0 Z = true) (hf : rm.frames + 1 ≤ R.frames) (hl : W + (mL + 11) + rm.locals ≤ R.locals) :
    Back l R p e below s args y len W (fun A a => a = as ∧ A.U.heap = h ∧ A.cells + rm.cells ≤ R.cells ∧ A.slots + rm.slots ≤ R.slots) (fun A _ v B => ∃ L, (Q v B.U.heap ∧ Fr n0 L) ∧ B.locs = A.locs ++ L ∧ B.cells = A.cells + rm.cells ∧ B.slots = A.slots + rm.slots) :=
  backOf (Q := fun v h L => Q v h ∧ Fr n0 L) M hZ wc wz hf hl
theorem s_callS (C : Ctx p l e R s m args below meth c Z own cd maxL ret nm) {y : MethodName} {bytes : ByteArray} {mL i W k' n' : Nat} {rt : Option FieldType} {rm : Room} {Q : Option Value → Heap → Prop} (hd : decode cd pc = .ok (.invokestatic i, 3)) (hp : pc + 3 = pc') (wl : (Jvm.Cond.methodLink own i y).before a0 Z = true) (ws : (Jvm.Cond.static y).before a0 Z = true) (wz : (Jvm.Cond.initialized y.cls).before a0 Z = true) (wc : (Jvm.Cond.code y bytes mL rt).before a0 Z = true) (hy : y.cls ≠ "java/lang/invoke/MethodHandle" ∧ y.cls ≠ "java/lang/invoke/VarHandle") (as rest : List Value) {ps : List FieldType} {rr : Option FieldType} (hdes : parseMethodDescriptor y.desc = some ⟨ps, rr⟩) (hlen : as.length = ps.length) (hst : st = as.reverse ++ rest)
    (M : Met l Z y bytes mL rt [] rm as.toArray h n0 Q) (hs : Ls.size = maxL) (hW : (rest.map fun v => v.category).sum = W) (hf : rm.frames + 1 ≤ R.frames) (hl : W + (mL + 11) + rm.locals ≤ R.locals) (hk : k + rm.cells = k') (hk' : k' ≤ R.cells) (hn : n + rm.slots = n') (hn' : n' ≤ R.slots)
    (r : ∀ v h', Q v h' → Run p l e R s m args below meth c n0 P h' k' n' pc' Ls (v.toList ++ rest)) : Run p l e R s m args below meth c n0 P h k n pc Ls st := by
  subst hp hk hn hst
  intro T locs X eT N
  obtain ⟨v, _, ⟨T', L', k', n'⟩, -, X', ⟨Lc, ⟨hQ, N'⟩, l', y', z'⟩, q⟩ := Jvm.LawKit.callS X C.1 (y := y) C.2.2.2.2.1 (mvT C.2.1 wl) (mvT C.2.1 ws) (mvT C.2.1 wz) (mvT C.2.1 wc) hy (M.back (W := W) C.2.1 wc wz hf hl) (g := mkF m pc Ls (as.reverse ++ rest)) rfl (by rw [C.2.2.2.1]; exact hs) (argsL := as) (rest := rest) (lenOf hdes hlen) rfl (by show 2 * 0 + _ ≤ _; omega) (hb C.2.2.1 hd) (fun _ _ => ⟨rfl, eT, hk', hn'⟩)
  dsimp only [Pt.U, Pt.locs, Pt.cells, Pt.slots] at X' l' y' z' q hQ
  subst l' y' z'
  obtain ⟨s₂, o, z, r⟩ := r v _ hQ T' _ X' rfl (Fr.app N N')
  exact ⟨s₂, o, q _ z, r⟩
theorem s_callV (C : Ctx p l e R s m args below meth c Z own cd maxL ret nm) {y z : MethodName} {K : String} {bytes : ByteArray} {mL i W k' n' : Nat} {rt : Option FieldType} {rm : Room} {b : Addr} {Q : Option Value → Heap → Prop} (hd : decode cd pc = .ok (.invokevirtual i, 3)) (hp : pc + 3 = pc') (wl : (Jvm.Cond.methodLink own i y).before a0 Z = true) (wd : (Jvm.Cond.declares y).before a0 Z = true) (hnf : NotFace s y) (wsel : (Jvm.Cond.selects K y z).before a0 Z = true) (wi : (Jvm.Cond.instanceMethod z).before a0 Z = true) (wz : (Jvm.Cond.initialized z.cls).before a0 Z = true) (wc : (Jvm.Cond.code z bytes mL rt).before a0 Z = true) (hy : y.cls ≠ "java/lang/invoke/MethodHandle" ∧ y.cls ≠ "java/lang/invoke/VarHandle") (E : Exa Z h b K) (as rest : List Value) {ps : List FieldType} {rr : Option FieldType} (hdes : parseMethodDescriptor y.desc = some ⟨ps, rr⟩) (hlen : as.length = ps.length) (hst : st = as.reverse ++ .ref b :: rest)
    (M : Met l Z z bytes mL rt [] rm (.ref b :: as).toArray h n0 Q) (hs : Ls.size = maxL) (hW : (rest.map fun v => v.category).sum = W) (hf : rm.frames + 1 ≤ R.frames) (hl : W + (mL + 11) + rm.locals ≤ R.locals) (hk : k + rm.cells = k') (hk' : k' ≤ R.cells) (hn : n + rm.slots = n') (hn' : n' ≤ R.slots)
    (r : ∀ v h', Q v h' → Run p l e R s m args below meth c n0 P h' k' n' pc' Ls (v.toList ++ rest)) : Run p l e R s m args below meth c n0 P h k n pc Ls st := by
  subst hp hk hn hst
  intro T locs X eT N
  obtain ⟨cq, kq, qa, qb, qc⟩ := isOf C.2.1 eT E
  obtain ⟨v, _, ⟨T', L', k', n'⟩, -, X', ⟨Lc, ⟨hQ, N'⟩, l', y', z'⟩, q⟩ := X.virtualBack C.1 (y := y) (z := z) C.2.2.2.2.1 (mvT C.2.1 wl) (mvT C.2.1 wd) hnf (mvT C.2.1 wsel) (mvT C.2.1 wi) hy (M.back (W := W) C.2.1 wc wz hf hl) qa qc (g := mkF m pc Ls (as.reverse ++ .ref b :: rest)) rfl (by rw [C.2.2.2.1]; exact hs) (Steps.refl _) (argsL := as) (rest := rest) (lenOf hdes hlen) rfl (by show 2 * 0 + _ ≤ _; omega) (hb C.2.2.1 hd) (fun _ _ => ⟨rfl, eT, hk', hn'⟩)
  dsimp only [Pt.U, Pt.locs, Pt.cells, Pt.slots] at X' l' y' z' q hQ
  subst l' y' z'
  obtain ⟨s₂, o, z, r⟩ := r v _ hQ T' _ X' rfl (Fr.app N N')
  exact ⟨s₂, o, q.trans z, r⟩
theorem s_callI (C : Ctx p l e R s m args below meth c Z own cd maxL ret nm) {y : MethodName} {bytes : ByteArray} {mL i W k' n' : Nat} {rm : Room} {b : Addr} {Q : Heap → Prop} (hd : decode cd pc = .ok (.invokespecial i, 3)) (hp : pc + 3 = pc') (wl : (Jvm.Cond.methodLink own i y).before a0 Z = true) (hy1 : y.name = "<init>") (wi : (Jvm.Cond.instanceMethod y).before a0 Z = true) (wz : (Jvm.Cond.initialized y.cls).before a0 Z = true) (wc : (Jvm.Cond.code y bytes mL none).before a0 Z = true) (hy : y.cls ≠ "java/lang/invoke/MethodHandle" ∧ y.cls ≠ "java/lang/invoke/VarHandle") (as rest : List Value) {ps : List FieldType} {rr : Option FieldType} (hdes : parseMethodDescriptor y.desc = some ⟨ps, rr⟩) (hlen : as.length = ps.length) (hst : st = as.reverse ++ .ref b :: rest)
    (M : Met l Z y bytes mL none [] rm (.ref b :: as).toArray h n0 (Ret0 Q)) (hs : Ls.size = maxL) (hW : (rest.map fun v => v.category).sum = W) (hf : rm.frames + 1 ≤ R.frames) (hl : W + (mL + 11) + rm.locals ≤ R.locals) (hk : k + rm.cells = k') (hk' : k' ≤ R.cells) (hn : n + rm.slots = n') (hn' : n' ≤ R.slots)
    (r : ∀ h', Q h' → Run p l e R s m args below meth c n0 P h' k' n' pc' Ls rest) : Run p l e R s m args below meth c n0 P h k n pc Ls st := by
  subst hp hk hn hst
  intro T locs X eT N
  obtain ⟨v, _, ⟨T', L', k', n'⟩, -, X', ⟨Lc, ⟨⟨rfl, hQ⟩, N'⟩, l', y', z'⟩, q⟩ := X.specialBack C.1 (y := y) hy1 C.2.2.2.2.1 (mvT C.2.1 wl) (mvT C.2.1 wi) (mvT C.2.1 wc) hy (M.back (W := W) C.2.1 wc wz hf hl) (g := mkF m pc Ls (as.reverse ++ .ref b :: rest)) rfl (by rw [C.2.2.2.1]; exact hs) (Steps.refl _) (a := b) (argsL := as) (rest := rest) (lenOf hdes hlen) rfl (by show 2 * 0 + _ ≤ _; omega) (hb C.2.2.1 hd) (fun _ _ => ⟨rfl, eT, hk', hn'⟩)
  dsimp only [Pt.U, Pt.locs, Pt.cells, Pt.slots] at X' l' y' z' q hQ
  subst l' y' z'
  obtain ⟨s₂, o, z, r⟩ := r _ hQ T' _ X' rfl (Fr.app N N')
  exact ⟨s₂, o, q.trans z, r⟩
theorem s_callSI (C : Ctx p l e R s m args below meth c Z own cd maxL ret nm) {y : MethodName} {bytes : ByteArray} {mL i W k' n' : Nat} {rt : Option FieldType} {rm : Room} {Q : Int32 → Heap → Prop} (hd : decode cd pc = .ok (.invokestatic i, 3)) (hp : pc + 3 = pc') (wl : (Jvm.Cond.methodLink own i y).before a0 Z = true) (ws : (Jvm.Cond.static y).before a0 Z = true) (wz : (Jvm.Cond.initialized y.cls).before a0 Z = true) (wc : (Jvm.Cond.code y bytes mL rt).before a0 Z = true) (hy : y.cls ≠ "java/lang/invoke/MethodHandle" ∧ y.cls ≠ "java/lang/invoke/VarHandle") (as rest : List Value) {ps : List FieldType} {rr : Option FieldType} (hdes : parseMethodDescriptor y.desc = some ⟨ps, rr⟩) (hlen : as.length = ps.length) (hst : st = as.reverse ++ rest)
    (M : Met l Z y bytes mL rt [] rm as.toArray h n0 (RetI Q)) (hs : Ls.size = maxL) (hW : (rest.map fun v => v.category).sum = W) (hf : rm.frames + 1 ≤ R.frames) (hl : W + (mL + 11) + rm.locals ≤ R.locals) (hk : k + rm.cells = k') (hk' : k' ≤ R.cells) (hn : n + rm.slots = n') (hn' : n' ≤ R.slots)
    (r : ∀ (z : Int32) h', Q z h' → Run p l e R s m args below meth c n0 P h' k' n' pc' Ls ((.int z) :: rest)) : Run p l e R s m args below meth c n0 P h k n pc Ls st :=
  s_callS C hd hp wl ws wz wc hy as rest hdes hlen hst M hs hW hf hl hk hk' hn hn' (fun v h' q => by obtain ⟨z, rfl, q⟩ := q; exact r z h' q)
theorem s_callSL (C : Ctx p l e R s m args below meth c Z own cd maxL ret nm) {y : MethodName} {bytes : ByteArray} {mL i W k' n' : Nat} {rt : Option FieldType} {rm : Room} {Q : Int64 → Heap → Prop} (hd : decode cd pc = .ok (.invokestatic i, 3)) (hp : pc + 3 = pc') (wl : (Jvm.Cond.methodLink own i y).before a0 Z = true) (ws : (Jvm.Cond.static y).before a0 Z = true) (wz : (Jvm.Cond.initialized y.cls).before a0 Z = true) (wc : (Jvm.Cond.code y bytes mL rt).before a0 Z = true) (hy : y.cls ≠ "java/lang/invoke/MethodHandle" ∧ y.cls ≠ "java/lang/invoke/VarHandle") (as rest : List Value) {ps : List FieldType} {rr : Option FieldType} (hdes : parseMethodDescriptor y.desc = some ⟨ps, rr⟩) (hlen : as.length = ps.length) (hst : st = as.reverse ++ rest)
    (M : Met l Z y bytes mL rt [] rm as.toArray h n0 (RetL Q)) (hs : Ls.size = maxL) (hW : (rest.map fun v => v.category).sum = W) (hf : rm.frames + 1 ≤ R.frames) (hl : W + (mL + 11) + rm.locals ≤ R.locals) (hk : k + rm.cells = k') (hk' : k' ≤ R.cells) (hn : n + rm.slots = n') (hn' : n' ≤ R.slots)
    (r : ∀ (z : Int64) h', Q z h' → Run p l e R s m args below meth c n0 P h' k' n' pc' Ls ((.long z) :: rest)) : Run p l e R s m args below meth c n0 P h k n pc Ls st :=
  s_callS C hd hp wl ws wz wc hy as rest hdes hlen hst M hs hW hf hl hk hk' hn hn' (fun v h' q => by obtain ⟨z, rfl, q⟩ := q; exact r z h' q)
theorem s_callSA (C : Ctx p l e R s m args below meth c Z own cd maxL ret nm) {y : MethodName} {bytes : ByteArray} {mL i W k' n' : Nat} {rt : Option FieldType} {rm : Room} {Q : Value → Heap → Prop} (hd : decode cd pc = .ok (.invokestatic i, 3)) (hp : pc + 3 = pc') (wl : (Jvm.Cond.methodLink own i y).before a0 Z = true) (ws : (Jvm.Cond.static y).before a0 Z = true) (wz : (Jvm.Cond.initialized y.cls).before a0 Z = true) (wc : (Jvm.Cond.code y bytes mL rt).before a0 Z = true) (hy : y.cls ≠ "java/lang/invoke/MethodHandle" ∧ y.cls ≠ "java/lang/invoke/VarHandle") (as rest : List Value) {ps : List FieldType} {rr : Option FieldType} (hdes : parseMethodDescriptor y.desc = some ⟨ps, rr⟩) (hlen : as.length = ps.length) (hst : st = as.reverse ++ rest)
    (M : Met l Z y bytes mL rt [] rm as.toArray h n0 (RetV Q)) (hs : Ls.size = maxL) (hW : (rest.map fun v => v.category).sum = W) (hf : rm.frames + 1 ≤ R.frames) (hl : W + (mL + 11) + rm.locals ≤ R.locals) (hk : k + rm.cells = k') (hk' : k' ≤ R.cells) (hn : n + rm.slots = n') (hn' : n' ≤ R.slots)
    (r : ∀ (z : Value) h', Q z h' → Run p l e R s m args below meth c n0 P h' k' n' pc' Ls (z :: rest)) : Run p l e R s m args below meth c n0 P h k n pc Ls st :=
  s_callS C hd hp wl ws wz wc hy as rest hdes hlen hst M hs hW hf hl hk hk' hn hn' (fun v h' q => by obtain ⟨z, rfl, q⟩ := q; exact r z h' q)
theorem s_callS0 (C : Ctx p l e R s m args below meth c Z own cd maxL ret nm) {y : MethodName} {bytes : ByteArray} {mL i W k' n' : Nat} {rt : Option FieldType} {rm : Room} {Q : Heap → Prop} (hd : decode cd pc = .ok (.invokestatic i, 3)) (hp : pc + 3 = pc') (wl : (Jvm.Cond.methodLink own i y).before a0 Z = true) (ws : (Jvm.Cond.static y).before a0 Z = true) (wz : (Jvm.Cond.initialized y.cls).before a0 Z = true) (wc : (Jvm.Cond.code y bytes mL rt).before a0 Z = true) (hy : y.cls ≠ "java/lang/invoke/MethodHandle" ∧ y.cls ≠ "java/lang/invoke/VarHandle") (as rest : List Value) {ps : List FieldType} {rr : Option FieldType} (hdes : parseMethodDescriptor y.desc = some ⟨ps, rr⟩) (hlen : as.length = ps.length) (hst : st = as.reverse ++ rest)
    (M : Met l Z y bytes mL rt [] rm as.toArray h n0 (Ret0 Q)) (hs : Ls.size = maxL) (hW : (rest.map fun v => v.category).sum = W) (hf : rm.frames + 1 ≤ R.frames) (hl : W + (mL + 11) + rm.locals ≤ R.locals) (hk : k + rm.cells = k') (hk' : k' ≤ R.cells) (hn : n + rm.slots = n') (hn' : n' ≤ R.slots)
    (r : ∀ h', Q h' → Run p l e R s m args below meth c n0 P h' k' n' pc' Ls rest) : Run p l e R s m args below meth c n0 P h k n pc Ls st :=
  s_callS C hd hp wl ws wz wc hy as rest hdes hlen hst M hs hW hf hl hk hk' hn hn' (fun v h' q => by obtain ⟨rfl, q⟩ := q; exact r h' q)
theorem s_callVI (C : Ctx p l e R s m args below meth c Z own cd maxL ret nm) {y z : MethodName} {K : String} {bytes : ByteArray} {mL i W k' n' : Nat} {rt : Option FieldType} {rm : Room} {b : Addr} {Q : Int32 → Heap → Prop} (hd : decode cd pc = .ok (.invokevirtual i, 3)) (hp : pc + 3 = pc') (wl : (Jvm.Cond.methodLink own i y).before a0 Z = true) (wd : (Jvm.Cond.declares y).before a0 Z = true) (hnf : NotFace s y) (wsel : (Jvm.Cond.selects K y z).before a0 Z = true) (wi : (Jvm.Cond.instanceMethod z).before a0 Z = true) (wz : (Jvm.Cond.initialized z.cls).before a0 Z = true) (wc : (Jvm.Cond.code z bytes mL rt).before a0 Z = true) (hy : y.cls ≠ "java/lang/invoke/MethodHandle" ∧ y.cls ≠ "java/lang/invoke/VarHandle") (E : Exa Z h b K) (as rest : List Value) {ps : List FieldType} {rr : Option FieldType} (hdes : parseMethodDescriptor y.desc = some ⟨ps, rr⟩) (hlen : as.length = ps.length) (hst : st = as.reverse ++ .ref b :: rest)
    (M : Met l Z z bytes mL rt [] rm (.ref b :: as).toArray h n0 (RetI Q)) (hs : Ls.size = maxL) (hW : (rest.map fun v => v.category).sum = W) (hf : rm.frames + 1 ≤ R.frames) (hl : W + (mL + 11) + rm.locals ≤ R.locals) (hk : k + rm.cells = k') (hk' : k' ≤ R.cells) (hn : n + rm.slots = n') (hn' : n' ≤ R.slots)
    (r : ∀ (z : Int32) h', Q z h' → Run p l e R s m args below meth c n0 P h' k' n' pc' Ls ((.int z) :: rest)) : Run p l e R s m args below meth c n0 P h k n pc Ls st :=
  s_callV C hd hp wl wd hnf wsel wi wz wc hy E as rest hdes hlen hst M hs hW hf hl hk hk' hn hn' (fun v h' q => by obtain ⟨z, rfl, q⟩ := q; exact r z h' q)
theorem s_callVL (C : Ctx p l e R s m args below meth c Z own cd maxL ret nm) {y z : MethodName} {K : String} {bytes : ByteArray} {mL i W k' n' : Nat} {rt : Option FieldType} {rm : Room} {b : Addr} {Q : Int64 → Heap → Prop} (hd : decode cd pc = .ok (.invokevirtual i, 3)) (hp : pc + 3 = pc') (wl : (Jvm.Cond.methodLink own i y).before a0 Z = true) (wd : (Jvm.Cond.declares y).before a0 Z = true) (hnf : NotFace s y) (wsel : (Jvm.Cond.selects K y z).before a0 Z = true) (wi : (Jvm.Cond.instanceMethod z).before a0 Z = true) (wz : (Jvm.Cond.initialized z.cls).before a0 Z = true) (wc : (Jvm.Cond.code z bytes mL rt).before a0 Z = true) (hy : y.cls ≠ "java/lang/invoke/MethodHandle" ∧ y.cls ≠ "java/lang/invoke/VarHandle") (E : Exa Z h b K) (as rest : List Value) {ps : List FieldType} {rr : Option FieldType} (hdes : parseMethodDescriptor y.desc = some ⟨ps, rr⟩) (hlen : as.length = ps.length) (hst : st = as.reverse ++ .ref b :: rest)
    (M : Met l Z z bytes mL rt [] rm (.ref b :: as).toArray h n0 (RetL Q)) (hs : Ls.size = maxL) (hW : (rest.map fun v => v.category).sum = W) (hf : rm.frames + 1 ≤ R.frames) (hl : W + (mL + 11) + rm.locals ≤ R.locals) (hk : k + rm.cells = k') (hk' : k' ≤ R.cells) (hn : n + rm.slots = n') (hn' : n' ≤ R.slots)
    (r : ∀ (z : Int64) h', Q z h' → Run p l e R s m args below meth c n0 P h' k' n' pc' Ls ((.long z) :: rest)) : Run p l e R s m args below meth c n0 P h k n pc Ls st :=
  s_callV C hd hp wl wd hnf wsel wi wz wc hy E as rest hdes hlen hst M hs hW hf hl hk hk' hn hn' (fun v h' q => by obtain ⟨z, rfl, q⟩ := q; exact r z h' q)
theorem s_callVA (C : Ctx p l e R s m args below meth c Z own cd maxL ret nm) {y z : MethodName} {K : String} {bytes : ByteArray} {mL i W k' n' : Nat} {rt : Option FieldType} {rm : Room} {b : Addr} {Q : Value → Heap → Prop} (hd : decode cd pc = .ok (.invokevirtual i, 3)) (hp : pc + 3 = pc') (wl : (Jvm.Cond.methodLink own i y).before a0 Z = true) (wd : (Jvm.Cond.declares y).before a0 Z = true) (hnf : NotFace s y) (wsel : (Jvm.Cond.selects K y z).before a0 Z = true) (wi : (Jvm.Cond.instanceMethod z).before a0 Z = true) (wz : (Jvm.Cond.initialized z.cls).before a0 Z = true) (wc : (Jvm.Cond.code z bytes mL rt).before a0 Z = true) (hy : y.cls ≠ "java/lang/invoke/MethodHandle" ∧ y.cls ≠ "java/lang/invoke/VarHandle") (E : Exa Z h b K) (as rest : List Value) {ps : List FieldType} {rr : Option FieldType} (hdes : parseMethodDescriptor y.desc = some ⟨ps, rr⟩) (hlen : as.length = ps.length) (hst : st = as.reverse ++ .ref b :: rest)
    (M : Met l Z z bytes mL rt [] rm (.ref b :: as).toArray h n0 (RetV Q)) (hs : Ls.size = maxL) (hW : (rest.map fun v => v.category).sum = W) (hf : rm.frames + 1 ≤ R.frames) (hl : W + (mL + 11) + rm.locals ≤ R.locals) (hk : k + rm.cells = k') (hk' : k' ≤ R.cells) (hn : n + rm.slots = n') (hn' : n' ≤ R.slots)
    (r : ∀ (z : Value) h', Q z h' → Run p l e R s m args below meth c n0 P h' k' n' pc' Ls (z :: rest)) : Run p l e R s m args below meth c n0 P h k n pc Ls st :=
  s_callV C hd hp wl wd hnf wsel wi wz wc hy E as rest hdes hlen hst M hs hW hf hl hk hk' hn hn' (fun v h' q => by obtain ⟨z, rfl, q⟩ := q; exact r z h' q)
theorem s_callV0 (C : Ctx p l e R s m args below meth c Z own cd maxL ret nm) {y z : MethodName} {K : String} {bytes : ByteArray} {mL i W k' n' : Nat} {rt : Option FieldType} {rm : Room} {b : Addr} {Q : Heap → Prop} (hd : decode cd pc = .ok (.invokevirtual i, 3)) (hp : pc + 3 = pc') (wl : (Jvm.Cond.methodLink own i y).before a0 Z = true) (wd : (Jvm.Cond.declares y).before a0 Z = true) (hnf : NotFace s y) (wsel : (Jvm.Cond.selects K y z).before a0 Z = true) (wi : (Jvm.Cond.instanceMethod z).before a0 Z = true) (wz : (Jvm.Cond.initialized z.cls).before a0 Z = true) (wc : (Jvm.Cond.code z bytes mL rt).before a0 Z = true) (hy : y.cls ≠ "java/lang/invoke/MethodHandle" ∧ y.cls ≠ "java/lang/invoke/VarHandle") (E : Exa Z h b K) (as rest : List Value) {ps : List FieldType} {rr : Option FieldType} (hdes : parseMethodDescriptor y.desc = some ⟨ps, rr⟩) (hlen : as.length = ps.length) (hst : st = as.reverse ++ .ref b :: rest)
    (M : Met l Z z bytes mL rt [] rm (.ref b :: as).toArray h n0 (Ret0 Q)) (hs : Ls.size = maxL) (hW : (rest.map fun v => v.category).sum = W) (hf : rm.frames + 1 ≤ R.frames) (hl : W + (mL + 11) + rm.locals ≤ R.locals) (hk : k + rm.cells = k') (hk' : k' ≤ R.cells) (hn : n + rm.slots = n') (hn' : n' ≤ R.slots)
    (r : ∀ h', Q h' → Run p l e R s m args below meth c n0 P h' k' n' pc' Ls rest) : Run p l e R s m args below meth c n0 P h k n pc Ls st :=
  s_callV C hd hp wl wd hnf wsel wi wz wc hy E as rest hdes hlen hst M hs hW hf hl hk hk' hn hn' (fun v h' q => by obtain ⟨rfl, q⟩ := q; exact r h' q)
/-! arrays: exactly these values -/
def Av (Z : State) (h : Heap) (a : Addr) (ty : FieldType) (vs : List Value) : Prop := ∃ cl : Cell, Arr Z h a cl ty ∧ cl.slots = vs.toArray ∧ vs.length < 2 ^ 31 ∧ ∀ v ∈ vs, fits ty v = true
theorem Av.lt {h : Heap} {a : Addr} {ty : FieldType} {vs : List Value} (V : Av Z h a ty vs) : a < h.size := by obtain ⟨cl, A, -⟩ := V; exact A.lt
theorem Av.ext {h h' : Heap} {a : Addr} {ty : FieldType} {vs : List Value} (V : Av Z h a ty vs) (E : Ext h h') : Av Z h' a ty vs := by obtain ⟨cl, A, r⟩ := V; exact ⟨cl, A.ext E, r⟩
theorem Av.other {h h' : Heap} {a b : Addr} {ty : FieldType} {vs : List Value} {sl : Nat} {v : Value} (V : Av Z h b ty vs) (W : Wr h h' a sl v) (q : b ≠ a) : Av Z h' b ty vs := by obtain ⟨cl, A, r⟩ := V; exact ⟨cl, A.other W q, r⟩
theorem Av.keep {h h' : Heap} {a : Addr} {ty : FieldType} {vs : List Value} {ws : List Addr} (V : Av Z h a ty vs) (K : Keep h h' ws) (q : a ∉ ws) : Av Z h' a ty vs := by obtain ⟨cl, A, r⟩ := V; exact ⟨cl, ⟨K.2.1 a cl A.1 q, A.2⟩, r⟩
theorem Av.set {h h' : Heap} {a : Addr} {ty : FieldType} {vs : List Value} {i : Nat} {v : Value} (V : Av Z h a ty vs) (W : Wr h h' a i v) (hf : fits ty v = true) : Av Z h' a ty (vs.set i v) := by
  obtain ⟨cl, A, hs, hl, hq⟩ := V
  exact ⟨_, A.same W, by simp [Cell.setSlot, hs], by simpa using hl, fun u hu => (List.mem_or_eq_of_mem_set hu).elim (hq u) (fun e => e ▸ hf)⟩
theorem fits_default (ty : FieldType) : fits ty (defaultValue ty) = true := by cases ty <;> first | rfl | decide
theorem Av.new {h : Heap} {a : Addr} {cA : ClassId} {ty : FieldType} {z : Int32} (A : Arr Z h a (newA cA ty z) ty) : Av Z h a ty (List.replicate z.toNatClampNeg (defaultValue ty)) := ⟨_, A, by simp [newA], by rw [List.length_replicate]; have := z.toInt_lt; simp only [Int32.toNatClampNeg]; omega, fun v hv => (List.eq_of_mem_replicate hv) ▸ fits_default ty⟩
theorem getD_toArray (vs : List Value) (i : Nat) (dv : Value) (hi : i < vs.length) : vs.toArray[i]? = some (vs.getD i dv) := by
  simp [List.getD_eq_getElem?_getD, List.getElem?_eq_getElem hi]
theorem len32 {n : Nat} (h : n < 2 ^ 31) : n.toInt32.toNatClampNeg = n ∧ ¬ n.toInt32 < 0 := by
  have e : n.toInt32.toInt = n := len_toInt (by omega)
  constructor
  · simp [Int32.toNatClampNeg, e]
  · rw [Int32.lt_iff_toInt_lt, e]; simp only [Int32.reduceToInt]; omega
theorem Av.arv {h : Heap} {a : Addr} {ty : FieldType} {vs : List Value} (dv : Value) (V : Av Z h a ty vs) : ∃ k, Arv Z h a k ty vs.length.toInt32 vs dv := by
  obtain ⟨cl, A, hs, hl, hq⟩ := V
  have e := len32 hl
  refine ⟨cl.cls, cl, A, rfl, by rw [e.1, hs]; simp, e.2, fun i hi => ?_, fun i hi => ?_⟩
  · rw [hs] at hi ⊢; exact getD_toArray vs i dv (by simpa using hi)
  · rw [hs] at hi
    have hi' : i < vs.length := by simpa using hi
    rw [List.getD_eq_getElem?_getD, List.getElem?_eq_getElem hi']
    exact hq _ (List.getElem_mem hi')
theorem Av.of_arv {h : Heap} {a : Addr} {k : ClassId} {ty : FieldType} {z : Int32} {vs : List Value} {dv : Value} (V : Arv Z h a k ty z vs dv) (hl : vs.length = z.toNatClampNeg) : Av Z h a ty vs := by
  obtain ⟨cl, A, -, hs, hz, hh, hf⟩ := V
  have e : cl.slots.size = vs.length := by rw [hs, hl]
  refine ⟨cl, A, ?_, by have := z.toInt_lt; rw [hl]; simp only [Int32.toNatClampNeg]; omega, fun v hv => ?_⟩
  · apply Array.ext_getElem?
    intro i
    by_cases hi : i < vs.length
    · rw [hh i (by omega)]; exact (getD_toArray vs i dv hi).symm
    · rw [Array.getElem?_eq_none (by omega), Array.getElem?_eq_none (by simpa using hi)]
  · obtain ⟨i, hi, rfl⟩ := List.getElem_of_mem hv
    have q := hf i (by omega)
    rwa [List.getD_eq_getElem?_getD, List.getElem?_eq_getElem hi] at q
theorem idx_n {j : Int32} {i : Nat} (hi : j.toInt = (i : Int)) : j.toNatClampNeg = i ∧ ¬ j < 0 := by
  constructor
  · simp [Int32.toNatClampNeg, hi]
  · rw [Int32.lt_iff_toInt_lt, hi]; simp only [Int32.reduceToInt]; omega
theorem s_newarr (C : Ctx p l e R s m args below meth c Z own cd maxL ret nm) {aty : ArrayType} {z : Int32} {k' n' cap : Nat} (hd : decode cd pc = .ok (.newarray aty, 2)) (hp : pc + 2 = pc') (w : (Jvm.Cond.arrayClass (newarray.typeOf aty)).before a0 Z = true) (hz : ¬ z < 0) (hcap : z.toNatClampNeg ≤ cap) (hcb : cap * 8 ≤ 536870912) (hk : k + 1 = k') (hk' : k' ≤ R.cells) (hn : n + cap = n') (hn' : n' ≤ R.slots) (vs : List Value) (hvs : List.replicate z.toNatClampNeg (defaultValue (newarray.typeOf aty)) = vs)
    (r : ∀ h' a, Ext h h' → a = h.size → Av Z h' a (newarray.typeOf aty) vs → Run p l e R s m args below meth c n0 P h' k' n' pc' Ls (.ref a :: st)) : Run p l e R s m args below meth c n0 P h k n pc Ls (.int z :: st) := by
  subst hp hk hn hvs
  intro T locs X eT N
  obtain ⟨T', h', cA, X', e', E, A, q⟩ := newP X C.1 C.2.1 w eT (g := mkF m pc Ls (.int z :: st)) rfl (hb C.2.2.1 hd) rfl hz hcap hcb hk' hn'
  obtain ⟨s₂, o, z, r⟩ := r h' _ E rfl (Av.new A) T' _ X' e' N
  exact ⟨s₂, o, q _ z, r⟩
theorem s_newarrE (C : Ctx p l e R s m args below meth c Z own cd maxL ret nm) {aty : ArrayType} {z : Int32} {k' n' cap : Nat} (hd : decode cd pc = .ok (.newarray aty, 2)) (hp : pc + 2 = pc') (w : (Jvm.Cond.arrayClass (newarray.typeOf aty)).before a0 Z = true) (hz : ¬ z < 0) (hcap : z.toNatClampNeg ≤ cap) (hcb : cap * 8 ≤ 536870912) (hk : k + 1 = k') (hk' : k' ≤ R.cells) (hn : n + cap = n') (hn' : n' ≤ R.slots) (vs : List Value) (hvs : List.replicate z.toNatClampNeg (defaultValue (newarray.typeOf aty)) = vs) (ad : String) (had : "[" ++ (newarray.typeOf aty).toString = ad)
    (r : ∀ h' a, Ext h h' → a = h.size → Av Z h' a (newarray.typeOf aty) vs → Exa Z h' a ad → Run p l e R s m args below meth c n0 P h' k' n' pc' Ls (.ref a :: st)) : Run p l e R s m args below meth c n0 P h k n pc Ls (.int z :: st) := by
  subst hp hk hn hvs
  intro T locs X eT N
  obtain ⟨T', h', cA, X', e', E, A, Ex, q⟩ := newPE X C.1 C.2.1 w eT (g := mkF m pc Ls (.int z :: st)) rfl (hb C.2.2.1 hd) rfl hz hcap hcb hk' hn' had
  obtain ⟨s₂, o, z, r⟩ := r h' _ E rfl (Av.new A) Ex T' _ X' e' N
  exact ⟨s₂, o, q _ z, r⟩
theorem s_newref (C : Ctx p l e R s m args below meth c Z own cd maxL ret nm) {K : String} {i : Nat} {z : Int32} {k' n' cap : Nat} (hd : decode cd pc = .ok (.anewarray i, 3)) (hp : pc + 3 = pc') (w1 : (Jvm.Cond.classLink own i K).before a0 Z = true) (w2 : (Jvm.Cond.arrayOver (.object K)).before a0 Z = true) (hz : ¬ z < 0) (hcap : z.toNatClampNeg ≤ cap) (hcb : cap * 8 ≤ 536870912) (hk : k + 1 = k') (hk' : k' ≤ R.cells) (hn : n + cap = n') (hn' : n' ≤ R.slots) (vs : List Value) (hvs : List.replicate z.toNatClampNeg Value.null = vs)
    (r : ∀ h' a cA, Ext h h' → a = h.size → Av Z h' a (.object K) vs → Arr Z h' a (newA cA (.object K) z) (.object K) → Ovr Z cA K → Run p l e R s m args below meth c n0 P h' k' n' pc' Ls (.ref a :: st)) : Run p l e R s m args below meth c n0 P h k n pc Ls (.int z :: st) := by
  subst hp hk hn hvs
  intro T locs X eT N
  obtain ⟨T', h', cA, X', e', E, A, O, q⟩ := newR X C.1 C.2.1 C.2.2.2.2.1 w1 w2 eT (g := mkF m pc Ls (.int z :: st)) rfl (hb C.2.2.1 hd) rfl hz hcap hcb hk' hn'
  obtain ⟨s₂, o, z, r⟩ := r h' _ cA E rfl (Av.new A) A O T' _ X' e' N
  exact ⟨s₂, o, q _ z, r⟩
theorem s_foldI (C : Ctx p l e R s m args below meth c Z own cd maxL ret nm) {x y : Int32} (hx : x = y) (r : Run p l e R s m args below meth c n0 P h k n pc Ls (.int y :: st)) : Run p l e R s m args below meth c n0 P h k n pc Ls (.int x :: st) := hx ▸ r
theorem s_foldL (C : Ctx p l e R s m args below meth c Z own cd maxL ret nm) {x y : Int64} (hx : x = y) (r : Run p l e R s m args below meth c n0 P h k n pc Ls (.long y :: st)) : Run p l e R s m args below meth c n0 P h k n pc Ls (.long x :: st) := hx ▸ r
theorem s_arraycopy (C : Ctx p l e R s m args below meth c Z own cd maxL ret nm) {i W : Nat} {ty : FieldType} {a b : Addr} {vs vd : List Value} {sp dp nn : Int32} (hd : decode cd pc = .ok (.invokestatic i, 3)) (hp : pc + 3 = pc') (w1 : (Jvm.Cond.methodLink own i Jvm.Stand.acN).before a0 Z = true) (w2 : (Jvm.Cond.native Jvm.Stand.acN).before a0 Z = true) (w3 : (Jvm.Cond.static Jvm.Stand.acN).before a0 Z = true) (w4 : (Jvm.Cond.initialized "java/lang/System").before a0 Z = true) (A : Av Z h a ty vs) (B : Av Z h b ty vd) (hty : refKind ty = false) (si di ni : Nat) (h1 : sp.toInt = (si : Int)) (h2 : dp.toInt = (di : Int)) (h3 : nn.toInt = (ni : Int)) (h4 : si + ni ≤ vs.length) (h5 : di + ni ≤ vd.length) (ge : n0 ≤ b) (hs : Ls.size = maxL) (hf : 1 ≤ R.frames) (hW : (st.map fun v => v.category).sum = W) (hlo : W + (nativeFrameWords "java/lang/System" "arraycopy" 5 + 11) ≤ R.locals) (vd' : List Value) (hvd : vd.take di ++ (vs.drop si).take ni ++ vd.drop (di + ni) = vd')
    (r : ∀ h', Keep h h' [b] → Av Z h' b ty vd' → Run p l e R s m args below meth c n0 P h' k n pc' Ls st) : Run p l e R s m args below meth c n0 P h k n pc Ls (.int nn :: .int dp :: .ref b :: .int sp :: .ref a :: st) := by
  subst hp hvd
  obtain ⟨e1, g1⟩ := idx_n h1
  obtain ⟨e2, g2⟩ := idx_n h2
  obtain ⟨e3, g3⟩ := idx_n h3
  have la := A
  have lb := B
  obtain ⟨_, -, -, la, -⟩ := la
  obtain ⟨_, -, -, lb, -⟩ := lb
  obtain ⟨ka, A'⟩ := A.arv Value.null
  obtain ⟨kb, B'⟩ := B.arv Value.null
  intro T locs X eT N
  have hus : (vs.drop si).take ni = (List.range nn.toNatClampNeg).map fun i => vs.getD (sp.toNatClampNeg + i) Value.null := by
    rw [e1, e3]
    apply List.ext_getElem
    · simp; omega
    · intro j q1 q2
      have q3 : j < ni := by simpa using q2
      simp [List.getD_eq_getElem?_getD, List.getElem?_eq_getElem (show si + j < vs.length by omega)]
  obtain ⟨T', h', L, X', e', N', K, V', q⟩ := cpA X C.1 C.2.1 C.2.2.2.2.1 w1 w2 w3 w4 eT A' B' (Or.inl ⟨rfl, hty⟩) g1 g2 g3 (by rw [e1, e3, (len32 la).1]; exact h4) (by rw [e2, e3, (len32 lb).1]; exact h5) hus (by rw [e2, e3]; exact h5) N ge (g := mkF m pc Ls (.int nn :: .int dp :: .ref b :: .int sp :: .ref a :: st)) rfl (by rw [C.2.2.2.1]; exact hs) rfl (hb C.2.2.1 hd) hf (W := W) (by show 2 * 0 + _ ≤ _; omega) hlo
  rw [e2, e3] at V'
  obtain ⟨s₂, o, z, r⟩ := r h' K (Av.of_arv V' (by rw [(len32 lb).1]; simp; omega)) T' _ X' e' N'
  exact ⟨s₂, o, q _ z, r⟩
theorem s_clone (C : Ctx p l e R s m args below meth c Z own cd maxL ret nm) {i W k' n' cap : Nat} {ty : FieldType} {ad : String} {a : Addr} {vs : List Value} (hd : decode cd pc = .ok (.invokevirtual i, 3)) (hp : pc + 3 = pc') (w1 : (Jvm.Cond.methodLink own i ⟨ad, "clone", "()Ljava/lang/Object;"⟩).before a0 Z = true) (w2 : (Jvm.Cond.sameMethod ad "java/lang/Object" "clone" "()Ljava/lang/Object;").before a0 Z = true) (w3 : (Jvm.Cond.native ⟨"java/lang/Object", "clone", "()Ljava/lang/Object;"⟩).before a0 Z = true) (w4 : (Jvm.Cond.instanceMethod ⟨"java/lang/Object", "clone", "()Ljava/lang/Object;"⟩).before a0 Z = true) (w5 : (Jvm.Cond.selects ad ⟨ad, "clone", "()Ljava/lang/Object;"⟩ ⟨"java/lang/Object", "clone", "()Ljava/lang/Object;"⟩).before a0 Z = true) (w6 : (Jvm.Cond.castable ad "java/lang/Cloneable").before a0 Z = true) (V : Av Z h a ty vs) (E : Exa Z h a ad) (hs : Ls.size = maxL) (hf : 1 ≤ R.frames) (hW : (st.map fun v => v.category).sum = W) (hl : W + 14 ≤ R.locals) (hcap : vs.length ≤ cap) (hk : k + 1 = k') (hk' : k' ≤ R.cells) (hn : n + cap = n') (hn' : n' ≤ R.slots)
    (r : ∀ h' b, Ext h h' → b = h.size → Av Z h' b ty vs → Exa Z h' b ad → Run p l e R s m args below meth c n0 P h' k' n' pc' Ls (.ref b :: st)) : Run p l e R s m args below meth c n0 P h k n pc Ls (.ref a :: st) := by
  subst hp hk hn
  have la := V
  obtain ⟨_, -, -, la, -⟩ := la
  obtain ⟨ka, A'⟩ := V.arv Value.null
  intro T locs X eT N
  obtain ⟨T', h', X', e', Ex, V', E', q⟩ := cloneH X C.1 C.2.1 C.2.2.2.2.1 w1 w2 w3 w4 w5 w6 eT A'.arh E (g := mkF m pc Ls (.ref a :: st)) rfl (by rw [C.2.2.2.1]; exact hs) rfl (hb C.2.2.1 hd) hf (W := W) (cap := cap) (by show 2 * 0 + _ ≤ _; omega) hl (by rw [(len32 la).1]; exact hcap) hk' hn'
  obtain ⟨s₂, o, z, r⟩ := r h' _ Ex rfl (Av.of_arv (dv := Value.null) V' (len32 la).1.symm) E' T' _ X' e' N
  exact ⟨s₂, o, q _ z, r⟩
theorem s_length (C : Ctx p l e R s m args below meth c Z own cd maxL ret nm) {ty : FieldType} {a : Addr} {vs : List Value} (hd : decode cd pc = .ok (.arraylength, 1)) (hp : pc + 1 = pc') (V : Av Z h a ty vs) (z : Int32) (hz : vs.length.toInt32 = z) (r : Run p l e R s m args below meth c n0 P h k n pc' Ls (.int z :: st)) : Run p l e R s m args below meth c n0 P h k n pc Ls (.ref a :: st) := by
  subst hp hz
  obtain ⟨cl, A, hs, hl, -⟩ := V
  have e1 : cl.slots.size = vs.length := by simp [hs]
  refine Run.pure (fun T locs X eT t z => X.arraylength C.1 (by rw [eT]; exact A.1) (State.isArrayOf_alike C.2.1.alike A.2.1) (g := mkF m pc Ls (.ref a :: st)) rfl rfl (hb C.2.2.1 hd) _ (by rw [e1]; exact z)) r
theorem s_iaload (C : Ctx p l e R s m args below meth c Z own cd maxL ret nm) {a : Addr} {vs : List Value} {j : Int32} {x : Int32} (hd : decode cd pc = .ok (.iaload, 1)) (hp : pc + 1 = pc') (V : Av Z h a .int vs) (i : Nat) (hi : j.toInt = (i : Int)) (hv : vs[i]? = some (.int x)) (r : Run p l e R s m args below meth c n0 P h k n pc' Ls ((.int x) :: st)) : Run p l e R s m args below meth c n0 P h k n pc Ls (.int j :: .ref a :: st) := by
  subst hp
  obtain ⟨cl, A, hs, hl, -⟩ := V
  obtain ⟨e1, e2⟩ := idx_n hi
  have e3 : i < vs.length := (List.getElem?_eq_some_iff.mp hv).1
  refine Run.pure (fun T locs X eT t z => X.iaload C.1 (by rw [eT]; exact A.1) (State.isArrayOf_alike C.2.1.alike A.2.1) A.2.2 (by rw [e1, hs]; rintro (q | q); exact e2 q; simp at q; omega) (by rw [e1, hs]; simpa using hv) (g := mkF m pc Ls (.int j :: .ref a :: st)) rfl rfl (hb C.2.2.1 hd) _ z) r
theorem s_laload (C : Ctx p l e R s m args below meth c Z own cd maxL ret nm) {a : Addr} {vs : List Value} {j : Int32} {x : Int64} (hd : decode cd pc = .ok (.laload, 1)) (hp : pc + 1 = pc') (V : Av Z h a .long vs) (i : Nat) (hi : j.toInt = (i : Int)) (hv : vs[i]? = some (.long x)) (r : Run p l e R s m args below meth c n0 P h k n pc' Ls ((.long x) :: st)) : Run p l e R s m args below meth c n0 P h k n pc Ls (.int j :: .ref a :: st) := by
  subst hp
  obtain ⟨cl, A, hs, hl, -⟩ := V
  obtain ⟨e1, e2⟩ := idx_n hi
  have e3 : i < vs.length := (List.getElem?_eq_some_iff.mp hv).1
  refine Run.pure (fun T locs X eT t z => X.laload C.1 (by rw [eT]; exact A.1) (State.isArrayOf_alike C.2.1.alike A.2.1) A.2.2 (by rw [e1, hs]; rintro (q | q); exact e2 q; simp at q; omega) (by rw [e1, hs]; simpa using hv) (g := mkF m pc Ls (.int j :: .ref a :: st)) rfl rfl (hb C.2.2.1 hd) _ z) r
theorem s_baload (C : Ctx p l e R s m args below meth c Z own cd maxL ret nm) {a : Addr} {vs : List Value} {j : Int32} {x : Int32} (hd : decode cd pc = .ok (.baload, 1)) (hp : pc + 1 = pc') (V : Av Z h a .byte vs) (i : Nat) (hi : j.toInt = (i : Int)) (hv : vs[i]? = some (.int x)) (r : Run p l e R s m args below meth c n0 P h k n pc' Ls ((.int x) :: st)) : Run p l e R s m args below meth c n0 P h k n pc Ls (.int j :: .ref a :: st) := by
  subst hp
  obtain ⟨cl, A, hs, hl, -⟩ := V
  obtain ⟨e1, e2⟩ := idx_n hi
  have e3 : i < vs.length := (List.getElem?_eq_some_iff.mp hv).1
  refine Run.pure (fun T locs X eT t z => X.baloadBytes C.1 (by rw [eT]; exact A.1) (State.isArrayOf_alike C.2.1.alike A.2.1) A.2.2 (by rw [e1, hs]; rintro (q | q); exact e2 q; simp at q; omega) (by rw [e1, hs]; simpa using hv) (g := mkF m pc Ls (.int j :: .ref a :: st)) rfl rfl (hb C.2.2.1 hd) _ z) r
theorem s_caload (C : Ctx p l e R s m args below meth c Z own cd maxL ret nm) {a : Addr} {vs : List Value} {j : Int32} {x : Int32} (hd : decode cd pc = .ok (.caload, 1)) (hp : pc + 1 = pc') (V : Av Z h a .char vs) (i : Nat) (hi : j.toInt = (i : Int)) (hv : vs[i]? = some (.int x)) (r : Run p l e R s m args below meth c n0 P h k n pc' Ls ((.int x) :: st)) : Run p l e R s m args below meth c n0 P h k n pc Ls (.int j :: .ref a :: st) := by
  subst hp
  obtain ⟨cl, A, hs, hl, -⟩ := V
  obtain ⟨e1, e2⟩ := idx_n hi
  have e3 : i < vs.length := (List.getElem?_eq_some_iff.mp hv).1
  refine Run.pure (fun T locs X eT t z => X.caload C.1 (by rw [eT]; exact A.1) (State.isArrayOf_alike C.2.1.alike A.2.1) A.2.2 (by rw [e1, hs]; rintro (q | q); exact e2 q; simp at q; omega) (by rw [e1, hs]; simpa using hv) (g := mkF m pc Ls (.int j :: .ref a :: st)) rfl rfl (hb C.2.2.1 hd) _ z) r
theorem s_aaload (C : Ctx p l e R s m args below meth c Z own cd maxL ret nm) {a : Addr} {vs : List Value} {j : Int32} {x : Value} {ty : FieldType} (hty : ty.isReference = true) (hd : decode cd pc = .ok (.aaload, 1)) (hp : pc + 1 = pc') (V : Av Z h a ty vs) (i : Nat) (hi : j.toInt = (i : Int)) (hv : vs[i]? = some x) (r : Run p l e R s m args below meth c n0 P h k n pc' Ls (x :: st)) : Run p l e R s m args below meth c n0 P h k n pc Ls (.int j :: .ref a :: st) := by
  subst hp
  obtain ⟨cl, A, hs, hl, -⟩ := V
  obtain ⟨e1, e2⟩ := idx_n hi
  have e3 : i < vs.length := (List.getElem?_eq_some_iff.mp hv).1
  refine Run.pure (fun T locs X eT t z => X.aaload C.1 (by rw [eT]; exact A.1) (State.isArrayOf_alike C.2.1.alike A.2.1) hty A.2.2 (by rw [e1, hs]; rintro (q | q); exact e2 q; simp at q; omega) (by rw [e1, hs]; simpa using hv) (g := mkF m pc Ls (.int j :: .ref a :: st)) rfl rfl (hb C.2.2.1 hd) _ z) r
theorem s_instNull (C : Ctx p l e R s m args below meth c Z own cd maxL ret nm) {i : Nat} (hd : decode cd pc = .ok (.instanceof i, 3)) (hp : pc + 3 = pc') (r : Run p l e R s m args below meth c n0 P h k n pc' Ls (.int 0 :: st)) : Run p l e R s m args below meth c n0 P h k n pc Ls (.null :: st) := by
  subst hp; exact Run.pure (fun T locs X _ t z => X.instanceofNull C.1 (g := mkF m pc Ls (.null :: st)) rfl rfl (hb C.2.2.1 hd) _ z) r
theorem s_instNo (C : Ctx p l e R s m args below meth c Z own cd maxL ret nm) {K Kc : String} {i : Nat} {a : Addr} (hd : decode cd pc = .ok (.instanceof i, 3)) (hp : pc + 3 = pc') (w : (Jvm.Cond.classLink own i K).before a0 Z = true) (E : Exa Z h a Kc) (F : ∃ c t, Z.vm.findClass Kc = some c ∧ Z.vm.findClass K = some t ∧ Z.vm.assignable c t = false) (r : Run p l e R s m args below meth c n0 P h k n pc' Ls (.int 0 :: st)) : Run p l e R s m args below meth c n0 P h k n pc Ls (.ref a :: st) := by
  subst hp; exact Run.warm (fun T locs X eT => instNo X C.1 C.2.1 C.2.2.2.2.1 w eT E F (g := mkF m pc Ls (.ref a :: st)) rfl rfl (hb C.2.2.1 hd)) r
theorem ns_root {O K : String} {q : Nat} (w : (Jvm.Cond.noSuperclass O).before a0 Z = true) (wi : (Jvm.Cond.instantiable K q).before a0 Z = true) (hn : O ≠ K) : NS Z O K := by
  obtain ⟨c, k, h1, h2, h3, -, -⟩ := Cond.noSuperclass_spec w
  obtain ⟨t, kt, g1, -⟩ := Cond.instantiable_spec wi
  exact ⟨c, t, h1, g1, fun fuel => by cases fuel with | zero => rfl | succ f => simp [Vm.isSubclassAux, ids_ne h1 g1 hn, h2, h3]⟩
theorem ns_no {C' S' K : String} {q : Nat} (w : (Jvm.Cond.superclass C' S').before a0 Z = true) (wi : (Jvm.Cond.instantiable K q).before a0 Z = true) (nn : NS Z C' K) (hn : C' ≠ K) : ∃ c t, Z.vm.findClass C' = some c ∧ Z.vm.findClass K = some t ∧ Z.vm.assignable c t = false := by
  obtain ⟨c, t, h0, g0, n3⟩ := nn
  obtain ⟨_, k, _, -, h2, -, -, h5, -⟩ := Cond.superclass_spec h0 w
  obtain ⟨t', kt, g1, g2, g5, g6, -⟩ := Cond.instantiable_spec wi
  cases g0.symm.trans g1
  refine ⟨c, t, h0, g0, ?_⟩
  have g7 : kt.isInterface = false := (Bool.or_eq_false_iff.mp g6).1
  show Z.vm.assignableAux 256 c t = false
  simp [Vm.assignableAux, ids_ne h0 g0 hn, h2, g2, h5, g5, g7, Vm.isSubclass, n3]
theorem s_aastore (C : Ctx p l e R s m args below meth c Z own cd maxL ret nm) {a : Addr} {ty : FieldType} {vs : List Value} {j : Int32} {v : Value} (hty : ty.isReference = true) (hd : decode cd pc = .ok (.aastore, 1)) (hp : pc + 1 = pc') (V : Av Z h a ty vs) (F : Sto Z h a v) (hfv : fits ty v = true) (i : Nat) (hi : j.toInt = (i : Int)) (hlt : i < vs.length) (ha : n0 ≤ a) (vs' : List Value) (hvs : vs.set i v = vs') (r : ∀ h', Wr h h' a i v → Av Z h' a ty vs' → Run p l e R s m args below meth c n0 P h' k n pc' Ls st) : Run p l e R s m args below meth c n0 P h k n pc Ls (v :: .int j :: .ref a :: st) := by
  subst hp hvs
  have V0 := V
  obtain ⟨cl, A, hs, hl, -⟩ := V
  obtain ⟨e1, e2⟩ := idx_n hi
  subst e1
  intro T locs X eT N
  obtain ⟨T', h', X', e', W, q⟩ := stR X C.1 C.2.1 eT A (j := j) (by rw [hs]; rintro (q | q); exact e2 q; simp at q; omega) hty F (g := mkF m pc Ls (v :: .int j :: .ref a :: st)) rfl rfl (hb C.2.2.1 hd)
  obtain ⟨s₂, o, z, r⟩ := r h' W (V0.set W hfv) T' _ X' e' (Fr.snoc X' N ha)
  exact ⟨s₂, o, q _ z, r⟩
theorem s_baloadC (C : Ctx p l e R s m args below meth c Z own cd maxL ret nm) {a : Addr} {cl : Cell} {j x : Int32} (hd : decode cd pc = .ok (.baload, 1)) (hp : pc + 1 = pc') (A : Arr Z h a cl .byte) (hin : ¬ (j < 0 ∨ cl.slots.size ≤ j.toNatClampNeg)) (hv : cl.slots[j.toNatClampNeg]? = some (.int x)) (r : Run p l e R s m args below meth c n0 P h k n pc' Ls (.int x :: st)) : Run p l e R s m args below meth c n0 P h k n pc Ls (.int j :: .ref a :: st) := by
  subst hp
  exact Run.pure (fun T locs X eT t z => X.baloadBytes C.1 (by rw [eT]; exact A.1) (State.isArrayOf_alike C.2.1.alike A.2.1) A.2.2 hin hv (g := mkF m pc Ls (.int j :: .ref a :: st)) rfl rfl (hb C.2.2.1 hd) _ z) r
theorem s_aaloadC (C : Ctx p l e R s m args below meth c Z own cd maxL ret nm) {a : Addr} {cl : Cell} {ty : FieldType} {j : Int32} {x : Value} (hty : ty.isReference = true) (hd : decode cd pc = .ok (.aaload, 1)) (hp : pc + 1 = pc') (A : Arr Z h a cl ty) (hin : ¬ (j < 0 ∨ cl.slots.size ≤ j.toNatClampNeg)) (hv : cl.slots[j.toNatClampNeg]? = some x) (r : Run p l e R s m args below meth c n0 P h k n pc' Ls (x :: st)) : Run p l e R s m args below meth c n0 P h k n pc Ls (.int j :: .ref a :: st) := by
  subst hp
  exact Run.pure (fun T locs X eT t z => X.aaload C.1 (by rw [eT]; exact A.1) (State.isArrayOf_alike C.2.1.alike A.2.1) hty A.2.2 hin hv (g := mkF m pc Ls (.int j :: .ref a :: st)) rfl rfl (hb C.2.2.1 hd) _ z) r
theorem s_iastore (C : Ctx p l e R s m args below meth c Z own cd maxL ret nm) {a : Addr} {vs : List Value} {j : Int32} {x : Int32} (hd : decode cd pc = .ok (.iastore, 1)) (hp : pc + 1 = pc') (V : Av Z h a .int vs) (i : Nat) (hi : j.toInt = (i : Int)) (hlt : i < vs.length) (ha : n0 ≤ a) (vs' : List Value) (hvs : vs.set i (.int x) = vs') (r : ∀ h', Wr h h' a i (.int x) → Av Z h' a .int vs' → Run p l e R s m args below meth c n0 P h' k n pc' Ls st) : Run p l e R s m args below meth c n0 P h k n pc Ls ((.int x) :: .int j :: .ref a :: st) := by
  subst hp hvs
  have V0 := V
  obtain ⟨cl, A, hs, hl, -⟩ := V
  obtain ⟨e1, e2⟩ := idx_n hi
  subst e1
  intro T locs X eT N
  obtain ⟨T', h', X', e', W, q⟩ := stI X C.1 C.2.1 eT A (j := j) (by rw [hs]; rintro (q | q); exact e2 q; simp at q; omega) (g := mkF m pc Ls ((.int x) :: .int j :: .ref a :: st)) rfl rfl (hb C.2.2.1 hd)
  obtain ⟨s₂, o, z, r⟩ := r h' W (V0.set W rfl) T' _ X' e' (Fr.snoc X' N ha)
  exact ⟨s₂, o, q _ z, r⟩
theorem s_lastore (C : Ctx p l e R s m args below meth c Z own cd maxL ret nm) {a : Addr} {vs : List Value} {j : Int32} {x : Int64} (hd : decode cd pc = .ok (.lastore, 1)) (hp : pc + 1 = pc') (V : Av Z h a .long vs) (i : Nat) (hi : j.toInt = (i : Int)) (hlt : i < vs.length) (ha : n0 ≤ a) (vs' : List Value) (hvs : vs.set i (.long x) = vs') (r : ∀ h', Wr h h' a i (.long x) → Av Z h' a .long vs' → Run p l e R s m args below meth c n0 P h' k n pc' Ls st) : Run p l e R s m args below meth c n0 P h k n pc Ls ((.long x) :: .int j :: .ref a :: st) := by
  subst hp hvs
  have V0 := V
  obtain ⟨cl, A, hs, hl, -⟩ := V
  obtain ⟨e1, e2⟩ := idx_n hi
  subst e1
  intro T locs X eT N
  obtain ⟨T', h', X', e', W, q⟩ := stJ X C.1 C.2.1 eT A (j := j) (by rw [hs]; rintro (q | q); exact e2 q; simp at q; omega) (g := mkF m pc Ls ((.long x) :: .int j :: .ref a :: st)) rfl rfl (hb C.2.2.1 hd)
  obtain ⟨s₂, o, z, r⟩ := r h' W (V0.set W rfl) T' _ X' e' (Fr.snoc X' N ha)
  exact ⟨s₂, o, q _ z, r⟩
theorem s_bastore (C : Ctx p l e R s m args below meth c Z own cd maxL ret nm) {a : Addr} {vs : List Value} {j : Int32} {x : Int32} (hd : decode cd pc = .ok (.bastore, 1)) (hp : pc + 1 = pc') (V : Av Z h a .byte vs) (i : Nat) (hi : j.toInt = (i : Int)) (hlt : i < vs.length) (ha : n0 ≤ a) (vs' : List Value) (hvs : vs.set i (.int x.toInt8.toInt32) = vs') (r : ∀ h', Wr h h' a i (.int x.toInt8.toInt32) → Av Z h' a .byte vs' → Run p l e R s m args below meth c n0 P h' k n pc' Ls st) : Run p l e R s m args below meth c n0 P h k n pc Ls ((.int x) :: .int j :: .ref a :: st) := by
  subst hp hvs
  have V0 := V
  obtain ⟨cl, A, hs, hl, -⟩ := V
  obtain ⟨e1, e2⟩ := idx_n hi
  subst e1
  intro T locs X eT N
  obtain ⟨T', h', X', e', W, q⟩ := stB X C.1 C.2.1 eT A (j := j) (by rw [hs]; rintro (q | q); exact e2 q; simp at q; omega) (g := mkF m pc Ls ((.int x) :: .int j :: .ref a :: st)) rfl rfl (hb C.2.2.1 hd)
  obtain ⟨s₂, o, z, r⟩ := r h' W (V0.set W (fits_nar_byte _)) T' _ X' e' (Fr.snoc X' N ha)
  exact ⟨s₂, o, q _ z, r⟩
theorem s_castore (C : Ctx p l e R s m args below meth c Z own cd maxL ret nm) {a : Addr} {vs : List Value} {j : Int32} {x : Int32} (hd : decode cd pc = .ok (.castore, 1)) (hp : pc + 1 = pc') (V : Av Z h a .char vs) (i : Nat) (hi : j.toInt = (i : Int)) (hlt : i < vs.length) (ha : n0 ≤ a) (vs' : List Value) (hvs : vs.set i (.int x.toUInt32.toUInt16.toUInt32.toInt32) = vs') (r : ∀ h', Wr h h' a i (.int x.toUInt32.toUInt16.toUInt32.toInt32) → Av Z h' a .char vs' → Run p l e R s m args below meth c n0 P h' k n pc' Ls st) : Run p l e R s m args below meth c n0 P h k n pc Ls ((.int x) :: .int j :: .ref a :: st) := by
  subst hp hvs
  have V0 := V
  obtain ⟨cl, A, hs, hl, -⟩ := V
  obtain ⟨e1, e2⟩ := idx_n hi
  subst e1
  intro T locs X eT N
  obtain ⟨T', h', X', e', W, q⟩ := stC X C.1 C.2.1 eT A (j := j) (by rw [hs]; rintro (q | q); exact e2 q; simp at q; omega) (g := mkF m pc Ls ((.int x) :: .int j :: .ref a :: st)) rfl rfl (hb C.2.2.1 hd)
  obtain ⟨s₂, o, z, r⟩ := r h' W (V0.set W (fits_nar_char _)) T' _ X' e' (Fr.snoc X' N ha)
  exact ⟨s₂, o, q _ z, r⟩
end Steps
end Own
end Jvm.Pilot.@@N@@

namespace Jvm.Pilot.@@N@@
open Jvm Jvm.ClassFile Sem Op Lib Jvm.Free Jvm.Stand Jvm.LawKit Jvm.RoadKit Bundle Jvm.Pilot.@@N@@.Jvm.D
namespace Own
abbrev Hw (a0 : Array Value) (Z : State) : Prop := ∀ d ∈ tables_1, d.before a0 Z = true
theorem w0 {a0 : Array Value} {Z : State} (hw : Hw a0 Z) : (Jvm.Cond.constant "com/example/dewk/dewk/xml/XmlNameIsNameStartPinLaw" (20 : Nat) (65535 : Int32)).before a0 Z = true := hw _ (List.mem_of_getElem? (i := 0) rfl)
theorem w1 {a0 : Array Value} {Z : State} (hw : Hw a0 Z) : (Jvm.Cond.methodLink "com/example/dewk/dewk/xml/XmlNameIsNameStartPinLaw" (21 : Nat) ({ cls := "com/example/dewk/dewk/xml/XmlName", name := "isNameStart", desc := "(C)Z" } : Jvm.MethodName)).before a0 Z = true := hw _ (List.mem_of_getElem? (i := 1) rfl)
theorem w2 {a0 : Array Value} {Z : State} (hw : Hw a0 Z) : (Jvm.Cond.static ({ cls := "com/example/dewk/dewk/xml/XmlName", name := "isNameStart", desc := "(C)Z" } : Jvm.MethodName)).before a0 Z = true := hw _ (List.mem_of_getElem? (i := 2) rfl)
theorem w3 {a0 : Array Value} {Z : State} (hw : Hw a0 Z) : (Jvm.Cond.initialized "com/example/dewk/dewk/xml/XmlName").before a0 Z = true := hw _ (List.mem_of_getElem? (i := 3) rfl)
theorem w4 {a0 : Array Value} {Z : State} (hw : Hw a0 Z) : (Jvm.Cond.code ({ cls := "com/example/dewk/dewk/xml/XmlName", name := "isNameStart", desc := "(C)Z" } : Jvm.MethodName) prog_135_method_2_code (1 : Nat) (Option.some Jvm.ClassFile.FieldType.boolean)).before a0 Z = true := hw _ (List.mem_of_getElem? (i := 4) rfl)
theorem w5 {a0 : Array Value} {Z : State} (hw : Hw a0 Z) : (Jvm.Cond.fieldLink "com/example/dewk/dewk/xml/XmlName" (51 : Nat) "com/example/dewk/dewk/xml/XmlName" "ASCII_NAMES" "[B").before a0 Z = true := hw _ (List.mem_of_getElem? (i := 5) rfl)
theorem w6 {a0 : Array Value} {Z : State} (hw : Hw a0 Z) : (Jvm.Cond.laysStatic "com/example/dewk/dewk/xml/XmlName" "ASCII_NAMES" "[B").before a0 Z = true := hw _ (List.mem_of_getElem? (i := 6) rfl)
theorem w7 {a0 : Array Value} {Z : State} (hw : Hw a0 Z) : (Jvm.Cond.methodLink "com/example/dewk/dewk/xml/XmlNameIsNameStartPinLaw" (27 : Nat) ({ cls := "com/example/dewk/dewk/xml/XmlNameIsNameStartPinLaw", name := "reference", desc := "(I)Z" } : Jvm.MethodName)).before a0 Z = true := hw _ (List.mem_of_getElem? (i := 7) rfl)
theorem w8 {a0 : Array Value} {Z : State} (hw : Hw a0 Z) : (Jvm.Cond.static ({ cls := "com/example/dewk/dewk/xml/XmlNameIsNameStartPinLaw", name := "reference", desc := "(I)Z" } : Jvm.MethodName)).before a0 Z = true := hw _ (List.mem_of_getElem? (i := 8) rfl)
theorem w9 {a0 : Array Value} {Z : State} (hw : Hw a0 Z) : (Jvm.Cond.initialized "com/example/dewk/dewk/xml/XmlNameIsNameStartPinLaw").before a0 Z = true := hw _ (List.mem_of_getElem? (i := 9) rfl)
theorem w10 {a0 : Array Value} {Z : State} (hw : Hw a0 Z) : (Jvm.Cond.code ({ cls := "com/example/dewk/dewk/xml/XmlNameIsNameStartPinLaw", name := "reference", desc := "(I)Z" } : Jvm.MethodName) method_3_code (1 : Nat) (Option.some Jvm.ClassFile.FieldType.boolean)).before a0 Z = true := hw _ (List.mem_of_getElem? (i := 10) rfl)
theorem w11 {a0 : Array Value} {Z : State} (hw : Hw a0 Z) : (Jvm.Cond.methodLink "com/example/dewk/dewk/xml/XmlNameIsNameStartPinLaw" (7 : Nat) ({ cls := "com/example/dewk/dewk/xml/XmlNameIsNameStartPinLaw", name := "in", desc := "(III)Z" } : Jvm.MethodName)).before a0 Z = true := hw _ (List.mem_of_getElem? (i := 11) rfl)
theorem w12 {a0 : Array Value} {Z : State} (hw : Hw a0 Z) : (Jvm.Cond.static ({ cls := "com/example/dewk/dewk/xml/XmlNameIsNameStartPinLaw", name := "in", desc := "(III)Z" } : Jvm.MethodName)).before a0 Z = true := hw _ (List.mem_of_getElem? (i := 12) rfl)
theorem w13 {a0 : Array Value} {Z : State} (hw : Hw a0 Z) : (Jvm.Cond.code ({ cls := "com/example/dewk/dewk/xml/XmlNameIsNameStartPinLaw", name := "in", desc := "(III)Z" } : Jvm.MethodName) method_2_code (3 : Nat) (Option.some Jvm.ClassFile.FieldType.boolean)).before a0 Z = true := hw _ (List.mem_of_getElem? (i := 13) rfl)
theorem w14 {a0 : Array Value} {Z : State} (hw : Hw a0 Z) : (Jvm.Cond.constant "com/example/dewk/dewk/xml/XmlNameIsNameStartPinLaw" (13 : Nat) (55295 : Int32)).before a0 Z = true := hw _ (List.mem_of_getElem? (i := 14) rfl)
theorem w15 {a0 : Array Value} {Z : State} (hw : Hw a0 Z) : (Jvm.Cond.constant "com/example/dewk/dewk/xml/XmlNameIsNameStartPinLaw" (14 : Nat) (55296 : Int32)).before a0 Z = true := hw _ (List.mem_of_getElem? (i := 15) rfl)
theorem w16 {a0 : Array Value} {Z : State} (hw : Hw a0 Z) : (Jvm.Cond.constant "com/example/dewk/dewk/xml/XmlNameIsNameStartPinLaw" (15 : Nat) (56191 : Int32)).before a0 Z = true := hw _ (List.mem_of_getElem? (i := 16) rfl)
theorem w17 {a0 : Array Value} {Z : State} (hw : Hw a0 Z) : (Jvm.Cond.constant "com/example/dewk/dewk/xml/XmlNameIsNameStartPinLaw" (16 : Nat) (63744 : Int32)).before a0 Z = true := hw _ (List.mem_of_getElem? (i := 17) rfl)
theorem w18 {a0 : Array Value} {Z : State} (hw : Hw a0 Z) : (Jvm.Cond.constant "com/example/dewk/dewk/xml/XmlNameIsNameStartPinLaw" (17 : Nat) (64975 : Int32)).before a0 Z = true := hw _ (List.mem_of_getElem? (i := 18) rfl)
theorem w19 {a0 : Array Value} {Z : State} (hw : Hw a0 Z) : (Jvm.Cond.constant "com/example/dewk/dewk/xml/XmlNameIsNameStartPinLaw" (18 : Nat) (65008 : Int32)).before a0 Z = true := hw _ (List.mem_of_getElem? (i := 19) rfl)
theorem w20 {a0 : Array Value} {Z : State} (hw : Hw a0 Z) : (Jvm.Cond.constant "com/example/dewk/dewk/xml/XmlNameIsNameStartPinLaw" (19 : Nat) (65533 : Int32)).before a0 Z = true := hw _ (List.mem_of_getElem? (i := 20) rfl)
theorem w21 {a0 : Array Value} {Z : State} (hw : Hw a0 Z) : (Jvm.Cond.constant "com/example/dewk/dewk/xml/XmlName" (55 : Nat) (56191 : Int32)).before a0 Z = true := hw _ (List.mem_of_getElem? (i := 21) rfl)
theorem w22 {a0 : Array Value} {Z : State} (hw : Hw a0 Z) : (Jvm.Cond.constant "com/example/dewk/dewk/xml/XmlName" (56 : Nat) (63744 : Int32)).before a0 Z = true := hw _ (List.mem_of_getElem? (i := 22) rfl)
theorem w23 {a0 : Array Value} {Z : State} (hw : Hw a0 Z) : (Jvm.Cond.constant "com/example/dewk/dewk/xml/XmlName" (57 : Nat) (64975 : Int32)).before a0 Z = true := hw _ (List.mem_of_getElem? (i := 23) rfl)
theorem w24 {a0 : Array Value} {Z : State} (hw : Hw a0 Z) : (Jvm.Cond.constant "com/example/dewk/dewk/xml/XmlName" (58 : Nat) (65008 : Int32)).before a0 Z = true := hw _ (List.mem_of_getElem? (i := 24) rfl)
theorem w25 {a0 : Array Value} {Z : State} (hw : Hw a0 Z) : (Jvm.Cond.constant "com/example/dewk/dewk/xml/XmlName" (59 : Nat) (65533 : Int32)).before a0 Z = true := hw _ (List.mem_of_getElem? (i := 25) rfl)
theorem ef3 (m : MethodId) (x0 : Int32) (x1 : Int32) (x2 : Int32) : entryFrame m #[(.int x0), (.int x1), (.int x2)] 3 = mkF m 0 #[.val (.int x0), .val (.int x1), .val (.int x2)] [] := by first | (simp [entryFrame, mkF, argsToLocals, Value.category]; done) | rfl
theorem pn3 : plainFor (⟨"com/example/dewk/dewk/xml/XmlNameIsNameStartPinLaw", "in", "(III)Z"⟩ : MethodName) = true := plainFor_of_name (by first | (simp [plainName, overriddenIn]; done) | decide +kernel)
theorem d3_0 : decode method_2_code 0 = .ok (.iload_n 0, 1) := by decide +kernel
theorem d3_1 : decode method_2_code 1 = .ok (.iload_n 1, 1) := by decide +kernel
theorem d3_2 : decode method_2_code 2 = .ok (.if_icmp .lt 12, 3) := by decide +kernel
theorem d3_14 : decode method_2_code 14 = .ok (.iconst 0, 1) := by decide +kernel
theorem d3_15 : decode method_2_code 15 = .ok (.ireturn, 1) := by decide +kernel
theorem d3_5 : decode method_2_code 5 = .ok (.iload_n 0, 1) := by decide +kernel
theorem d3_6 : decode method_2_code 6 = .ok (.iload_n 2, 1) := by decide +kernel
theorem d3_7 : decode method_2_code 7 = .ok (.if_icmp .gt 7, 3) := by decide +kernel
theorem d3_10 : decode method_2_code 10 = .ok (.iconst 1, 1) := by decide +kernel
theorem d3_11 : decode method_2_code 11 = .ok (.goto 4, 3) := by decide +kernel
theorem ef2 (m : MethodId) (x0 : Int32) : entryFrame m #[(.int x0)] 1 = mkF m 0 #[.val (.int x0)] [] := by first | (simp [entryFrame, mkF, argsToLocals, Value.category]; done) | rfl
theorem pn2 : plainFor (⟨"com/example/dewk/dewk/xml/XmlNameIsNameStartPinLaw", "reference", "(I)Z"⟩ : MethodName) = true := plainFor_of_name (by first | (simp [plainName, overriddenIn]; done) | decide +kernel)
theorem d2_161 : decode method_3_code 161 = .ok (.iload_n 0, 1) := by decide +kernel
theorem d2_162 : decode method_3_code 162 = .ok (.ldc 16, 2) := by decide +kernel
theorem d2_164 : decode method_3_code 164 = .ok (.ldc 17, 2) := by decide +kernel
theorem d2_166 : decode method_3_code 166 = .ok (.invokestatic 7, 3) := by decide +kernel
theorem pd2 : parseMethodDescriptor "(III)Z" = some ⟨[.int, .int, .int], some .boolean⟩ := by decide +kernel
theorem d2_169 : decode method_3_code 169 = .ok (.ifCond .ne 14, 3) := by decide +kernel
theorem d2_183 : decode method_3_code 183 = .ok (.iconst 1, 1) := by decide +kernel
theorem d2_184 : decode method_3_code 184 = .ok (.goto 4, 3) := by decide +kernel
theorem d2_188 : decode method_3_code 188 = .ok (.ireturn, 1) := by decide +kernel
theorem d2_172 : decode method_3_code 172 = .ok (.iload_n 0, 1) := by decide +kernel
theorem d2_173 : decode method_3_code 173 = .ok (.ldc 18, 2) := by decide +kernel
theorem d2_175 : decode method_3_code 175 = .ok (.ldc 19, 2) := by decide +kernel
theorem d2_177 : decode method_3_code 177 = .ok (.invokestatic 7, 3) := by decide +kernel
theorem d2_180 : decode method_3_code 180 = .ok (.ifCond .eq 7, 3) := by decide +kernel
theorem d2_187 : decode method_3_code 187 = .ok (.iconst 0, 1) := by decide +kernel
theorem d2_138 : decode method_3_code 138 = .ok (.iload_n 0, 1) := by decide +kernel
theorem d2_139 : decode method_3_code 139 = .ok (.sipush 12289, 3) := by decide +kernel
theorem d2_142 : decode method_3_code 142 = .ok (.ldc 13, 2) := by decide +kernel
theorem d2_144 : decode method_3_code 144 = .ok (.invokestatic 7, 3) := by decide +kernel
theorem d2_147 : decode method_3_code 147 = .ok (.ifCond .ne 36, 3) := by decide +kernel
theorem d2_150 : decode method_3_code 150 = .ok (.iload_n 0, 1) := by decide +kernel
theorem d2_151 : decode method_3_code 151 = .ok (.ldc 14, 2) := by decide +kernel
theorem d2_153 : decode method_3_code 153 = .ok (.ldc 15, 2) := by decide +kernel
theorem d2_155 : decode method_3_code 155 = .ok (.invokestatic 7, 3) := by decide +kernel
theorem d2_158 : decode method_3_code 158 = .ok (.ifCond .ne 25, 3) := by decide +kernel
theorem d2_112 : decode method_3_code 112 = .ok (.iload_n 0, 1) := by decide +kernel
theorem d2_113 : decode method_3_code 113 = .ok (.sipush 8304, 3) := by decide +kernel
theorem d2_116 : decode method_3_code 116 = .ok (.sipush 8591, 3) := by decide +kernel
theorem d2_119 : decode method_3_code 119 = .ok (.invokestatic 7, 3) := by decide +kernel
theorem d2_122 : decode method_3_code 122 = .ok (.ifCond .ne 61, 3) := by decide +kernel
theorem d2_125 : decode method_3_code 125 = .ok (.iload_n 0, 1) := by decide +kernel
theorem d2_126 : decode method_3_code 126 = .ok (.sipush 11264, 3) := by decide +kernel
theorem d2_129 : decode method_3_code 129 = .ok (.sipush 12271, 3) := by decide +kernel
theorem d2_132 : decode method_3_code 132 = .ok (.invokestatic 7, 3) := by decide +kernel
theorem d2_135 : decode method_3_code 135 = .ok (.ifCond .ne 48, 3) := by decide +kernel
theorem d2_86 : decode method_3_code 86 = .ok (.iload_n 0, 1) := by decide +kernel
theorem d2_87 : decode method_3_code 87 = .ok (.sipush 895, 3) := by decide +kernel
theorem d2_90 : decode method_3_code 90 = .ok (.sipush 8191, 3) := by decide +kernel
theorem d2_93 : decode method_3_code 93 = .ok (.invokestatic 7, 3) := by decide +kernel
theorem d2_96 : decode method_3_code 96 = .ok (.ifCond .ne 87, 3) := by decide +kernel
theorem d2_99 : decode method_3_code 99 = .ok (.iload_n 0, 1) := by decide +kernel
theorem d2_100 : decode method_3_code 100 = .ok (.sipush 8204, 3) := by decide +kernel
theorem d2_103 : decode method_3_code 103 = .ok (.sipush 8205, 3) := by decide +kernel
theorem d2_106 : decode method_3_code 106 = .ok (.invokestatic 7, 3) := by decide +kernel
theorem d2_109 : decode method_3_code 109 = .ok (.ifCond .ne 74, 3) := by decide +kernel
theorem d2_60 : decode method_3_code 60 = .ok (.iload_n 0, 1) := by decide +kernel
theorem d2_61 : decode method_3_code 61 = .ok (.sipush 248, 3) := by decide +kernel
theorem d2_64 : decode method_3_code 64 = .ok (.sipush 767, 3) := by decide +kernel
theorem d2_67 : decode method_3_code 67 = .ok (.invokestatic 7, 3) := by decide +kernel
theorem d2_70 : decode method_3_code 70 = .ok (.ifCond .ne 113, 3) := by decide +kernel
theorem d2_73 : decode method_3_code 73 = .ok (.iload_n 0, 1) := by decide +kernel
theorem d2_74 : decode method_3_code 74 = .ok (.sipush 880, 3) := by decide +kernel
theorem d2_77 : decode method_3_code 77 = .ok (.sipush 893, 3) := by decide +kernel
theorem d2_80 : decode method_3_code 80 = .ok (.invokestatic 7, 3) := by decide +kernel
theorem d2_83 : decode method_3_code 83 = .ok (.ifCond .ne 100, 3) := by decide +kernel
theorem d2_34 : decode method_3_code 34 = .ok (.iload_n 0, 1) := by decide +kernel
theorem d2_35 : decode method_3_code 35 = .ok (.sipush 192, 3) := by decide +kernel
theorem d2_38 : decode method_3_code 38 = .ok (.sipush 214, 3) := by decide +kernel
theorem d2_41 : decode method_3_code 41 = .ok (.invokestatic 7, 3) := by decide +kernel
theorem d2_44 : decode method_3_code 44 = .ok (.ifCond .ne 139, 3) := by decide +kernel
theorem d2_47 : decode method_3_code 47 = .ok (.iload_n 0, 1) := by decide +kernel
theorem d2_48 : decode method_3_code 48 = .ok (.sipush 216, 3) := by decide +kernel
theorem d2_51 : decode method_3_code 51 = .ok (.sipush 246, 3) := by decide +kernel
theorem d2_54 : decode method_3_code 54 = .ok (.invokestatic 7, 3) := by decide +kernel
theorem d2_57 : decode method_3_code 57 = .ok (.ifCond .ne 126, 3) := by decide +kernel
theorem d2_0 : decode method_3_code 0 = .ok (.iload_n 0, 1) := by decide +kernel
theorem d2_1 : decode method_3_code 1 = .ok (.bipush 58, 2) := by decide +kernel
theorem d2_3 : decode method_3_code 3 = .ok (.if_icmp .eq 180, 3) := by decide +kernel
theorem d2_6 : decode method_3_code 6 = .ok (.iload_n 0, 1) := by decide +kernel
theorem d2_7 : decode method_3_code 7 = .ok (.bipush 65, 2) := by decide +kernel
theorem d2_9 : decode method_3_code 9 = .ok (.bipush 90, 2) := by decide +kernel
theorem d2_11 : decode method_3_code 11 = .ok (.invokestatic 7, 3) := by decide +kernel
theorem d2_14 : decode method_3_code 14 = .ok (.ifCond .ne 169, 3) := by decide +kernel
theorem d2_17 : decode method_3_code 17 = .ok (.iload_n 0, 1) := by decide +kernel
theorem d2_18 : decode method_3_code 18 = .ok (.bipush 95, 2) := by decide +kernel
theorem d2_20 : decode method_3_code 20 = .ok (.if_icmp .eq 163, 3) := by decide +kernel
theorem d2_23 : decode method_3_code 23 = .ok (.iload_n 0, 1) := by decide +kernel
theorem d2_24 : decode method_3_code 24 = .ok (.bipush 97, 2) := by decide +kernel
theorem d2_26 : decode method_3_code 26 = .ok (.bipush 122, 2) := by decide +kernel
theorem d2_28 : decode method_3_code 28 = .ok (.invokestatic 7, 3) := by decide +kernel
theorem d2_31 : decode method_3_code 31 = .ok (.ifCond .ne 152, 3) := by decide +kernel
theorem ef1 (m : MethodId) (x0 : Int32) : entryFrame m #[(.int x0)] 1 = mkF m 0 #[.val (.int x0)] [] := by first | (simp [entryFrame, mkF, argsToLocals, Value.category]; done) | rfl
theorem pn1 : plainFor (⟨"com/example/dewk/dewk/xml/XmlName", "isNameStart", "(C)Z"⟩ : MethodName) = true := plainFor_of_name (by first | (simp [plainName, overriddenIn]; done) | decide +kernel)
theorem d1_139 : decode prog_135_method_2_code 139 = .ok (.iload_n 0, 1) := by decide +kernel
theorem d1_140 : decode prog_135_method_2_code 140 = .ok (.ldc 58, 2) := by decide +kernel
theorem d1_142 : decode prog_135_method_2_code 142 = .ok (.if_icmp .lt 13, 3) := by decide +kernel
theorem d1_155 : decode prog_135_method_2_code 155 = .ok (.iconst 0, 1) := by decide +kernel
theorem d1_156 : decode prog_135_method_2_code 156 = .ok (.ireturn, 1) := by decide +kernel
theorem d1_145 : decode prog_135_method_2_code 145 = .ok (.iload_n 0, 1) := by decide +kernel
theorem d1_146 : decode prog_135_method_2_code 146 = .ok (.ldc 59, 2) := by decide +kernel
theorem d1_148 : decode prog_135_method_2_code 148 = .ok (.if_icmp .gt 7, 3) := by decide +kernel
theorem d1_151 : decode prog_135_method_2_code 151 = .ok (.iconst 1, 1) := by decide +kernel
theorem d1_152 : decode prog_135_method_2_code 152 = .ok (.goto 4, 3) := by decide +kernel
theorem d1_127 : decode prog_135_method_2_code 127 = .ok (.iload_n 0, 1) := by decide +kernel
theorem d1_128 : decode prog_135_method_2_code 128 = .ok (.ldc 56, 2) := by decide +kernel
theorem d1_130 : decode prog_135_method_2_code 130 = .ok (.if_icmp .lt 9, 3) := by decide +kernel
theorem d1_133 : decode prog_135_method_2_code 133 = .ok (.iload_n 0, 1) := by decide +kernel
theorem d1_134 : decode prog_135_method_2_code 134 = .ok (.ldc 57, 2) := by decide +kernel
theorem d1_136 : decode prog_135_method_2_code 136 = .ok (.if_icmp .le 15, 3) := by decide +kernel
theorem d1_114 : decode prog_135_method_2_code 114 = .ok (.iload_n 0, 1) := by decide +kernel
theorem d1_115 : decode prog_135_method_2_code 115 = .ok (.sipush 12289, 3) := by decide +kernel
theorem d1_118 : decode prog_135_method_2_code 118 = .ok (.if_icmp .lt 9, 3) := by decide +kernel
theorem d1_121 : decode prog_135_method_2_code 121 = .ok (.iload_n 0, 1) := by decide +kernel
theorem d1_122 : decode prog_135_method_2_code 122 = .ok (.ldc 55, 2) := by decide +kernel
theorem d1_124 : decode prog_135_method_2_code 124 = .ok (.if_icmp .le 27, 3) := by decide +kernel
theorem d1_100 : decode prog_135_method_2_code 100 = .ok (.iload_n 0, 1) := by decide +kernel
theorem d1_101 : decode prog_135_method_2_code 101 = .ok (.sipush 11264, 3) := by decide +kernel
theorem d1_104 : decode prog_135_method_2_code 104 = .ok (.if_icmp .lt 10, 3) := by decide +kernel
theorem d1_107 : decode prog_135_method_2_code 107 = .ok (.iload_n 0, 1) := by decide +kernel
theorem d1_108 : decode prog_135_method_2_code 108 = .ok (.sipush 12271, 3) := by decide +kernel
theorem d1_111 : decode prog_135_method_2_code 111 = .ok (.if_icmp .le 40, 3) := by decide +kernel
theorem d1_72 : decode prog_135_method_2_code 72 = .ok (.iload_n 0, 1) := by decide +kernel
theorem d1_73 : decode prog_135_method_2_code 73 = .ok (.sipush 8204, 3) := by decide +kernel
theorem d1_76 : decode prog_135_method_2_code 76 = .ok (.if_icmp .eq 75, 3) := by decide +kernel
theorem d1_79 : decode prog_135_method_2_code 79 = .ok (.iload_n 0, 1) := by decide +kernel
theorem d1_80 : decode prog_135_method_2_code 80 = .ok (.sipush 8205, 3) := by decide +kernel
theorem d1_83 : decode prog_135_method_2_code 83 = .ok (.if_icmp .eq 68, 3) := by decide +kernel
theorem d1_86 : decode prog_135_method_2_code 86 = .ok (.iload_n 0, 1) := by decide +kernel
theorem d1_87 : decode prog_135_method_2_code 87 = .ok (.sipush 8304, 3) := by decide +kernel
theorem d1_90 : decode prog_135_method_2_code 90 = .ok (.if_icmp .lt 10, 3) := by decide +kernel
theorem d1_93 : decode prog_135_method_2_code 93 = .ok (.iload_n 0, 1) := by decide +kernel
theorem d1_94 : decode prog_135_method_2_code 94 = .ok (.sipush 8591, 3) := by decide +kernel
theorem d1_97 : decode prog_135_method_2_code 97 = .ok (.if_icmp .le 54, 3) := by decide +kernel
theorem d1_51 : decode prog_135_method_2_code 51 = .ok (.iload_n 0, 1) := by decide +kernel
theorem d1_52 : decode prog_135_method_2_code 52 = .ok (.sipush 880, 3) := by decide +kernel
theorem d1_55 : decode prog_135_method_2_code 55 = .ok (.if_icmp .lt 17, 3) := by decide +kernel
theorem d1_58 : decode prog_135_method_2_code 58 = .ok (.iload_n 0, 1) := by decide +kernel
theorem d1_59 : decode prog_135_method_2_code 59 = .ok (.sipush 8191, 3) := by decide +kernel
theorem d1_62 : decode prog_135_method_2_code 62 = .ok (.if_icmp .gt 10, 3) := by decide +kernel
theorem d1_65 : decode prog_135_method_2_code 65 = .ok (.iload_n 0, 1) := by decide +kernel
theorem d1_66 : decode prog_135_method_2_code 66 = .ok (.sipush 894, 3) := by decide +kernel
theorem d1_69 : decode prog_135_method_2_code 69 = .ok (.if_icmp .ne 82, 3) := by decide +kernel
theorem d1_0 : decode prog_135_method_2_code 0 = .ok (.iload_n 0, 1) := by decide +kernel
theorem d1_1 : decode prog_135_method_2_code 1 = .ok (.sipush 128, 3) := by decide +kernel
theorem d1_4 : decode prog_135_method_2_code 4 = .ok (.if_icmp .ge 19, 3) := by decide +kernel
theorem d1_23 : decode prog_135_method_2_code 23 = .ok (.iload_n 0, 1) := by decide +kernel
theorem d1_24 : decode prog_135_method_2_code 24 = .ok (.sipush 192, 3) := by decide +kernel
theorem d1_27 : decode prog_135_method_2_code 27 = .ok (.if_icmp .lt 24, 3) := by decide +kernel
theorem d1_30 : decode prog_135_method_2_code 30 = .ok (.iload_n 0, 1) := by decide +kernel
theorem d1_31 : decode prog_135_method_2_code 31 = .ok (.sipush 767, 3) := by decide +kernel
theorem d1_34 : decode prog_135_method_2_code 34 = .ok (.if_icmp .gt 17, 3) := by decide +kernel
theorem d1_37 : decode prog_135_method_2_code 37 = .ok (.iload_n 0, 1) := by decide +kernel
theorem d1_38 : decode prog_135_method_2_code 38 = .ok (.sipush 215, 3) := by decide +kernel
theorem d1_41 : decode prog_135_method_2_code 41 = .ok (.if_icmp .eq 10, 3) := by decide +kernel
theorem d1_44 : decode prog_135_method_2_code 44 = .ok (.iload_n 0, 1) := by decide +kernel
theorem d1_45 : decode prog_135_method_2_code 45 = .ok (.sipush 247, 3) := by decide +kernel
theorem d1_48 : decode prog_135_method_2_code 48 = .ok (.if_icmp .ne 103, 3) := by decide +kernel
theorem d1_7 : decode prog_135_method_2_code 7 = .ok (.getstatic 51, 3) := by decide +kernel
theorem d1_10 : decode prog_135_method_2_code 10 = .ok (.iload_n 0, 1) := by decide +kernel
theorem d1_11 : decode prog_135_method_2_code 11 = .ok (.baload, 1) := by decide +kernel
theorem d1_12 : decode prog_135_method_2_code 12 = .ok (.iconst 1, 1) := by decide +kernel
theorem d1_13 : decode prog_135_method_2_code 13 = .ok (.iand, 1) := by decide +kernel
theorem d1_14 : decode prog_135_method_2_code 14 = .ok (.ifCond .eq 7, 3) := by decide +kernel
theorem d1_21 : decode prog_135_method_2_code 21 = .ok (.iconst 0, 1) := by decide +kernel
theorem d1_22 : decode prog_135_method_2_code 22 = .ok (.ireturn, 1) := by decide +kernel
theorem d1_17 : decode prog_135_method_2_code 17 = .ok (.iconst 1, 1) := by decide +kernel
theorem d1_18 : decode prog_135_method_2_code 18 = .ok (.goto 4, 3) := by decide +kernel
theorem ef0 (m : MethodId) (x0 : Int32) : entryFrame m #[(.int x0)] maxLocals = mkF m 0 #[.val (.int x0), .unset, .unset] [] := by first | (simp [entryFrame, mkF, argsToLocals, Value.category, maxLocals]; done) | rfl
theorem pn0 : plainFor (⟨"com/example/dewk/dewk/xml/XmlNameIsNameStartPinLaw", "law", "(I)Z"⟩ : MethodName) = true := plainFor_of_name (by first | (simp [plainName, overriddenIn]; done) | decide +kernel)
theorem pd0 : parseMethodDescriptor "(C)Z" = some ⟨[.char], some .boolean⟩ := by decide +kernel
theorem pd1 : parseMethodDescriptor "(I)Z" = some ⟨[.int], some .boolean⟩ := by decide +kernel

theorem own_ofi (i : Nat) (h : i < 128) : (Int32.ofInt (i : Int)).toInt = (i : Int) := by
  have e : ((i : Int).bmod (2 ^ 32)) = (i : Int) := Int.bmod_eq_of_le (by omega) (by omega)
  rw [Int32.toInt_ofInt]; exact e
theorem own_k128 : (128 : Int32).toInt = 128 := by decide
theorem own_nat {x : Int32} (r0 : 0 ≤ x.toInt) (h : x < 128) : x.toNatClampNeg < 128 := by
  rw [Int32.lt_iff_toInt_lt, own_k128] at h
  simp only [Int32.toNatClampNeg]; omega
theorem own_in {x : Int32} {cl : Cell} (hsz : cl.slots.size = 128) (r0 : 0 ≤ x.toInt) (h : x < 128) : ¬ (x < 0 ∨ cl.slots.size ≤ x.toNatClampNeg) := by
  have q := own_nat r0 h
  have k : (0 : Int32).toInt = 0 := by decide
  rintro (z | z)
  · rw [Int32.lt_iff_toInt_lt, k] at z; omega
  · omega

def f_inn  (x1 : Int32) (x2 : Int32) (x3 : Int32) : Int32 := if x1 < x2 then (0 : Int32) else (if x3 < x1 then (0 : Int32) else (1 : Int32))
set_option maxRecDepth 65536 in
set_option maxHeartbeats 40000000 in
theorem c_inn (l : Launch) (Z : State) (a0 : Array Value) (hw : Hw a0 Z)  (x1 : Int32) (x2 : Int32) (x3 : Int32) (h0 : Heap) (n0 : Nat) (Z0 : n0 ≤ h0.size)  :
    Met l Z (⟨"com/example/dewk/dewk/xml/XmlNameIsNameStartPinLaw", "in", "(III)Z"⟩ : MethodName) method_2_code 3 (some .boolean) [] ({ frames := 0, cells := 0, slots := 0, locals := 0 } : Room) #[(.int x1), (.int x2), (.int x3)] h0 n0 (RetI (fun z h => z = f_inn  x1 x2 x3 ∧ h0 = h)) := by
  refine Met.intro pn3 (own := "com/example/dewk/dewk/xml/XmlNameIsNameStartPinLaw") rfl (nm := "in") rfl (fun m => ef3 m x1 x2 x3) ?_
  intro p e s m below meth c C
  refine s_iloadN C d3_0 (pc' := 1) rfl rfl ?_
  refine s_iloadN C d3_1 (pc' := 2) rfl rfl ?_
  refine s_icmp_lt C d3_2 (pc' := 5) rfl (pcY := 14) rfl (fun c1 => ?_) (fun c1 => ?_)
  · skip
    refine s_iconst C d3_14 (pc' := 15) rfl (0 : Int32) rfl ?_
    exact s_retN C (by simp) d3_15 (by decide) (by decide) (by have e : f_inn  x1 x2 x3 = (0 : Int32) := (by unfold f_inn; rw [if_pos c1]); exact ⟨e.symm, rfl⟩)
  · skip
    refine s_iloadN C d3_5 (pc' := 6) rfl rfl ?_
    refine s_iloadN C d3_6 (pc' := 7) rfl rfl ?_
    refine s_icmp_gt C d3_7 (pc' := 10) rfl (pcY := 14) rfl (fun c2 => ?_) (fun c2 => ?_)
    · skip
      refine s_iconst C d3_14 (pc' := 15) rfl (0 : Int32) rfl ?_
      exact s_retN C (by simp) d3_15 (by decide) (by decide) (by have e : f_inn  x1 x2 x3 = (0 : Int32) := (by unfold f_inn; rw [if_neg c1, if_pos c2]); exact ⟨e.symm, rfl⟩)
    · skip
      refine s_iconst C d3_10 (pc' := 11) rfl (1 : Int32) rfl ?_
      refine s_goto C d3_11 (pc' := 15) rfl ?_
      exact s_retN C (by simp) d3_15 (by decide) (by decide) (by have e : f_inn  x1 x2 x3 = (1 : Int32) := (by unfold f_inn; rw [if_neg c1, if_neg c2]); exact ⟨e.symm, rfl⟩)
def g_ref_161  (x1 : Int32) : Int32 := if (f_inn x1 (63744 : Int32) (64975 : Int32)) = (0 : Int32) then (if (f_inn x1 (65008 : Int32) (65533 : Int32)) = (0 : Int32) then (0 : Int32) else (1 : Int32)) else (1 : Int32)
def g_ref_138  (x1 : Int32) : Int32 := if (f_inn x1 (12289 : Int32) (55295 : Int32)) = (0 : Int32) then (if (f_inn x1 (55296 : Int32) (56191 : Int32)) = (0 : Int32) then (g_ref_161  x1) else (1 : Int32)) else (1 : Int32)
def g_ref_112  (x1 : Int32) : Int32 := if (f_inn x1 (8304 : Int32) (8591 : Int32)) = (0 : Int32) then (if (f_inn x1 (11264 : Int32) (12271 : Int32)) = (0 : Int32) then (g_ref_138  x1) else (1 : Int32)) else (1 : Int32)
def g_ref_86  (x1 : Int32) : Int32 := if (f_inn x1 (895 : Int32) (8191 : Int32)) = (0 : Int32) then (if (f_inn x1 (8204 : Int32) (8205 : Int32)) = (0 : Int32) then (g_ref_112  x1) else (1 : Int32)) else (1 : Int32)
def g_ref_60  (x1 : Int32) : Int32 := if (f_inn x1 (248 : Int32) (767 : Int32)) = (0 : Int32) then (if (f_inn x1 (880 : Int32) (893 : Int32)) = (0 : Int32) then (g_ref_86  x1) else (1 : Int32)) else (1 : Int32)
def g_ref_34  (x1 : Int32) : Int32 := if (f_inn x1 (192 : Int32) (214 : Int32)) = (0 : Int32) then (if (f_inn x1 (216 : Int32) (246 : Int32)) = (0 : Int32) then (g_ref_60  x1) else (1 : Int32)) else (1 : Int32)
def f_ref  (x1 : Int32) : Int32 := if x1 = (58 : Int32) then (1 : Int32) else (if (f_inn x1 (65 : Int32) (90 : Int32)) = (0 : Int32) then (if x1 = (95 : Int32) then (1 : Int32) else (if (f_inn x1 (97 : Int32) (122 : Int32)) = (0 : Int32) then (g_ref_34  x1) else (1 : Int32))) else (1 : Int32))
set_option maxRecDepth 65536 in
set_option maxHeartbeats 40000000 in
theorem c_ref (l : Launch) (Z : State) (a0 : Array Value) (hw : Hw a0 Z)  (x1 : Int32) (h0 : Heap) (n0 : Nat) (Z0 : n0 ≤ h0.size)  :
    Met l Z (⟨"com/example/dewk/dewk/xml/XmlNameIsNameStartPinLaw", "reference", "(I)Z"⟩ : MethodName) method_3_code 1 (some .boolean) [] ({ frames := 1, cells := 0, slots := 0, locals := 20 } : Room) #[(.int x1)] h0 n0 (RetI (fun z h => z = f_ref  x1 ∧ h0 = h)) := by
  refine Met.intro pn2 (own := "com/example/dewk/dewk/xml/XmlNameIsNameStartPinLaw") rfl (nm := "reference") rfl (fun m => ef2 m x1) ?_
  intro p e s m below meth c C
  have J161 : f_ref  x1 = g_ref_161  x1 → Run p l e ({ frames := 1, cells := 0, slots := 0, locals := 20 } : Room) s m #[(.int x1)] below meth c n0 (RetI (fun z h => z = f_ref  x1 ∧ h0 = h)) h0 0 0 161 #[.val (.int x1)] [] := by
    intro hj
    refine s_iloadN C d2_161 (pc' := 162) rfl rfl ?_
    refine s_ldc C d2_162 (pc' := 164) rfl (w17 hw) ?_
    refine s_ldc C d2_164 (pc' := 166) rfl (w18 hw) ?_
    refine s_callSI C d2_166 (pc' := 169) rfl (w11 hw) (w12 hw) (w9 hw) (w13 hw) (by decide) [(.int x1), (.int (63744 : Int32)), (.int (64975 : Int32))] [] pd2 rfl rfl (c_inn l Z a0 hw x1 (63744 : Int32) (64975 : Int32) h0 n0 Z0 ) rfl (W := 0) rfl (by decide) (by decide) (k' := 0) rfl (by decide) (n' := 0) rfl (by decide) (fun r1 _ qr1 => ?_)
    obtain ⟨rfl, rfl⟩ := qr1
    refine s_if_ne C d2_169 (pc' := 172) rfl (pcY := 183) rfl (fun c2 => ?_) (fun c2 => ?_)
    · skip
      refine s_iconst C d2_183 (pc' := 184) rfl (1 : Int32) rfl ?_
      refine s_goto C d2_184 (pc' := 188) rfl ?_
      exact s_retN C (by simp) d2_188 (by decide) (by decide) (by have e : g_ref_161  x1 = (1 : Int32) := (by unfold g_ref_161; rw [if_neg c2]); exact ⟨(hj.trans e).symm, rfl⟩)
    · skip
      refine s_iloadN C d2_172 (pc' := 173) rfl rfl ?_
      refine s_ldc C d2_173 (pc' := 175) rfl (w19 hw) ?_
      refine s_ldc C d2_175 (pc' := 177) rfl (w20 hw) ?_
      refine s_callSI C d2_177 (pc' := 180) rfl (w11 hw) (w12 hw) (w9 hw) (w13 hw) (by decide) [(.int x1), (.int (65008 : Int32)), (.int (65533 : Int32))] [] pd2 rfl rfl (c_inn l Z a0 hw x1 (65008 : Int32) (65533 : Int32) h0 n0 Z0 ) rfl (W := 0) rfl (by decide) (by decide) (k' := 0) rfl (by decide) (n' := 0) rfl (by decide) (fun r3 _ qr3 => ?_)
      obtain ⟨rfl, rfl⟩ := qr3
      refine s_if_eq C d2_180 (pc' := 183) rfl (pcY := 187) rfl (fun c4 => ?_) (fun c4 => ?_)
      · skip
        refine s_iconst C d2_187 (pc' := 188) rfl (0 : Int32) rfl ?_
        exact s_retN C (by simp) d2_188 (by decide) (by decide) (by have e : g_ref_161  x1 = (0 : Int32) := (by unfold g_ref_161; rw [if_pos c2, if_pos c4]); exact ⟨(hj.trans e).symm, rfl⟩)
      · skip
        refine s_iconst C d2_183 (pc' := 184) rfl (1 : Int32) rfl ?_
        refine s_goto C d2_184 (pc' := 188) rfl ?_
        exact s_retN C (by simp) d2_188 (by decide) (by decide) (by have e : g_ref_161  x1 = (1 : Int32) := (by unfold g_ref_161; rw [if_pos c2, if_neg c4]); exact ⟨(hj.trans e).symm, rfl⟩)
  have J138 : f_ref  x1 = g_ref_138  x1 → Run p l e ({ frames := 1, cells := 0, slots := 0, locals := 20 } : Room) s m #[(.int x1)] below meth c n0 (RetI (fun z h => z = f_ref  x1 ∧ h0 = h)) h0 0 0 138 #[.val (.int x1)] [] := by
    intro hj
    refine s_iloadN C d2_138 (pc' := 139) rfl rfl ?_
    refine s_sipush C d2_139 (pc' := 142) rfl (12289 : Int32) rfl ?_
    refine s_ldc C d2_142 (pc' := 144) rfl (w14 hw) ?_
    refine s_callSI C d2_144 (pc' := 147) rfl (w11 hw) (w12 hw) (w9 hw) (w13 hw) (by decide) [(.int x1), (.int (12289 : Int32)), (.int (55295 : Int32))] [] pd2 rfl rfl (c_inn l Z a0 hw x1 (12289 : Int32) (55295 : Int32) h0 n0 Z0 ) rfl (W := 0) rfl (by decide) (by decide) (k' := 0) rfl (by decide) (n' := 0) rfl (by decide) (fun r5 _ qr5 => ?_)
    obtain ⟨rfl, rfl⟩ := qr5
    refine s_if_ne C d2_147 (pc' := 150) rfl (pcY := 183) rfl (fun c6 => ?_) (fun c6 => ?_)
    · skip
      refine s_iconst C d2_183 (pc' := 184) rfl (1 : Int32) rfl ?_
      refine s_goto C d2_184 (pc' := 188) rfl ?_
      exact s_retN C (by simp) d2_188 (by decide) (by decide) (by have e : g_ref_138  x1 = (1 : Int32) := (by unfold g_ref_138; rw [if_neg c6]); exact ⟨(hj.trans e).symm, rfl⟩)
    · skip
      refine s_iloadN C d2_150 (pc' := 151) rfl rfl ?_
      refine s_ldc C d2_151 (pc' := 153) rfl (w15 hw) ?_
      refine s_ldc C d2_153 (pc' := 155) rfl (w16 hw) ?_
      refine s_callSI C d2_155 (pc' := 158) rfl (w11 hw) (w12 hw) (w9 hw) (w13 hw) (by decide) [(.int x1), (.int (55296 : Int32)), (.int (56191 : Int32))] [] pd2 rfl rfl (c_inn l Z a0 hw x1 (55296 : Int32) (56191 : Int32) h0 n0 Z0 ) rfl (W := 0) rfl (by decide) (by decide) (k' := 0) rfl (by decide) (n' := 0) rfl (by decide) (fun r7 _ qr7 => ?_)
      obtain ⟨rfl, rfl⟩ := qr7
      refine s_if_ne C d2_158 (pc' := 161) rfl (pcY := 183) rfl (fun c8 => ?_) (fun c8 => ?_)
      · skip
        refine s_iconst C d2_183 (pc' := 184) rfl (1 : Int32) rfl ?_
        refine s_goto C d2_184 (pc' := 188) rfl ?_
        exact s_retN C (by simp) d2_188 (by decide) (by decide) (by have e : g_ref_138  x1 = (1 : Int32) := (by unfold g_ref_138; rw [if_pos c6, if_neg c8]); exact ⟨(hj.trans e).symm, rfl⟩)
      · skip
        exact J161 (by have e : g_ref_138  x1 = (g_ref_161  x1) := (by unfold g_ref_138; rw [if_pos c6, if_pos c8]); exact hj.trans e)
  have J112 : f_ref  x1 = g_ref_112  x1 → Run p l e ({ frames := 1, cells := 0, slots := 0, locals := 20 } : Room) s m #[(.int x1)] below meth c n0 (RetI (fun z h => z = f_ref  x1 ∧ h0 = h)) h0 0 0 112 #[.val (.int x1)] [] := by
    intro hj
    refine s_iloadN C d2_112 (pc' := 113) rfl rfl ?_
    refine s_sipush C d2_113 (pc' := 116) rfl (8304 : Int32) rfl ?_
    refine s_sipush C d2_116 (pc' := 119) rfl (8591 : Int32) rfl ?_
    refine s_callSI C d2_119 (pc' := 122) rfl (w11 hw) (w12 hw) (w9 hw) (w13 hw) (by decide) [(.int x1), (.int (8304 : Int32)), (.int (8591 : Int32))] [] pd2 rfl rfl (c_inn l Z a0 hw x1 (8304 : Int32) (8591 : Int32) h0 n0 Z0 ) rfl (W := 0) rfl (by decide) (by decide) (k' := 0) rfl (by decide) (n' := 0) rfl (by decide) (fun r9 _ qr9 => ?_)
    obtain ⟨rfl, rfl⟩ := qr9
    refine s_if_ne C d2_122 (pc' := 125) rfl (pcY := 183) rfl (fun c10 => ?_) (fun c10 => ?_)
    · skip
      refine s_iconst C d2_183 (pc' := 184) rfl (1 : Int32) rfl ?_
      refine s_goto C d2_184 (pc' := 188) rfl ?_
      exact s_retN C (by simp) d2_188 (by decide) (by decide) (by have e : g_ref_112  x1 = (1 : Int32) := (by unfold g_ref_112; rw [if_neg c10]); exact ⟨(hj.trans e).symm, rfl⟩)
    · skip
      refine s_iloadN C d2_125 (pc' := 126) rfl rfl ?_
      refine s_sipush C d2_126 (pc' := 129) rfl (11264 : Int32) rfl ?_
      refine s_sipush C d2_129 (pc' := 132) rfl (12271 : Int32) rfl ?_
      refine s_callSI C d2_132 (pc' := 135) rfl (w11 hw) (w12 hw) (w9 hw) (w13 hw) (by decide) [(.int x1), (.int (11264 : Int32)), (.int (12271 : Int32))] [] pd2 rfl rfl (c_inn l Z a0 hw x1 (11264 : Int32) (12271 : Int32) h0 n0 Z0 ) rfl (W := 0) rfl (by decide) (by decide) (k' := 0) rfl (by decide) (n' := 0) rfl (by decide) (fun r11 _ qr11 => ?_)
      obtain ⟨rfl, rfl⟩ := qr11
      refine s_if_ne C d2_135 (pc' := 138) rfl (pcY := 183) rfl (fun c12 => ?_) (fun c12 => ?_)
      · skip
        refine s_iconst C d2_183 (pc' := 184) rfl (1 : Int32) rfl ?_
        refine s_goto C d2_184 (pc' := 188) rfl ?_
        exact s_retN C (by simp) d2_188 (by decide) (by decide) (by have e : g_ref_112  x1 = (1 : Int32) := (by unfold g_ref_112; rw [if_pos c10, if_neg c12]); exact ⟨(hj.trans e).symm, rfl⟩)
      · skip
        exact J138 (by have e : g_ref_112  x1 = (g_ref_138  x1) := (by unfold g_ref_112; rw [if_pos c10, if_pos c12]); exact hj.trans e)
  have J86 : f_ref  x1 = g_ref_86  x1 → Run p l e ({ frames := 1, cells := 0, slots := 0, locals := 20 } : Room) s m #[(.int x1)] below meth c n0 (RetI (fun z h => z = f_ref  x1 ∧ h0 = h)) h0 0 0 86 #[.val (.int x1)] [] := by
    intro hj
    refine s_iloadN C d2_86 (pc' := 87) rfl rfl ?_
    refine s_sipush C d2_87 (pc' := 90) rfl (895 : Int32) rfl ?_
    refine s_sipush C d2_90 (pc' := 93) rfl (8191 : Int32) rfl ?_
    refine s_callSI C d2_93 (pc' := 96) rfl (w11 hw) (w12 hw) (w9 hw) (w13 hw) (by decide) [(.int x1), (.int (895 : Int32)), (.int (8191 : Int32))] [] pd2 rfl rfl (c_inn l Z a0 hw x1 (895 : Int32) (8191 : Int32) h0 n0 Z0 ) rfl (W := 0) rfl (by decide) (by decide) (k' := 0) rfl (by decide) (n' := 0) rfl (by decide) (fun r13 _ qr13 => ?_)
    obtain ⟨rfl, rfl⟩ := qr13
    refine s_if_ne C d2_96 (pc' := 99) rfl (pcY := 183) rfl (fun c14 => ?_) (fun c14 => ?_)
    · skip
      refine s_iconst C d2_183 (pc' := 184) rfl (1 : Int32) rfl ?_
      refine s_goto C d2_184 (pc' := 188) rfl ?_
      exact s_retN C (by simp) d2_188 (by decide) (by decide) (by have e : g_ref_86  x1 = (1 : Int32) := (by unfold g_ref_86; rw [if_neg c14]); exact ⟨(hj.trans e).symm, rfl⟩)
    · skip
      refine s_iloadN C d2_99 (pc' := 100) rfl rfl ?_
      refine s_sipush C d2_100 (pc' := 103) rfl (8204 : Int32) rfl ?_
      refine s_sipush C d2_103 (pc' := 106) rfl (8205 : Int32) rfl ?_
      refine s_callSI C d2_106 (pc' := 109) rfl (w11 hw) (w12 hw) (w9 hw) (w13 hw) (by decide) [(.int x1), (.int (8204 : Int32)), (.int (8205 : Int32))] [] pd2 rfl rfl (c_inn l Z a0 hw x1 (8204 : Int32) (8205 : Int32) h0 n0 Z0 ) rfl (W := 0) rfl (by decide) (by decide) (k' := 0) rfl (by decide) (n' := 0) rfl (by decide) (fun r15 _ qr15 => ?_)
      obtain ⟨rfl, rfl⟩ := qr15
      refine s_if_ne C d2_109 (pc' := 112) rfl (pcY := 183) rfl (fun c16 => ?_) (fun c16 => ?_)
      · skip
        refine s_iconst C d2_183 (pc' := 184) rfl (1 : Int32) rfl ?_
        refine s_goto C d2_184 (pc' := 188) rfl ?_
        exact s_retN C (by simp) d2_188 (by decide) (by decide) (by have e : g_ref_86  x1 = (1 : Int32) := (by unfold g_ref_86; rw [if_pos c14, if_neg c16]); exact ⟨(hj.trans e).symm, rfl⟩)
      · skip
        exact J112 (by have e : g_ref_86  x1 = (g_ref_112  x1) := (by unfold g_ref_86; rw [if_pos c14, if_pos c16]); exact hj.trans e)
  have J60 : f_ref  x1 = g_ref_60  x1 → Run p l e ({ frames := 1, cells := 0, slots := 0, locals := 20 } : Room) s m #[(.int x1)] below meth c n0 (RetI (fun z h => z = f_ref  x1 ∧ h0 = h)) h0 0 0 60 #[.val (.int x1)] [] := by
    intro hj
    refine s_iloadN C d2_60 (pc' := 61) rfl rfl ?_
    refine s_sipush C d2_61 (pc' := 64) rfl (248 : Int32) rfl ?_
    refine s_sipush C d2_64 (pc' := 67) rfl (767 : Int32) rfl ?_
    refine s_callSI C d2_67 (pc' := 70) rfl (w11 hw) (w12 hw) (w9 hw) (w13 hw) (by decide) [(.int x1), (.int (248 : Int32)), (.int (767 : Int32))] [] pd2 rfl rfl (c_inn l Z a0 hw x1 (248 : Int32) (767 : Int32) h0 n0 Z0 ) rfl (W := 0) rfl (by decide) (by decide) (k' := 0) rfl (by decide) (n' := 0) rfl (by decide) (fun r17 _ qr17 => ?_)
    obtain ⟨rfl, rfl⟩ := qr17
    refine s_if_ne C d2_70 (pc' := 73) rfl (pcY := 183) rfl (fun c18 => ?_) (fun c18 => ?_)
    · skip
      refine s_iconst C d2_183 (pc' := 184) rfl (1 : Int32) rfl ?_
      refine s_goto C d2_184 (pc' := 188) rfl ?_
      exact s_retN C (by simp) d2_188 (by decide) (by decide) (by have e : g_ref_60  x1 = (1 : Int32) := (by unfold g_ref_60; rw [if_neg c18]); exact ⟨(hj.trans e).symm, rfl⟩)
    · skip
      refine s_iloadN C d2_73 (pc' := 74) rfl rfl ?_
      refine s_sipush C d2_74 (pc' := 77) rfl (880 : Int32) rfl ?_
      refine s_sipush C d2_77 (pc' := 80) rfl (893 : Int32) rfl ?_
      refine s_callSI C d2_80 (pc' := 83) rfl (w11 hw) (w12 hw) (w9 hw) (w13 hw) (by decide) [(.int x1), (.int (880 : Int32)), (.int (893 : Int32))] [] pd2 rfl rfl (c_inn l Z a0 hw x1 (880 : Int32) (893 : Int32) h0 n0 Z0 ) rfl (W := 0) rfl (by decide) (by decide) (k' := 0) rfl (by decide) (n' := 0) rfl (by decide) (fun r19 _ qr19 => ?_)
      obtain ⟨rfl, rfl⟩ := qr19
      refine s_if_ne C d2_83 (pc' := 86) rfl (pcY := 183) rfl (fun c20 => ?_) (fun c20 => ?_)
      · skip
        refine s_iconst C d2_183 (pc' := 184) rfl (1 : Int32) rfl ?_
        refine s_goto C d2_184 (pc' := 188) rfl ?_
        exact s_retN C (by simp) d2_188 (by decide) (by decide) (by have e : g_ref_60  x1 = (1 : Int32) := (by unfold g_ref_60; rw [if_pos c18, if_neg c20]); exact ⟨(hj.trans e).symm, rfl⟩)
      · skip
        exact J86 (by have e : g_ref_60  x1 = (g_ref_86  x1) := (by unfold g_ref_60; rw [if_pos c18, if_pos c20]); exact hj.trans e)
  have J34 : f_ref  x1 = g_ref_34  x1 → Run p l e ({ frames := 1, cells := 0, slots := 0, locals := 20 } : Room) s m #[(.int x1)] below meth c n0 (RetI (fun z h => z = f_ref  x1 ∧ h0 = h)) h0 0 0 34 #[.val (.int x1)] [] := by
    intro hj
    refine s_iloadN C d2_34 (pc' := 35) rfl rfl ?_
    refine s_sipush C d2_35 (pc' := 38) rfl (192 : Int32) rfl ?_
    refine s_sipush C d2_38 (pc' := 41) rfl (214 : Int32) rfl ?_
    refine s_callSI C d2_41 (pc' := 44) rfl (w11 hw) (w12 hw) (w9 hw) (w13 hw) (by decide) [(.int x1), (.int (192 : Int32)), (.int (214 : Int32))] [] pd2 rfl rfl (c_inn l Z a0 hw x1 (192 : Int32) (214 : Int32) h0 n0 Z0 ) rfl (W := 0) rfl (by decide) (by decide) (k' := 0) rfl (by decide) (n' := 0) rfl (by decide) (fun r21 _ qr21 => ?_)
    obtain ⟨rfl, rfl⟩ := qr21
    refine s_if_ne C d2_44 (pc' := 47) rfl (pcY := 183) rfl (fun c22 => ?_) (fun c22 => ?_)
    · skip
      refine s_iconst C d2_183 (pc' := 184) rfl (1 : Int32) rfl ?_
      refine s_goto C d2_184 (pc' := 188) rfl ?_
      exact s_retN C (by simp) d2_188 (by decide) (by decide) (by have e : g_ref_34  x1 = (1 : Int32) := (by unfold g_ref_34; rw [if_neg c22]); exact ⟨(hj.trans e).symm, rfl⟩)
    · skip
      refine s_iloadN C d2_47 (pc' := 48) rfl rfl ?_
      refine s_sipush C d2_48 (pc' := 51) rfl (216 : Int32) rfl ?_
      refine s_sipush C d2_51 (pc' := 54) rfl (246 : Int32) rfl ?_
      refine s_callSI C d2_54 (pc' := 57) rfl (w11 hw) (w12 hw) (w9 hw) (w13 hw) (by decide) [(.int x1), (.int (216 : Int32)), (.int (246 : Int32))] [] pd2 rfl rfl (c_inn l Z a0 hw x1 (216 : Int32) (246 : Int32) h0 n0 Z0 ) rfl (W := 0) rfl (by decide) (by decide) (k' := 0) rfl (by decide) (n' := 0) rfl (by decide) (fun r23 _ qr23 => ?_)
      obtain ⟨rfl, rfl⟩ := qr23
      refine s_if_ne C d2_57 (pc' := 60) rfl (pcY := 183) rfl (fun c24 => ?_) (fun c24 => ?_)
      · skip
        refine s_iconst C d2_183 (pc' := 184) rfl (1 : Int32) rfl ?_
        refine s_goto C d2_184 (pc' := 188) rfl ?_
        exact s_retN C (by simp) d2_188 (by decide) (by decide) (by have e : g_ref_34  x1 = (1 : Int32) := (by unfold g_ref_34; rw [if_pos c22, if_neg c24]); exact ⟨(hj.trans e).symm, rfl⟩)
      · skip
        exact J60 (by have e : g_ref_34  x1 = (g_ref_60  x1) := (by unfold g_ref_34; rw [if_pos c22, if_pos c24]); exact hj.trans e)
  refine s_iloadN C d2_0 (pc' := 1) rfl rfl ?_
  refine s_bipush C d2_1 (pc' := 3) rfl (58 : Int32) rfl ?_
  refine s_icmp_eq C d2_3 (pc' := 6) rfl (pcY := 183) rfl (fun c25 => ?_) (fun c25 => ?_)
  · skip
    refine s_iconst C d2_183 (pc' := 184) rfl (1 : Int32) rfl ?_
    refine s_goto C d2_184 (pc' := 188) rfl ?_
    exact s_retN C (by simp) d2_188 (by decide) (by decide) (by have e : f_ref  x1 = (1 : Int32) := (by unfold f_ref; rw [if_pos c25]); exact ⟨e.symm, rfl⟩)
  · skip
    refine s_iloadN C d2_6 (pc' := 7) rfl rfl ?_
    refine s_bipush C d2_7 (pc' := 9) rfl (65 : Int32) rfl ?_
    refine s_bipush C d2_9 (pc' := 11) rfl (90 : Int32) rfl ?_
    refine s_callSI C d2_11 (pc' := 14) rfl (w11 hw) (w12 hw) (w9 hw) (w13 hw) (by decide) [(.int x1), (.int (65 : Int32)), (.int (90 : Int32))] [] pd2 rfl rfl (c_inn l Z a0 hw x1 (65 : Int32) (90 : Int32) h0 n0 Z0 ) rfl (W := 0) rfl (by decide) (by decide) (k' := 0) rfl (by decide) (n' := 0) rfl (by decide) (fun r26 _ qr26 => ?_)
    obtain ⟨rfl, rfl⟩ := qr26
    refine s_if_ne C d2_14 (pc' := 17) rfl (pcY := 183) rfl (fun c27 => ?_) (fun c27 => ?_)
    · skip
      refine s_iconst C d2_183 (pc' := 184) rfl (1 : Int32) rfl ?_
      refine s_goto C d2_184 (pc' := 188) rfl ?_
      exact s_retN C (by simp) d2_188 (by decide) (by decide) (by have e : f_ref  x1 = (1 : Int32) := (by unfold f_ref; rw [if_neg c25, if_neg c27]); exact ⟨e.symm, rfl⟩)
    · skip
      refine s_iloadN C d2_17 (pc' := 18) rfl rfl ?_
      refine s_bipush C d2_18 (pc' := 20) rfl (95 : Int32) rfl ?_
      refine s_icmp_eq C d2_20 (pc' := 23) rfl (pcY := 183) rfl (fun c28 => ?_) (fun c28 => ?_)
      · skip
        refine s_iconst C d2_183 (pc' := 184) rfl (1 : Int32) rfl ?_
        refine s_goto C d2_184 (pc' := 188) rfl ?_
        exact s_retN C (by simp) d2_188 (by decide) (by decide) (by have e : f_ref  x1 = (1 : Int32) := (by unfold f_ref; rw [if_neg c25, if_pos c27, if_pos c28]); exact ⟨e.symm, rfl⟩)
      · skip
        refine s_iloadN C d2_23 (pc' := 24) rfl rfl ?_
        refine s_bipush C d2_24 (pc' := 26) rfl (97 : Int32) rfl ?_
        refine s_bipush C d2_26 (pc' := 28) rfl (122 : Int32) rfl ?_
        refine s_callSI C d2_28 (pc' := 31) rfl (w11 hw) (w12 hw) (w9 hw) (w13 hw) (by decide) [(.int x1), (.int (97 : Int32)), (.int (122 : Int32))] [] pd2 rfl rfl (c_inn l Z a0 hw x1 (97 : Int32) (122 : Int32) h0 n0 Z0 ) rfl (W := 0) rfl (by decide) (by decide) (k' := 0) rfl (by decide) (n' := 0) rfl (by decide) (fun r29 _ qr29 => ?_)
        obtain ⟨rfl, rfl⟩ := qr29
        refine s_if_ne C d2_31 (pc' := 34) rfl (pcY := 183) rfl (fun c30 => ?_) (fun c30 => ?_)
        · skip
          refine s_iconst C d2_183 (pc' := 184) rfl (1 : Int32) rfl ?_
          refine s_goto C d2_184 (pc' := 188) rfl ?_
          exact s_retN C (by simp) d2_188 (by decide) (by decide) (by have e : f_ref  x1 = (1 : Int32) := (by unfold f_ref; rw [if_neg c25, if_pos c27, if_neg c28, if_neg c30]); exact ⟨e.symm, rfl⟩)
        · skip
          exact J34 (by have e : f_ref  x1 = (g_ref_34  x1) := (by unfold f_ref; rw [if_neg c25, if_pos c27, if_neg c28, if_pos c30]); exact e)
def g_isn_139 (T : Nat → Int32) (x1 : Int32) : Int32 := if x1 < (65008 : Int32) then (0 : Int32) else (if (65533 : Int32) < x1 then (0 : Int32) else (1 : Int32))
def g_isn_127 (T : Nat → Int32) (x1 : Int32) : Int32 := if x1 < (63744 : Int32) then (g_isn_139 T x1) else (if (64975 : Int32) < x1 then (g_isn_139 T x1) else (1 : Int32))
def g_isn_114 (T : Nat → Int32) (x1 : Int32) : Int32 := if x1 < (12289 : Int32) then (g_isn_127 T x1) else (if (56191 : Int32) < x1 then (g_isn_127 T x1) else (1 : Int32))
def g_isn_100 (T : Nat → Int32) (x1 : Int32) : Int32 := if x1 < (11264 : Int32) then (g_isn_114 T x1) else (if (12271 : Int32) < x1 then (g_isn_114 T x1) else (1 : Int32))
def g_isn_72 (T : Nat → Int32) (x1 : Int32) : Int32 := if x1 = (8204 : Int32) then (1 : Int32) else (if x1 = (8205 : Int32) then (1 : Int32) else (if x1 < (8304 : Int32) then (g_isn_100 T x1) else (if (8591 : Int32) < x1 then (g_isn_100 T x1) else (1 : Int32))))
def g_isn_51 (T : Nat → Int32) (x1 : Int32) : Int32 := if x1 < (880 : Int32) then (g_isn_72 T x1) else (if (8191 : Int32) < x1 then (g_isn_72 T x1) else (if x1 = (894 : Int32) then (g_isn_72 T x1) else (1 : Int32)))
def f_isn (T : Nat → Int32) (x1 : Int32) : Int32 := if x1 < (128 : Int32) then (if ((T x1.toNatClampNeg) &&& (1 : Int32)) = (0 : Int32) then (0 : Int32) else (1 : Int32)) else (if x1 < (192 : Int32) then (g_isn_51 T x1) else (if (767 : Int32) < x1 then (g_isn_51 T x1) else (if x1 = (215 : Int32) then (g_isn_51 T x1) else (if x1 = (247 : Int32) then (g_isn_51 T x1) else (1 : Int32)))))
set_option maxRecDepth 65536 in
set_option maxHeartbeats 40000000 in
theorem c_isn (l : Launch) (Z : State) (a0 : Array Value) (hw : Hw a0 Z) (T : Nat → Int32) (x1 : Int32) (h0 : Heap) (n0 : Nat) (Z0 : n0 ≤ h0.size) (b : Addr) (cl : Cell) (S_b : Sta Z h0 "com/example/dewk/dewk/xml/XmlName" "ASCII_NAMES" "[B" (.ref b)) (A_b : Arr Z h0 b cl .byte) (hsz : cl.slots.size = 128) (hT : ∀ j, j < 128 → cl.slots[j]? = some (.int (T j))) (r0 : 0 ≤ x1.toInt) :
    Met l Z (⟨"com/example/dewk/dewk/xml/XmlName", "isNameStart", "(C)Z"⟩ : MethodName) prog_135_method_2_code 1 (some .boolean) [] ({ frames := 0, cells := 0, slots := 0, locals := 0 } : Room) #[(.int x1)] h0 n0 (RetI (fun z h => z = f_isn T x1 ∧ h0 = h)) := by
  refine Met.intro pn1 (own := "com/example/dewk/dewk/xml/XmlName") rfl (nm := "isNameStart") rfl (fun m => ef1 m x1) ?_
  intro p e s m below meth c C
  have J139 : f_isn T x1 = g_isn_139 T x1 → Run p l e ({ frames := 0, cells := 0, slots := 0, locals := 0 } : Room) s m #[(.int x1)] below meth c n0 (RetI (fun z h => z = f_isn T x1 ∧ h0 = h)) h0 0 0 139 #[.val (.int x1)] [] := by
    intro hj
    refine s_iloadN C d1_139 (pc' := 140) rfl rfl ?_
    refine s_ldc C d1_140 (pc' := 142) rfl (w24 hw) ?_
    refine s_icmp_lt C d1_142 (pc' := 145) rfl (pcY := 155) rfl (fun c1 => ?_) (fun c1 => ?_)
    · skip
      refine s_iconst C d1_155 (pc' := 156) rfl (0 : Int32) rfl ?_
      exact s_retN C (by simp) d1_156 (by decide) (by decide) (by have e : g_isn_139 T x1 = (0 : Int32) := (by unfold g_isn_139; rw [if_pos c1]); exact ⟨(hj.trans e).symm, rfl⟩)
    · skip
      refine s_iloadN C d1_145 (pc' := 146) rfl rfl ?_
      refine s_ldc C d1_146 (pc' := 148) rfl (w25 hw) ?_
      refine s_icmp_gt C d1_148 (pc' := 151) rfl (pcY := 155) rfl (fun c2 => ?_) (fun c2 => ?_)
      · skip
        refine s_iconst C d1_155 (pc' := 156) rfl (0 : Int32) rfl ?_
        exact s_retN C (by simp) d1_156 (by decide) (by decide) (by have e : g_isn_139 T x1 = (0 : Int32) := (by unfold g_isn_139; rw [if_neg c1, if_pos c2]); exact ⟨(hj.trans e).symm, rfl⟩)
      · skip
        refine s_iconst C d1_151 (pc' := 152) rfl (1 : Int32) rfl ?_
        refine s_goto C d1_152 (pc' := 156) rfl ?_
        exact s_retN C (by simp) d1_156 (by decide) (by decide) (by have e : g_isn_139 T x1 = (1 : Int32) := (by unfold g_isn_139; rw [if_neg c1, if_neg c2]); exact ⟨(hj.trans e).symm, rfl⟩)
  have J127 : f_isn T x1 = g_isn_127 T x1 → Run p l e ({ frames := 0, cells := 0, slots := 0, locals := 0 } : Room) s m #[(.int x1)] below meth c n0 (RetI (fun z h => z = f_isn T x1 ∧ h0 = h)) h0 0 0 127 #[.val (.int x1)] [] := by
    intro hj
    refine s_iloadN C d1_127 (pc' := 128) rfl rfl ?_
    refine s_ldc C d1_128 (pc' := 130) rfl (w22 hw) ?_
    refine s_icmp_lt C d1_130 (pc' := 133) rfl (pcY := 139) rfl (fun c3 => ?_) (fun c3 => ?_)
    · skip
      exact J139 (by have e : g_isn_127 T x1 = (g_isn_139 T x1) := (by unfold g_isn_127; rw [if_pos c3]); exact hj.trans e)
    · skip
      refine s_iloadN C d1_133 (pc' := 134) rfl rfl ?_
      refine s_ldc C d1_134 (pc' := 136) rfl (w23 hw) ?_
      refine s_icmp_le C d1_136 (pc' := 139) rfl (pcY := 151) rfl (fun c4 => ?_) (fun c4 => ?_)
      · skip
        refine s_iconst C d1_151 (pc' := 152) rfl (1 : Int32) rfl ?_
        refine s_goto C d1_152 (pc' := 156) rfl ?_
        exact s_retN C (by simp) d1_156 (by decide) (by decide) (by have e : g_isn_127 T x1 = (1 : Int32) := (by unfold g_isn_127; rw [if_neg c3, if_neg c4]); exact ⟨(hj.trans e).symm, rfl⟩)
      · skip
        exact J139 (by have e : g_isn_127 T x1 = (g_isn_139 T x1) := (by unfold g_isn_127; rw [if_neg c3, if_pos c4]); exact hj.trans e)
  have J114 : f_isn T x1 = g_isn_114 T x1 → Run p l e ({ frames := 0, cells := 0, slots := 0, locals := 0 } : Room) s m #[(.int x1)] below meth c n0 (RetI (fun z h => z = f_isn T x1 ∧ h0 = h)) h0 0 0 114 #[.val (.int x1)] [] := by
    intro hj
    refine s_iloadN C d1_114 (pc' := 115) rfl rfl ?_
    refine s_sipush C d1_115 (pc' := 118) rfl (12289 : Int32) rfl ?_
    refine s_icmp_lt C d1_118 (pc' := 121) rfl (pcY := 127) rfl (fun c5 => ?_) (fun c5 => ?_)
    · skip
      exact J127 (by have e : g_isn_114 T x1 = (g_isn_127 T x1) := (by unfold g_isn_114; rw [if_pos c5]); exact hj.trans e)
    · skip
      refine s_iloadN C d1_121 (pc' := 122) rfl rfl ?_
      refine s_ldc C d1_122 (pc' := 124) rfl (w21 hw) ?_
      refine s_icmp_le C d1_124 (pc' := 127) rfl (pcY := 151) rfl (fun c6 => ?_) (fun c6 => ?_)
      · skip
        refine s_iconst C d1_151 (pc' := 152) rfl (1 : Int32) rfl ?_
        refine s_goto C d1_152 (pc' := 156) rfl ?_
        exact s_retN C (by simp) d1_156 (by decide) (by decide) (by have e : g_isn_114 T x1 = (1 : Int32) := (by unfold g_isn_114; rw [if_neg c5, if_neg c6]); exact ⟨(hj.trans e).symm, rfl⟩)
      · skip
        exact J127 (by have e : g_isn_114 T x1 = (g_isn_127 T x1) := (by unfold g_isn_114; rw [if_neg c5, if_pos c6]); exact hj.trans e)
  have J100 : f_isn T x1 = g_isn_100 T x1 → Run p l e ({ frames := 0, cells := 0, slots := 0, locals := 0 } : Room) s m #[(.int x1)] below meth c n0 (RetI (fun z h => z = f_isn T x1 ∧ h0 = h)) h0 0 0 100 #[.val (.int x1)] [] := by
    intro hj
    refine s_iloadN C d1_100 (pc' := 101) rfl rfl ?_
    refine s_sipush C d1_101 (pc' := 104) rfl (11264 : Int32) rfl ?_
    refine s_icmp_lt C d1_104 (pc' := 107) rfl (pcY := 114) rfl (fun c7 => ?_) (fun c7 => ?_)
    · skip
      exact J114 (by have e : g_isn_100 T x1 = (g_isn_114 T x1) := (by unfold g_isn_100; rw [if_pos c7]); exact hj.trans e)
    · skip
      refine s_iloadN C d1_107 (pc' := 108) rfl rfl ?_
      refine s_sipush C d1_108 (pc' := 111) rfl (12271 : Int32) rfl ?_
      refine s_icmp_le C d1_111 (pc' := 114) rfl (pcY := 151) rfl (fun c8 => ?_) (fun c8 => ?_)
      · skip
        refine s_iconst C d1_151 (pc' := 152) rfl (1 : Int32) rfl ?_
        refine s_goto C d1_152 (pc' := 156) rfl ?_
        exact s_retN C (by simp) d1_156 (by decide) (by decide) (by have e : g_isn_100 T x1 = (1 : Int32) := (by unfold g_isn_100; rw [if_neg c7, if_neg c8]); exact ⟨(hj.trans e).symm, rfl⟩)
      · skip
        exact J114 (by have e : g_isn_100 T x1 = (g_isn_114 T x1) := (by unfold g_isn_100; rw [if_neg c7, if_pos c8]); exact hj.trans e)
  have J72 : f_isn T x1 = g_isn_72 T x1 → Run p l e ({ frames := 0, cells := 0, slots := 0, locals := 0 } : Room) s m #[(.int x1)] below meth c n0 (RetI (fun z h => z = f_isn T x1 ∧ h0 = h)) h0 0 0 72 #[.val (.int x1)] [] := by
    intro hj
    refine s_iloadN C d1_72 (pc' := 73) rfl rfl ?_
    refine s_sipush C d1_73 (pc' := 76) rfl (8204 : Int32) rfl ?_
    refine s_icmp_eq C d1_76 (pc' := 79) rfl (pcY := 151) rfl (fun c9 => ?_) (fun c9 => ?_)
    · skip
      refine s_iconst C d1_151 (pc' := 152) rfl (1 : Int32) rfl ?_
      refine s_goto C d1_152 (pc' := 156) rfl ?_
      exact s_retN C (by simp) d1_156 (by decide) (by decide) (by have e : g_isn_72 T x1 = (1 : Int32) := (by unfold g_isn_72; rw [if_pos c9]); exact ⟨(hj.trans e).symm, rfl⟩)
    · skip
      refine s_iloadN C d1_79 (pc' := 80) rfl rfl ?_
      refine s_sipush C d1_80 (pc' := 83) rfl (8205 : Int32) rfl ?_
      refine s_icmp_eq C d1_83 (pc' := 86) rfl (pcY := 151) rfl (fun c10 => ?_) (fun c10 => ?_)
      · skip
        refine s_iconst C d1_151 (pc' := 152) rfl (1 : Int32) rfl ?_
        refine s_goto C d1_152 (pc' := 156) rfl ?_
        exact s_retN C (by simp) d1_156 (by decide) (by decide) (by have e : g_isn_72 T x1 = (1 : Int32) := (by unfold g_isn_72; rw [if_neg c9, if_pos c10]); exact ⟨(hj.trans e).symm, rfl⟩)
      · skip
        refine s_iloadN C d1_86 (pc' := 87) rfl rfl ?_
        refine s_sipush C d1_87 (pc' := 90) rfl (8304 : Int32) rfl ?_
        refine s_icmp_lt C d1_90 (pc' := 93) rfl (pcY := 100) rfl (fun c11 => ?_) (fun c11 => ?_)
        · skip
          exact J100 (by have e : g_isn_72 T x1 = (g_isn_100 T x1) := (by unfold g_isn_72; rw [if_neg c9, if_neg c10, if_pos c11]); exact hj.trans e)
        · skip
          refine s_iloadN C d1_93 (pc' := 94) rfl rfl ?_
          refine s_sipush C d1_94 (pc' := 97) rfl (8591 : Int32) rfl ?_
          refine s_icmp_le C d1_97 (pc' := 100) rfl (pcY := 151) rfl (fun c12 => ?_) (fun c12 => ?_)
          · skip
            refine s_iconst C d1_151 (pc' := 152) rfl (1 : Int32) rfl ?_
            refine s_goto C d1_152 (pc' := 156) rfl ?_
            exact s_retN C (by simp) d1_156 (by decide) (by decide) (by have e : g_isn_72 T x1 = (1 : Int32) := (by unfold g_isn_72; rw [if_neg c9, if_neg c10, if_neg c11, if_neg c12]); exact ⟨(hj.trans e).symm, rfl⟩)
          · skip
            exact J100 (by have e : g_isn_72 T x1 = (g_isn_100 T x1) := (by unfold g_isn_72; rw [if_neg c9, if_neg c10, if_neg c11, if_pos c12]); exact hj.trans e)
  have J51 : f_isn T x1 = g_isn_51 T x1 → Run p l e ({ frames := 0, cells := 0, slots := 0, locals := 0 } : Room) s m #[(.int x1)] below meth c n0 (RetI (fun z h => z = f_isn T x1 ∧ h0 = h)) h0 0 0 51 #[.val (.int x1)] [] := by
    intro hj
    refine s_iloadN C d1_51 (pc' := 52) rfl rfl ?_
    refine s_sipush C d1_52 (pc' := 55) rfl (880 : Int32) rfl ?_
    refine s_icmp_lt C d1_55 (pc' := 58) rfl (pcY := 72) rfl (fun c13 => ?_) (fun c13 => ?_)
    · skip
      exact J72 (by have e : g_isn_51 T x1 = (g_isn_72 T x1) := (by unfold g_isn_51; rw [if_pos c13]); exact hj.trans e)
    · skip
      refine s_iloadN C d1_58 (pc' := 59) rfl rfl ?_
      refine s_sipush C d1_59 (pc' := 62) rfl (8191 : Int32) rfl ?_
      refine s_icmp_gt C d1_62 (pc' := 65) rfl (pcY := 72) rfl (fun c14 => ?_) (fun c14 => ?_)
      · skip
        exact J72 (by have e : g_isn_51 T x1 = (g_isn_72 T x1) := (by unfold g_isn_51; rw [if_neg c13, if_pos c14]); exact hj.trans e)
      · skip
        refine s_iloadN C d1_65 (pc' := 66) rfl rfl ?_
        refine s_sipush C d1_66 (pc' := 69) rfl (894 : Int32) rfl ?_
        refine s_icmp_ne C d1_69 (pc' := 72) rfl (pcY := 151) rfl (fun c15 => ?_) (fun c15 => ?_)
        · skip
          refine s_iconst C d1_151 (pc' := 152) rfl (1 : Int32) rfl ?_
          refine s_goto C d1_152 (pc' := 156) rfl ?_
          exact s_retN C (by simp) d1_156 (by decide) (by decide) (by have e : g_isn_51 T x1 = (1 : Int32) := (by unfold g_isn_51; rw [if_neg c13, if_neg c14, if_neg c15]); exact ⟨(hj.trans e).symm, rfl⟩)
        · skip
          exact J72 (by have e : g_isn_51 T x1 = (g_isn_72 T x1) := (by unfold g_isn_51; rw [if_neg c13, if_neg c14, if_pos c15]); exact hj.trans e)
  refine s_iloadN C d1_0 (pc' := 1) rfl rfl ?_
  refine s_sipush C d1_1 (pc' := 4) rfl (128 : Int32) rfl ?_
  refine s_icmp_ge C d1_4 (pc' := 7) rfl (pcY := 23) rfl (fun c16 => ?_) (fun c16 => ?_)
  · skip
    refine s_iloadN C d1_23 (pc' := 24) rfl rfl ?_
    refine s_sipush C d1_24 (pc' := 27) rfl (192 : Int32) rfl ?_
    refine s_icmp_lt C d1_27 (pc' := 30) rfl (pcY := 51) rfl (fun c17 => ?_) (fun c17 => ?_)
    · skip
      exact J51 (by have e : f_isn T x1 = (g_isn_51 T x1) := (by unfold f_isn; rw [if_neg c16, if_pos c17]); exact e)
    · skip
      refine s_iloadN C d1_30 (pc' := 31) rfl rfl ?_
      refine s_sipush C d1_31 (pc' := 34) rfl (767 : Int32) rfl ?_
      refine s_icmp_gt C d1_34 (pc' := 37) rfl (pcY := 51) rfl (fun c18 => ?_) (fun c18 => ?_)
      · skip
        exact J51 (by have e : f_isn T x1 = (g_isn_51 T x1) := (by unfold f_isn; rw [if_neg c16, if_neg c17, if_pos c18]); exact e)
      · skip
        refine s_iloadN C d1_37 (pc' := 38) rfl rfl ?_
        refine s_sipush C d1_38 (pc' := 41) rfl (215 : Int32) rfl ?_
        refine s_icmp_eq C d1_41 (pc' := 44) rfl (pcY := 51) rfl (fun c19 => ?_) (fun c19 => ?_)
        · skip
          exact J51 (by have e : f_isn T x1 = (g_isn_51 T x1) := (by unfold f_isn; rw [if_neg c16, if_neg c17, if_neg c18, if_pos c19]); exact e)
        · skip
          refine s_iloadN C d1_44 (pc' := 45) rfl rfl ?_
          refine s_sipush C d1_45 (pc' := 48) rfl (247 : Int32) rfl ?_
          refine s_icmp_ne C d1_48 (pc' := 51) rfl (pcY := 151) rfl (fun c20 => ?_) (fun c20 => ?_)
          · skip
            refine s_iconst C d1_151 (pc' := 152) rfl (1 : Int32) rfl ?_
            refine s_goto C d1_152 (pc' := 156) rfl ?_
            exact s_retN C (by simp) d1_156 (by decide) (by decide) (by have e : f_isn T x1 = (1 : Int32) := (by unfold f_isn; rw [if_neg c16, if_neg c17, if_neg c18, if_neg c19, if_neg c20]); exact ⟨e.symm, rfl⟩)
          · skip
            exact J51 (by have e : f_isn T x1 = (g_isn_51 T x1) := (by unfold f_isn; rw [if_neg c16, if_neg c17, if_neg c18, if_neg c19, if_pos c20]); exact e)
  · skip
    refine s_getS C d1_7 (pc' := 10) rfl (w5 hw) S_b ?_
    refine s_iloadN C d1_10 (pc' := 11) rfl rfl ?_
    refine s_baloadC C d1_11 (pc' := 12) rfl A_b (own_in hsz r0 c16) (hT _ (own_nat r0 c16)) ?_
    refine s_iconst C d1_12 (pc' := 13) rfl (1 : Int32) rfl ?_
    refine s_iand C d1_13 (pc' := 14) rfl ?_
    refine s_if_eq C d1_14 (pc' := 17) rfl (pcY := 21) rfl (fun c21 => ?_) (fun c21 => ?_)
    · skip
      refine s_iconst C d1_21 (pc' := 22) rfl (0 : Int32) rfl ?_
      exact s_retN C (by simp) d1_22 (by decide) (by decide) (by have e : f_isn T x1 = (0 : Int32) := (by unfold f_isn; rw [if_pos c16, if_pos c21]); exact ⟨e.symm, rfl⟩)
    · skip
      refine s_iconst C d1_17 (pc' := 18) rfl (1 : Int32) rfl ?_
      refine s_goto C d1_18 (pc' := 22) rfl ?_
      exact s_retN C (by simp) d1_22 (by decide) (by decide) (by have e : f_isn T x1 = (1 : Int32) := (by unfold f_isn; rw [if_pos c16, if_neg c21]); exact ⟨e.symm, rfl⟩)
theorem own_i0 : (0 : Int32).toInt = 0 := by decide
theorem own_i1 : (1 : Int32).toInt = 1 := by decide
theorem own_i58 : (58 : Int32).toInt = 58 := by decide
theorem own_i65 : (65 : Int32).toInt = 65 := by decide
theorem own_i90 : (90 : Int32).toInt = 90 := by decide
theorem own_i95 : (95 : Int32).toInt = 95 := by decide
theorem own_i97 : (97 : Int32).toInt = 97 := by decide
theorem own_i122 : (122 : Int32).toInt = 122 := by decide
theorem own_i128 : (128 : Int32).toInt = 128 := by decide
theorem own_i192 : (192 : Int32).toInt = 192 := by decide
theorem own_i214 : (214 : Int32).toInt = 214 := by decide
theorem own_i215 : (215 : Int32).toInt = 215 := by decide
theorem own_i216 : (216 : Int32).toInt = 216 := by decide
theorem own_i246 : (246 : Int32).toInt = 246 := by decide
theorem own_i247 : (247 : Int32).toInt = 247 := by decide
theorem own_i248 : (248 : Int32).toInt = 248 := by decide
theorem own_i767 : (767 : Int32).toInt = 767 := by decide
theorem own_i880 : (880 : Int32).toInt = 880 := by decide
theorem own_i893 : (893 : Int32).toInt = 893 := by decide
theorem own_i894 : (894 : Int32).toInt = 894 := by decide
theorem own_i895 : (895 : Int32).toInt = 895 := by decide
theorem own_i8191 : (8191 : Int32).toInt = 8191 := by decide
theorem own_i8204 : (8204 : Int32).toInt = 8204 := by decide
theorem own_i8205 : (8205 : Int32).toInt = 8205 := by decide
theorem own_i8304 : (8304 : Int32).toInt = 8304 := by decide
theorem own_i8591 : (8591 : Int32).toInt = 8591 := by decide
theorem own_i11264 : (11264 : Int32).toInt = 11264 := by decide
theorem own_i12271 : (12271 : Int32).toInt = 12271 := by decide
theorem own_i12289 : (12289 : Int32).toInt = 12289 := by decide
theorem own_i55295 : (55295 : Int32).toInt = 55295 := by decide
theorem own_i55296 : (55296 : Int32).toInt = 55296 := by decide
theorem own_i56191 : (56191 : Int32).toInt = 56191 := by decide
theorem own_i63744 : (63744 : Int32).toInt = 63744 := by decide
theorem own_i64975 : (64975 : Int32).toInt = 64975 := by decide
theorem own_i65008 : (65008 : Int32).toInt = 65008 := by decide
theorem own_i65533 : (65533 : Int32).toInt = 65533 := by decide
theorem own_g139 (T : Nat → Int32) (x : Int32) : g_isn_139 T x = if (65008 ≤ x.toInt ∧ x.toInt ≤ 65533) then 1 else 0 := by
  unfold g_isn_139
  simp only [Int32.lt_iff_toInt_lt, ← Int32.toInt_inj, own_i0, own_i1, own_i58, own_i65, own_i90, own_i95, own_i97, own_i122, own_i128, own_i192, own_i214, own_i215, own_i216, own_i246, own_i247, own_i248, own_i767, own_i880, own_i893, own_i894, own_i895, own_i8191, own_i8204, own_i8205, own_i8304, own_i8591, own_i11264, own_i12271, own_i12289, own_i55295, own_i55296, own_i56191, own_i63744, own_i64975, own_i65008, own_i65533]
  (repeat' split) <;> first | rfl | (exfalso; omega)
theorem own_g127 (T : Nat → Int32) (x : Int32) : g_isn_127 T x = if (63744 ≤ x.toInt ∧ x.toInt ≤ 64975) ∨ (65008 ≤ x.toInt ∧ x.toInt ≤ 65533) then 1 else 0 := by
  unfold g_isn_127
  simp only [Int32.lt_iff_toInt_lt, ← Int32.toInt_inj, own_i0, own_i1, own_i58, own_i65, own_i90, own_i95, own_i97, own_i122, own_i128, own_i192, own_i214, own_i215, own_i216, own_i246, own_i247, own_i248, own_i767, own_i880, own_i893, own_i894, own_i895, own_i8191, own_i8204, own_i8205, own_i8304, own_i8591, own_i11264, own_i12271, own_i12289, own_i55295, own_i55296, own_i56191, own_i63744, own_i64975, own_i65008, own_i65533, own_g139]
  (repeat' split) <;> first | rfl | (exfalso; omega)
theorem own_g114 (T : Nat → Int32) (x : Int32) : g_isn_114 T x = if (12289 ≤ x.toInt ∧ x.toInt ≤ 56191) ∨ (63744 ≤ x.toInt ∧ x.toInt ≤ 64975) ∨ (65008 ≤ x.toInt ∧ x.toInt ≤ 65533) then 1 else 0 := by
  unfold g_isn_114
  simp only [Int32.lt_iff_toInt_lt, ← Int32.toInt_inj, own_i0, own_i1, own_i58, own_i65, own_i90, own_i95, own_i97, own_i122, own_i128, own_i192, own_i214, own_i215, own_i216, own_i246, own_i247, own_i248, own_i767, own_i880, own_i893, own_i894, own_i895, own_i8191, own_i8204, own_i8205, own_i8304, own_i8591, own_i11264, own_i12271, own_i12289, own_i55295, own_i55296, own_i56191, own_i63744, own_i64975, own_i65008, own_i65533, own_g127]
  (repeat' split) <;> first | rfl | (exfalso; omega)
theorem own_g100 (T : Nat → Int32) (x : Int32) : g_isn_100 T x = if (11264 ≤ x.toInt ∧ x.toInt ≤ 12271) ∨ (12289 ≤ x.toInt ∧ x.toInt ≤ 56191) ∨ (63744 ≤ x.toInt ∧ x.toInt ≤ 64975) ∨ (65008 ≤ x.toInt ∧ x.toInt ≤ 65533) then 1 else 0 := by
  unfold g_isn_100
  simp only [Int32.lt_iff_toInt_lt, ← Int32.toInt_inj, own_i0, own_i1, own_i58, own_i65, own_i90, own_i95, own_i97, own_i122, own_i128, own_i192, own_i214, own_i215, own_i216, own_i246, own_i247, own_i248, own_i767, own_i880, own_i893, own_i894, own_i895, own_i8191, own_i8204, own_i8205, own_i8304, own_i8591, own_i11264, own_i12271, own_i12289, own_i55295, own_i55296, own_i56191, own_i63744, own_i64975, own_i65008, own_i65533, own_g114]
  (repeat' split) <;> first | rfl | (exfalso; omega)
theorem own_g72 (T : Nat → Int32) (x : Int32) : g_isn_72 T x = if (8204 ≤ x.toInt ∧ x.toInt ≤ 8205) ∨ (8304 ≤ x.toInt ∧ x.toInt ≤ 8591) ∨ (11264 ≤ x.toInt ∧ x.toInt ≤ 12271) ∨ (12289 ≤ x.toInt ∧ x.toInt ≤ 56191) ∨ (63744 ≤ x.toInt ∧ x.toInt ≤ 64975) ∨ (65008 ≤ x.toInt ∧ x.toInt ≤ 65533) then 1 else 0 := by
  unfold g_isn_72
  simp only [Int32.lt_iff_toInt_lt, ← Int32.toInt_inj, own_i0, own_i1, own_i58, own_i65, own_i90, own_i95, own_i97, own_i122, own_i128, own_i192, own_i214, own_i215, own_i216, own_i246, own_i247, own_i248, own_i767, own_i880, own_i893, own_i894, own_i895, own_i8191, own_i8204, own_i8205, own_i8304, own_i8591, own_i11264, own_i12271, own_i12289, own_i55295, own_i55296, own_i56191, own_i63744, own_i64975, own_i65008, own_i65533, own_g100]
  (repeat' split) <;> first | rfl | (exfalso; omega)
theorem own_g51 (T : Nat → Int32) (x : Int32) : g_isn_51 T x = if (880 ≤ x.toInt ∧ x.toInt ≤ 893) ∨ (895 ≤ x.toInt ∧ x.toInt ≤ 8191) ∨ (8204 ≤ x.toInt ∧ x.toInt ≤ 8205) ∨ (8304 ≤ x.toInt ∧ x.toInt ≤ 8591) ∨ (11264 ≤ x.toInt ∧ x.toInt ≤ 12271) ∨ (12289 ≤ x.toInt ∧ x.toInt ≤ 56191) ∨ (63744 ≤ x.toInt ∧ x.toInt ≤ 64975) ∨ (65008 ≤ x.toInt ∧ x.toInt ≤ 65533) then 1 else 0 := by
  unfold g_isn_51
  simp only [Int32.lt_iff_toInt_lt, ← Int32.toInt_inj, own_i0, own_i1, own_i58, own_i65, own_i90, own_i95, own_i97, own_i122, own_i128, own_i192, own_i214, own_i215, own_i216, own_i246, own_i247, own_i248, own_i767, own_i880, own_i893, own_i894, own_i895, own_i8191, own_i8204, own_i8205, own_i8304, own_i8591, own_i11264, own_i12271, own_i12289, own_i55295, own_i55296, own_i56191, own_i63744, own_i64975, own_i65008, own_i65533, own_g72]
  (repeat' split) <;> first | rfl | (exfalso; omega)
theorem own_f (T : Nat → Int32) (x : Int32) : f_isn T x = if x.toInt < 128 then (if (T x.toNatClampNeg &&& 1) = 0 then 0 else 1) else if (192 ≤ x.toInt ∧ x.toInt ≤ 214) ∨ (216 ≤ x.toInt ∧ x.toInt ≤ 246) ∨ (248 ≤ x.toInt ∧ x.toInt ≤ 767) ∨ (880 ≤ x.toInt ∧ x.toInt ≤ 893) ∨ (895 ≤ x.toInt ∧ x.toInt ≤ 8191) ∨ (8204 ≤ x.toInt ∧ x.toInt ≤ 8205) ∨ (8304 ≤ x.toInt ∧ x.toInt ≤ 8591) ∨ (11264 ≤ x.toInt ∧ x.toInt ≤ 12271) ∨ (12289 ≤ x.toInt ∧ x.toInt ≤ 56191) ∨ (63744 ≤ x.toInt ∧ x.toInt ≤ 64975) ∨ (65008 ≤ x.toInt ∧ x.toInt ≤ 65533) then 1 else 0 := by
  unfold f_isn
  simp only [Int32.lt_iff_toInt_lt, ← Int32.toInt_inj, own_i0, own_i1, own_i58, own_i65, own_i90, own_i95, own_i97, own_i122, own_i128, own_i192, own_i214, own_i215, own_i216, own_i246, own_i247, own_i248, own_i767, own_i880, own_i893, own_i894, own_i895, own_i8191, own_i8204, own_i8205, own_i8304, own_i8591, own_i11264, own_i12271, own_i12289, own_i55295, own_i55296, own_i56191, own_i63744, own_i64975, own_i65008, own_i65533, own_g51]
  (repeat' split) <;> first | rfl | (exfalso; omega)
theorem own_inn' (x a b : Int32) : f_inn x a b = if (a.toInt ≤ x.toInt ∧ x.toInt ≤ b.toInt) then 1 else 0 := by
  unfold f_inn
  simp only [Int32.lt_iff_toInt_lt]
  (repeat' split) <;> first | rfl | (exfalso; omega)
theorem own_inn (x a b : Int32) : f_inn x a b = 0 ↔ ¬ (a.toInt ≤ x.toInt ∧ x.toInt ≤ b.toInt) := by
  rw [own_inn']
  by_cases h : a.toInt ≤ x.toInt ∧ x.toInt ≤ b.toInt
  · rw [if_pos h]; exact ⟨fun q => absurd q (by decide), fun q => absurd h q⟩
  · rw [if_neg h]; exact ⟨fun _ => h, fun _ => rfl⟩
theorem own_r161 (x : Int32) : g_ref_161 x = if (63744 ≤ x.toInt ∧ x.toInt ≤ 64975) ∨ (65008 ≤ x.toInt ∧ x.toInt ≤ 65533) then 1 else 0 := by
  unfold g_ref_161
  simp only [own_inn]
  simp only [← Int32.toInt_inj (x := x), own_i0, own_i1, own_i58, own_i65, own_i90, own_i95, own_i97, own_i122, own_i128, own_i192, own_i214, own_i215, own_i216, own_i246, own_i247, own_i248, own_i767, own_i880, own_i893, own_i894, own_i895, own_i8191, own_i8204, own_i8205, own_i8304, own_i8591, own_i11264, own_i12271, own_i12289, own_i55295, own_i55296, own_i56191, own_i63744, own_i64975, own_i65008, own_i65533]
  (repeat' split) <;> first | rfl | (exfalso; omega)
theorem own_r138 (x : Int32) : g_ref_138 x = if (12289 ≤ x.toInt ∧ x.toInt ≤ 55295) ∨ (55296 ≤ x.toInt ∧ x.toInt ≤ 56191) ∨ (63744 ≤ x.toInt ∧ x.toInt ≤ 64975) ∨ (65008 ≤ x.toInt ∧ x.toInt ≤ 65533) then 1 else 0 := by
  unfold g_ref_138
  simp only [own_inn, own_r161]
  simp only [← Int32.toInt_inj (x := x), own_i0, own_i1, own_i58, own_i65, own_i90, own_i95, own_i97, own_i122, own_i128, own_i192, own_i214, own_i215, own_i216, own_i246, own_i247, own_i248, own_i767, own_i880, own_i893, own_i894, own_i895, own_i8191, own_i8204, own_i8205, own_i8304, own_i8591, own_i11264, own_i12271, own_i12289, own_i55295, own_i55296, own_i56191, own_i63744, own_i64975, own_i65008, own_i65533]
  (repeat' split) <;> first | rfl | (exfalso; omega)
theorem own_r112 (x : Int32) : g_ref_112 x = if (8304 ≤ x.toInt ∧ x.toInt ≤ 8591) ∨ (11264 ≤ x.toInt ∧ x.toInt ≤ 12271) ∨ (12289 ≤ x.toInt ∧ x.toInt ≤ 55295) ∨ (55296 ≤ x.toInt ∧ x.toInt ≤ 56191) ∨ (63744 ≤ x.toInt ∧ x.toInt ≤ 64975) ∨ (65008 ≤ x.toInt ∧ x.toInt ≤ 65533) then 1 else 0 := by
  unfold g_ref_112
  simp only [own_inn, own_r138]
  simp only [← Int32.toInt_inj (x := x), own_i0, own_i1, own_i58, own_i65, own_i90, own_i95, own_i97, own_i122, own_i128, own_i192, own_i214, own_i215, own_i216, own_i246, own_i247, own_i248, own_i767, own_i880, own_i893, own_i894, own_i895, own_i8191, own_i8204, own_i8205, own_i8304, own_i8591, own_i11264, own_i12271, own_i12289, own_i55295, own_i55296, own_i56191, own_i63744, own_i64975, own_i65008, own_i65533]
  (repeat' split) <;> first | rfl | (exfalso; omega)
theorem own_r86 (x : Int32) : g_ref_86 x = if (895 ≤ x.toInt ∧ x.toInt ≤ 8191) ∨ (8204 ≤ x.toInt ∧ x.toInt ≤ 8205) ∨ (8304 ≤ x.toInt ∧ x.toInt ≤ 8591) ∨ (11264 ≤ x.toInt ∧ x.toInt ≤ 12271) ∨ (12289 ≤ x.toInt ∧ x.toInt ≤ 55295) ∨ (55296 ≤ x.toInt ∧ x.toInt ≤ 56191) ∨ (63744 ≤ x.toInt ∧ x.toInt ≤ 64975) ∨ (65008 ≤ x.toInt ∧ x.toInt ≤ 65533) then 1 else 0 := by
  unfold g_ref_86
  simp only [own_inn, own_r112]
  simp only [← Int32.toInt_inj (x := x), own_i0, own_i1, own_i58, own_i65, own_i90, own_i95, own_i97, own_i122, own_i128, own_i192, own_i214, own_i215, own_i216, own_i246, own_i247, own_i248, own_i767, own_i880, own_i893, own_i894, own_i895, own_i8191, own_i8204, own_i8205, own_i8304, own_i8591, own_i11264, own_i12271, own_i12289, own_i55295, own_i55296, own_i56191, own_i63744, own_i64975, own_i65008, own_i65533]
  (repeat' split) <;> first | rfl | (exfalso; omega)
theorem own_r60 (x : Int32) : g_ref_60 x = if (248 ≤ x.toInt ∧ x.toInt ≤ 767) ∨ (880 ≤ x.toInt ∧ x.toInt ≤ 893) ∨ (895 ≤ x.toInt ∧ x.toInt ≤ 8191) ∨ (8204 ≤ x.toInt ∧ x.toInt ≤ 8205) ∨ (8304 ≤ x.toInt ∧ x.toInt ≤ 8591) ∨ (11264 ≤ x.toInt ∧ x.toInt ≤ 12271) ∨ (12289 ≤ x.toInt ∧ x.toInt ≤ 55295) ∨ (55296 ≤ x.toInt ∧ x.toInt ≤ 56191) ∨ (63744 ≤ x.toInt ∧ x.toInt ≤ 64975) ∨ (65008 ≤ x.toInt ∧ x.toInt ≤ 65533) then 1 else 0 := by
  unfold g_ref_60
  simp only [own_inn, own_r86]
  simp only [← Int32.toInt_inj (x := x), own_i0, own_i1, own_i58, own_i65, own_i90, own_i95, own_i97, own_i122, own_i128, own_i192, own_i214, own_i215, own_i216, own_i246, own_i247, own_i248, own_i767, own_i880, own_i893, own_i894, own_i895, own_i8191, own_i8204, own_i8205, own_i8304, own_i8591, own_i11264, own_i12271, own_i12289, own_i55295, own_i55296, own_i56191, own_i63744, own_i64975, own_i65008, own_i65533]
  (repeat' split) <;> first | rfl | (exfalso; omega)
theorem own_r34 (x : Int32) : g_ref_34 x = if (192 ≤ x.toInt ∧ x.toInt ≤ 214) ∨ (216 ≤ x.toInt ∧ x.toInt ≤ 246) ∨ (248 ≤ x.toInt ∧ x.toInt ≤ 767) ∨ (880 ≤ x.toInt ∧ x.toInt ≤ 893) ∨ (895 ≤ x.toInt ∧ x.toInt ≤ 8191) ∨ (8204 ≤ x.toInt ∧ x.toInt ≤ 8205) ∨ (8304 ≤ x.toInt ∧ x.toInt ≤ 8591) ∨ (11264 ≤ x.toInt ∧ x.toInt ≤ 12271) ∨ (12289 ≤ x.toInt ∧ x.toInt ≤ 55295) ∨ (55296 ≤ x.toInt ∧ x.toInt ≤ 56191) ∨ (63744 ≤ x.toInt ∧ x.toInt ≤ 64975) ∨ (65008 ≤ x.toInt ∧ x.toInt ≤ 65533) then 1 else 0 := by
  unfold g_ref_34
  simp only [own_inn, own_r60]
  simp only [← Int32.toInt_inj (x := x), own_i0, own_i1, own_i58, own_i65, own_i90, own_i95, own_i97, own_i122, own_i128, own_i192, own_i214, own_i215, own_i216, own_i246, own_i247, own_i248, own_i767, own_i880, own_i893, own_i894, own_i895, own_i8191, own_i8204, own_i8205, own_i8304, own_i8591, own_i11264, own_i12271, own_i12289, own_i55295, own_i55296, own_i56191, own_i63744, own_i64975, own_i65008, own_i65533]
  (repeat' split) <;> first | rfl | (exfalso; omega)
theorem own_ref (x : Int32) : f_ref x = if (58 ≤ x.toInt ∧ x.toInt ≤ 58) ∨ (65 ≤ x.toInt ∧ x.toInt ≤ 90) ∨ (95 ≤ x.toInt ∧ x.toInt ≤ 95) ∨ (97 ≤ x.toInt ∧ x.toInt ≤ 122) ∨ (192 ≤ x.toInt ∧ x.toInt ≤ 214) ∨ (216 ≤ x.toInt ∧ x.toInt ≤ 246) ∨ (248 ≤ x.toInt ∧ x.toInt ≤ 767) ∨ (880 ≤ x.toInt ∧ x.toInt ≤ 893) ∨ (895 ≤ x.toInt ∧ x.toInt ≤ 8191) ∨ (8204 ≤ x.toInt ∧ x.toInt ≤ 8205) ∨ (8304 ≤ x.toInt ∧ x.toInt ≤ 8591) ∨ (11264 ≤ x.toInt ∧ x.toInt ≤ 12271) ∨ (12289 ≤ x.toInt ∧ x.toInt ≤ 55295) ∨ (55296 ≤ x.toInt ∧ x.toInt ≤ 56191) ∨ (63744 ≤ x.toInt ∧ x.toInt ≤ 64975) ∨ (65008 ≤ x.toInt ∧ x.toInt ≤ 65533) then 1 else 0 := by
  unfold f_ref
  simp only [own_inn, own_r34]
  simp only [← Int32.toInt_inj (x := x), own_i0, own_i1, own_i58, own_i65, own_i90, own_i95, own_i97, own_i122, own_i128, own_i192, own_i214, own_i215, own_i216, own_i246, own_i247, own_i248, own_i767, own_i880, own_i893, own_i894, own_i895, own_i8191, own_i8204, own_i8205, own_i8304, own_i8591, own_i11264, own_i12271, own_i12289, own_i55295, own_i55296, own_i56191, own_i63744, own_i64975, own_i65008, own_i65533]
  (repeat' split) <;> first | rfl | (exfalso; omega)
def own_T (j : Nat) : Int32 := if j = 58 ∨ (65 ≤ j ∧ j ≤ 90) ∨ j = 95 ∨ (97 ≤ j ∧ j ≤ 122) then 3 else if j = 45 ∨ j = 46 ∨ (48 ≤ j ∧ j ≤ 57) then 2 else 0
theorem own_T1 (j : Nat) : (own_T j &&& 1) = (if j = 58 ∨ (65 ≤ j ∧ j ≤ 90) ∨ j = 95 ∨ (97 ≤ j ∧ j ≤ 122) then 1 else 0) := by
  unfold own_T
  (repeat' split) <;> decide
theorem own_eq (x : Int32) : f_isn own_T (x &&& 65535).toUInt32.toUInt16.toUInt32.toInt32 = f_ref (x &&& 65535) := by
  have m : (x &&& 65535).toInt = x.toInt % (2 ^ 16 : Nat) := c_mask x 65535 16 (by decide) (by decide)
  have c := c_i2c (x &&& 65535)
  have e : (x &&& 65535).toUInt32.toUInt16.toUInt32.toInt32 = x &&& 65535 := by rw [← Int32.toInt_inj]; omega
  rw [e, own_f, own_ref, own_T1]
  generalize x &&& 65535 = v at *
  have hn : v.toNatClampNeg = v.toInt.toNat := rfl
  rw [hn]
  by_cases h : v.toInt < 128
  · rw [if_pos h]
    by_cases q : v.toInt.toNat = 58 ∨ (65 ≤ v.toInt.toNat ∧ v.toInt.toNat ≤ 90) ∨ v.toInt.toNat = 95 ∨ (97 ≤ v.toInt.toNat ∧ v.toInt.toNat ≤ 122)
    · rw [if_pos q, if_neg (by decide), if_pos (by omega)]
    · rw [if_neg q, if_pos rfl, if_neg (by omega)]
  · rw [if_neg h]
    (repeat' split) <;> first | rfl | (exfalso; omega)


theorem st_ref {args : Array Value} {s : State} {C f d : String} {ty : FieldType} (g : (Jvm.Cond.arrayOf (Jvm.Term.static C f d) ty).value args s none s [] = some true) (hi : (Jvm.Cond.initializedFor C f d).before args s = true ∨ ((Jvm.Cond.initialized C).before args s = true ∧ (Jvm.Cond.laysStatic C f d).before args s = true)) : ∃ b cl, Sta s s.heap C f d (.ref b) ∧ Arr s s.heap b cl ty ∧ ∀ idx, (Jvm.Term.static C f d).eval args s none idx s = some (.ref b) := by
  obtain ⟨b, eb⟩ := arr_v g
  obtain ⟨cl, A⟩ := Arr.start eb g
  exact ⟨b, cl, Sta.start eb hi, A, fun idx => by simpa [Jvm.Term.eval] using eb⟩
theorem st_len {args : Array Value} {s : State} {t : Term} {ty : FieldType} {b : Addr} {cl : Cell} {n : Int32} (A : Arr s s.heap b cl ty) (eb : ∀ idx, t.eval args s none idx s = some (.ref b)) (g : (Jvm.Cond.eq (Jvm.Term.length t) (Jvm.Term.int n)).value args s none s [] = some true) : cl.slots.size < 2 ^ 31 ∧ cl.slots.size.toInt32 = n := by
  have e := eqv_i (Term.int_eval n) g
  obtain ⟨b', c', h1, h2, h3, h4⟩ := Jvm.Lib.length_spec e
  obtain rfl : b = b' := Value.ref.inj (Option.some.inj ((eb []).symm.trans h1))
  obtain rfl : cl = c' := Option.some.inj ((A.fin (Vm.Alike.refl _)).symm.trans h2)
  exact ⟨h3, (Value.int.inj h4).symm⟩
theorem st_size {cl : Cell} {n : Int32} (h : cl.slots.size < 2 ^ 31 ∧ cl.slots.size.toInt32 = n) : cl.slots.size = n.toNatClampNeg := by rw [← h.2]; exact (len32 h.1).1.symm
theorem st_el {args : Array Value} {s : State} {t : Term} {ty : FieldType} {b : Addr} {cl : Cell} {j v : Int32} (A : Arr s s.heap b cl ty) (eb : ∀ idx, t.eval args s none idx s = some (.ref b)) (hj : ¬ j < 0) (g : (Jvm.Cond.eq (Jvm.Term.elem t (Jvm.Term.int j)) (Jvm.Term.int v)).value args s none s [] = some true) : cl.slots[j.toNatClampNeg]? = some (.int v) := by
  have e := eqv_i (Term.int_eval v) g
  rw [elem_f (eb []) (Term.int_eval j) (A.fin (Vm.Alike.refl _)) hj] at e
  exact e
theorem st_elL {args : Array Value} {s : State} {t : Term} {ty : FieldType} {b : Addr} {cl : Cell} {j : Int32} {v : Int64} (A : Arr s s.heap b cl ty) (eb : ∀ idx, t.eval args s none idx s = some (.ref b)) (hj : ¬ j < 0) (g : (Jvm.Cond.eq (Jvm.Term.elem t (Jvm.Term.int j)) (Jvm.Term.long v)).value args s none s [] = some true) : cl.slots[j.toNatClampNeg]? = some (.long v) := by
  have e := eqv_l (y := v) (by simp [Jvm.Term.eval]) g
  rw [elem_f (eb []) (Term.int_eval j) (A.fin (Vm.Alike.refl _)) hj] at e
  exact e
theorem st_elR {args : Array Value} {s : State} {t t2 : Term} {ty : FieldType} {b y : Addr} {cl : Cell} {j : Int32} (A : Arr s s.heap b cl ty) (eb : ∀ idx, t.eval args s none idx s = some (.ref b)) (hj : ¬ j < 0) (e2 : t2.eval args s none [] s = some (.ref y)) (g : (Jvm.Cond.eq (Jvm.Term.elem t (Jvm.Term.int j)) t2).value args s none s [] = some true) : cl.slots[j.toNatClampNeg]? = some (.ref y) := by
  obtain ⟨x, y', h1, h2, -, k2⟩ := cmp_v (Or.inl g)
  obtain rfl : Value.ref y = y' := Option.some.inj (e2.symm.trans h2)
  have q := gotT (eq_R h1 h2 k2.2 rfl) g
  subst q
  rw [elem_f (eb []) (Term.int_eval j) (A.fin (Vm.Alike.refl _)) hj] at h1
  exact h1
theorem av_of {Z : State} {h : Heap} {b : Addr} {cl : Cell} {ty : FieldType} {vs : List Value} (A : Arr Z h b cl ty) (hs : cl.slots.size = vs.length) (hl : vs.length < 2 ^ 31) (he : ∀ i, i < vs.length → cl.slots[i]? = vs[i]?) (hf : ∀ v ∈ vs, fits ty v = true) : Av Z h b ty vs := by
  refine ⟨cl, A, ?_, hl, hf⟩
  apply Array.ext_getElem?
  intro i
  by_cases hi : i < vs.length
  · rw [he i hi]; simp
  · rw [Array.getElem?_eq_none (by omega), Array.getElem?_eq_none (by simpa using hi)]

theorem own_bx {args : Array Value} {s : State} {t : Term} {b : Addr} {cl : Cell} {z v : Int32} (TB : Tab s s.heap b cl .byte z) (eb : ∀ idx, t.eval args s none idx s = some (.ref b)) (j : Int32) (hj : ¬ (j < 0 ∨ cl.slots.size ≤ j.toNatClampNeg)) : (Jvm.Cond.eq (Jvm.Term.elem t (Jvm.Term.index 0)) (Jvm.Term.int v)).value args s none s [j.toNatClampNeg] = some (decide (atv cl j = v)) := by
  have nn : ¬ j < 0 := fun x => hj (Or.inl x)
  have e1 : (Jvm.Term.elem t (Jvm.Term.index 0)).eval args s none [j.toNatClampNeg] s = some (.int (atv cl j)) := (elem_f (eb _) (idx_at nn) (TB.1.fin (Vm.Alike.refl _)) nn).trans (TB.2.2.2 j hj)
  exact Cond.eq_ints e1 (Term.int_eval v)
theorem own_nar {args : Array Value} {s : State} (hfit : Fit s) (hw : Hw args s) (hn : narrow_1.value args s none s [] = some true) : ∃ b cl, Sta s s.heap "com/example/dewk/dewk/xml/XmlName" "ASCII_NAMES" "[B" (.ref b) ∧ Arr s s.heap b cl .byte ∧ cl.slots.size = 128 ∧ ∀ j, j < 128 → cl.slots[j]? = some (.int (own_T j)) := by
  obtain ⟨n1, hn⟩ := and_e hn
  obtain ⟨n2, hn⟩ := and_e hn
  obtain ⟨r0, hn⟩ := and_e hn
  obtain ⟨s45, hn⟩ := and_e hn
  obtain ⟨s46, hn⟩ := and_e hn
  obtain ⟨s47, hn⟩ := and_e hn
  obtain ⟨r48, hn⟩ := and_e hn
  obtain ⟨s58, hn⟩ := and_e hn
  obtain ⟨r59, hn⟩ := and_e hn
  obtain ⟨r65, hn⟩ := and_e hn
  obtain ⟨r91, hn⟩ := and_e hn
  obtain ⟨s95, hn⟩ := and_e hn
  obtain ⟨s96, hn⟩ := and_e hn
  obtain ⟨r97, r123⟩ := and_e hn
  obtain ⟨b, cl, S, A, eb⟩ := st_ref n1 (Or.inr ⟨(w3 hw), (w6 hw)⟩)
  have hl := st_len A eb n2
  have hs : cl.slots.size = 128 := st_size hl
  refine ⟨b, cl, S, A, hs, fun i hi => ?_⟩
  have TB : Tab s s.heap b cl .byte 128 := Tab.start hfit A (by simp) hl.1 hl.2 (by decide)
  obtain ⟨j, hj⟩ : ∃ j : Int32, j.toInt = (i : Int) := ⟨Int32.ofInt (i : Int), own_ofi i hi⟩
  obtain ⟨e1, e2⟩ := idx_n hj
  have hin : ¬ (j < 0 ∨ cl.slots.size ≤ j.toNatClampNeg) := by rw [e1, hs]; rintro (q | q); exact e2 q; omega
  have hval := TB.2.2.2 j hin
  rw [e1] at hval
  rw [hval]
  have ix : (Jvm.Term.index 0).eval args s none [j.toNatClampNeg] s = some (.int j) := idx_at e2
  have AT : ∀ {c : Jvm.Cond}, (Jvm.Cond.all (Jvm.Term.static "com/example/dewk/dewk/xml/XmlName" "ASCII_NAMES" "[B") c).value args s none s [] = some true → c.value args s none s [j.toNatClampNeg] = some true := fun {c} g => Cond.all_elim (eb []) (A.fin (Vm.Alike.refl _)) g j.toNatClampNeg (by rw [e1, hs]; exact hi)
  have SG : ∀ {k v : Int32}, ¬ k < 0 → k.toNatClampNeg = i → (Jvm.Cond.eq (Jvm.Term.elem (Jvm.Term.static "com/example/dewk/dewk/xml/XmlName" "ASCII_NAMES" "[B") (Jvm.Term.int k)) (Jvm.Term.int v)).value args s none s [] = some true → atv cl j = v := fun {k v} h0 h1 g => by
    have q := st_el A eb h0 g
    rw [h1, hval] at q
    exact Value.int.inj (Option.some.inj q)
  have LT : ∀ (k : Int32), (Jvm.Cond.lt (Jvm.Term.index 0) (Jvm.Term.int k)).value args s none s [j.toNatClampNeg] = some (decide (j < k)) := fun k => Cond.lt_ints ix (Term.int_eval k)
  have LE : ∀ (k : Int32), (Jvm.Cond.le (Jvm.Term.int k) (Jvm.Term.index 0)).value args s none s [j.toNatClampNeg] = some (decide (k ≤ j)) := fun k => Cond.le_ints (Term.int_eval k) ix
  have q0 := or_e2 (LE 45) (own_bx TB eb j hin) (AT r0)
  have q48 := or3 (AT r48) (LT 48) (LE 58) (own_bx TB eb j hin)
  have q59 := or3 (AT r59) (LT 59) (LE 65) (own_bx TB eb j hin)
  have q65 := or3 (AT r65) (LT 65) (LE 91) (own_bx TB eb j hin)
  have q91 := or3 (AT r91) (LT 91) (LE 95) (own_bx TB eb j hin)
  have q97 := or3 (AT r97) (LT 97) (LE 123) (own_bx TB eb j hin)
  have q123 := or_e2 (LT 123) (own_bx TB eb j hin) (AT r123)
  simp only [Int32.lt_iff_toInt_lt, Int32.le_iff_toInt_le, hj, show (45 : Int32).toInt = 45 from by decide, show (48 : Int32).toInt = 48 from by decide, show (58 : Int32).toInt = 58 from by decide, show (59 : Int32).toInt = 59 from by decide, show (65 : Int32).toInt = 65 from by decide, show (91 : Int32).toInt = 91 from by decide, show (95 : Int32).toInt = 95 from by decide, show (97 : Int32).toInt = 97 from by decide, show (123 : Int32).toInt = 123 from by decide] at q0 q48 q59 q65 q91 q97 q123
  have f45 : i = 45 → atv cl j = 2 := fun h => SG (by decide) (by rw [h]; decide) s45
  have f46 : i = 46 → atv cl j = 2 := fun h => SG (by decide) (by rw [h]; decide) s46
  have f47 : i = 47 → atv cl j = 0 := fun h => SG (by decide) (by rw [h]; decide) s47
  have f58 : i = 58 → atv cl j = 3 := fun h => SG (by decide) (by rw [h]; decide) s58
  have f95 : i = 95 → atv cl j = 3 := fun h => SG (by decide) (by rw [h]; decide) s95
  have f96 : i = 96 → atv cl j = 0 := fun h => SG (by decide) (by rw [h]; decide) s96
  have key : atv cl j = own_T i := by
    unfold own_T
    split
    · rename_i h
      rcases h with h | h | h | h
      · exact f58 h
      · exact (q65.resolve_left (by omega)).resolve_left (by omega)
      · exact f95 h
      · exact (q97.resolve_left (by omega)).resolve_left (by omega)
    · split
      · rename_i h1 h
        rcases h with h | h | h
        · exact f45 h
        · exact f46 h
        · exact (q48.resolve_left (by omega)).resolve_left (by omega)
      · rename_i h1 h2
        rcases (show i < 45 ∨ i = 47 ∨ (59 ≤ i ∧ i < 65) ∨ (91 ≤ i ∧ i < 95) ∨ i = 96 ∨ 123 ≤ i by omega) with h | h | h | h | h | h
        · exact q0.resolve_left (by omega)
        · exact f47 h
        · exact (q59.resolve_left (by omega)).resolve_left (by omega)
        · exact (q91.resolve_left (by omega)).resolve_left (by omega)
        · exact f96 h
        · exact q123.resolve_left (by omega)
  rw [key]

theorem own_r0 (x : Int32) : 0 ≤ (x &&& 65535).toUInt32.toUInt16.toUInt32.toInt32.toInt := (c_i2c _).2.1

set_option maxRecDepth 65536 in
set_option maxHeartbeats 40000000 in
theorem law (l : Launch) (Z : State) (a0 : Array Value) (hw : Hw a0 Z) (x1 : Int32) (b : Addr) (cl : Cell) (h0 : Heap) (n0 : Nat) (Z0 : n0 ≤ h0.size) (S_b : Sta Z h0 "com/example/dewk/dewk/xml/XmlName" "ASCII_NAMES" "[B" (.ref b)) (A_b : Arr Z h0 b cl .byte) (hsz : cl.slots.size = 128) (hT : ∀ j, j < 128 → cl.slots[j]? = some (.int (own_T j))) :
    Met l Z x code maxLocals ret tables_1 room_1 #[(.int x1)] h0 n0 (RetI (fun z h => z = 1)) := by
  refine Met.intro pn0 (own := "com/example/dewk/dewk/xml/XmlNameIsNameStartPinLaw") rfl (nm := "law") rfl (fun m => ef0 m x1) ?_
  intro p e s m below meth c C
  refine s_iloadN C at_0 (pc' := 1) rfl rfl ?_
  refine s_ldc C at_1 (pc' := 3) rfl (w0 hw) ?_
  refine s_iand C at_3 (pc' := 4) rfl ?_
  refine s_istoreNP C at_4 (pc' := 5) rfl #[.val (.int x1), .val (.int (x1 &&& (65535 : Int32))), .unset] rfl ?_
  refine s_iloadN C at_5 (pc' := 6) rfl rfl ?_
  refine s_i2c C at_6 (pc' := 7) rfl ?_
  refine s_istoreNP C at_7 (pc' := 8) rfl #[.val (.int x1), .val (.int (x1 &&& (65535 : Int32))), .val (.int (x1 &&& (65535 : Int32)).toUInt32.toUInt16.toUInt32.toInt32)] rfl ?_
  refine s_iloadN C at_8 (pc' := 9) rfl rfl ?_
  refine s_callSI C at_9 (pc' := 12) rfl (w1 hw) (w2 hw) (w3 hw) (w4 hw) (by decide) [(.int (x1 &&& (65535 : Int32)).toUInt32.toUInt16.toUInt32.toInt32)] [] pd0 rfl rfl (c_isn l Z a0 hw own_T (x1 &&& (65535 : Int32)).toUInt32.toUInt16.toUInt32.toInt32 h0 n0 Z0 b cl S_b A_b hsz hT (own_r0 _)) rfl (W := 0) rfl (by decide) (by decide) (k' := 0) rfl (by decide) (n' := 0) rfl (by decide) (fun _ _ q1 => ?_)
  obtain ⟨rfl, rfl⟩ := q1
  refine s_iloadN C at_12 (pc' := 13) rfl rfl ?_
  refine s_callSI C at_13 (pc' := 16) rfl (w7 hw) (w8 hw) (w9 hw) (w10 hw) (by decide) [(.int (x1 &&& (65535 : Int32)))] [(.int (f_isn own_T (x1 &&& (65535 : Int32)).toUInt32.toUInt16.toUInt32.toInt32))] pd1 rfl rfl (c_ref l Z a0 hw (x1 &&& (65535 : Int32)) h0 n0 Z0 ) rfl (W := 1) rfl (by decide) (by decide) (k' := 0) rfl (by decide) (n' := 0) rfl (by decide) (fun r2 _ qr2 => ?_)
  obtain ⟨rfl, rfl⟩ := qr2
  refine s_icmp_ne C at_16 (pc' := 19) rfl (pcY := 23) rfl (fun hc => by exfalso; exact hc (own_eq _)) (fun c3 => ?_)
  refine s_iconst C at_19 (pc' := 20) rfl (1 : Int32) rfl ?_
  refine s_goto C at_20 (pc' := 24) rfl ?_
  exact s_retN C (by simp) at_24 (by decide) (by decide) rfl
end Own
end Jvm.Pilot.@@N@@
namespace Jvm.Pilot.@@N@@
open Jvm Jvm.ClassFile Sem Op Lib Jvm.Free Jvm.Stand Jvm.LawKit Jvm.RoadKit Bundle Own Jvm.Pilot.@@N@@.Jvm.D
set_option maxRecDepth 65536 in
set_option maxHeartbeats 40000000 in
theorem comes_1 {Post : Tables → Env → Array Value → State → Outcome → State → Prop} (hpost : ∀ tb e args s v u, (limb_1_1.after args s (.returned v) u = true ∧ limb_1_2.after args s (.returned v) u = true ∧ True) → FrameEnd s (.returned v) u (Jvm.fieldLocs frame_1_writes args s ++ Jvm.arrayLocs frame_1_arrays args s ++ Jvm.staticLocs frame_1_statics s) 0 0 → Post tb e args s (.returned v) u) :
    ArmFor flags0 classFile x code maxLocals ret World_1 tables_1 room_1 Calls_1 rest_1 Pre_1 Post := by
  intro l hfl _ _ p e ha hc hk s m args below hf hA hF happ hP
  obtain ⟨hcalls, hrest, hpre⟩ := hP
  obtain ⟨-, -, -, hnamed, -, -, -, hat⟩ := (Spec.applies_iff hf).mp happ
  obtain ⟨hg, hn⟩ := and_e (Cond.before_iff.mp (show (Jvm.Cond.and given_1 narrow_1).before args s = true from hpre))
  obtain ⟨g1, g2⟩ := and_e hg
  obtain ⟨w0, rfl⟩ : ∃ w0 : Value, args = #[w0] := by
    have hs : args.size = 1 := by simpa [Cond.value, given_1] using g1
    obtain ⟨L⟩ := args
    match L, hs with
    | [w0], _ => exact ⟨w0, rfl⟩
  have hw := fun d (hd : d ∈ tables_1) => atoms_spec (ws := Jvm.Cond.code x code maxLocals ret :: tables_1) hat d (List.mem_cons_of_mem _ hd)
  have hfit : Fit s := fun {y c} hc i hi => by
    obtain ⟨ha, rfl⟩ := Array.getElem?_eq_some_iff.mp hc
    have q := List.all_eq_true.mp ((Array.all_eq_true_iff_forall_mem.mp hF) _ (Array.getElem_mem ha)) i (List.mem_range.mpr hi)
    simpa [Array.getElem?_eq_getElem hi] using q
  obtain ⟨i0, ei0⟩ := is_v g2
  obtain rfl : w0 = (.int i0) := Option.some.inj ei0
  obtain ⟨b, cl, T1, T2, T3, T4⟩ := own_nar hfit hw hn
  obtain ⟨n, o, h1, h2, h3, _, L, rfl, ⟨⟨_, rfl, rfl⟩, N⟩, hq⟩ := law l s _ hw i0 b cl s.heap s.heap.size (Nat.le_refl _) T1 T2 T3 T4 p e ha hc hk s m _ below hf ((Spec.applies_iff_loose hf).mp happ).1 ⟨rfl, State.Warmed39.refl s, rfl⟩ trivial
  refine ⟨n, _, h1, h2, h3, hpost _ _ _ _ _ _ ⟨Cond.after_iff.mpr rfl, Cond.after_iff.mpr (eq_i res_at (Term.int_eval (1)) rfl), trivial⟩ ⟨hq.1, hq.2.1, (hq.2.2.sift fun y hy => Or.inr (N y hy)).mono (by decide) (by decide)⟩⟩
theorem main_1_1 : Claimed_1_1 := comes_1 fun _ _ _ _ _ _ h hF => ⟨h.1, hF⟩
theorem main_1_2 : Claimed_1_2 := comes_1 fun _ _ _ _ _ _ h hF => ⟨h.2.1, hF⟩
end Jvm.Pilot.@@N@@
namespace Jvm.Pilot.@@N@@
open Jvm Jvm.ClassFile Sem Op Lib Jvm.Free Jvm.Stand Jvm.Pilot.@@N@@.Jvm.D
/-! MADE BY PROGRAM (witnessworld.py) out of the Statement's table words and the real class files: 9 classes; the members and pool entries that the words name. The judged class is class 1, her method 3. -/
namespace start1
open Jvm.ClassFile
def u (s : String) : CpInfo := .utf8 (stringToUtf16 s)
/-- a pool by its gaps: so many unusable entries, then the entry; so many at the end -/
def gap : Nat → List CpInfo → List CpInfo
  | 0, r => r
  | n + 1, r => .unusable :: gap n r
def poolList (es : List (Nat × CpInfo)) (last : Nat) : List CpInfo := es.foldr (fun e r => gap e.1 (e.2 :: r)) (gap last [])
def pool (es : List (Nat × CpInfo)) (last : Nat) : Array CpInfo := ⟨poolList es last⟩
def fileOf (pool : Array CpInfo) (this : Nat) (attrs : Array Attribute := #[]) (ms : Array MethodInfo := #[]) (fl : Nat := 33) (sup : Nat := 0) (ifs : Array Nat := #[]) (fds : Array FieldInfo := #[]) : ClassFile where
  minorVersion := 0
  majorVersion := 65
  constantPool := pool
  accessFlags := fl
  thisClass := this
  superClass := sup
  interfaces := ifs
  fields := fds
  methods := ms
  attributes := attrs
def plain (name : String) (sup : Option ClassId) : Class where
  name := name
  kind := .ordinary
  loader := none
  accessFlags := 33
  super := sup
  interfaces := #[]
  cf := none
  fields := #[]
  methods := #[]
  instanceTypes := #[]
  staticTypes := #[]
  resolved := #[]
  callSites := []
  init := .initialized
  statics := none
  mirror := none

def pool0 : Array CpInfo := pool [(5, u "<init>"), (0, u "()V"), (1, .class_ 10), (1, u "java/lang/Object")] 113

def k0m0 : Method := { name := "<init>", desc := "()V", sig := { parameters := [], returnType := none }, accessFlags := 1, code := none }
/-- java/lang/Object -/
def k0 : Class := { plain "java/lang/Object" none with
  accessFlags := 33
  interfaces := #[]
  cf := some (fileOf pool0 8 #[] #[{ accessFlags := 1, nameIndex := 5, descriptorIndex := 6, attributes := #[] }] 33 0 #[] #[])
  fields := #[]
  methods := #[k0m0]
  instanceTypes := #[]
  staticTypes := #[]
  resolved := Array.replicate 124 none
  statics := none }

def pool1 : Array CpInfo := pool [(2, .class_ 4), (1, u "java/lang/Object"), (0, u "<init>"), (0, u "()V"), (0, .methodref 8 9), (0, .class_ 10), (0, .nameAndType 11 12), (0, u "com/example/dewk/dewk/xml/XmlNameIsNameStartPinLaw"), (0, u "in"), (0, u "(III)Z"), (0, .integer 55295), (0, .integer 55296), (0, .integer 56191), (0, .integer 63744), (0, .integer 64975), (0, .integer 65008), (0, .integer 65533), (0, .integer 65535), (0, .methodref 22 23), (0, .class_ 24), (0, .nameAndType 25 26), (0, u "com/example/dewk/dewk/xml/XmlName"), (0, u "isNameStart"), (0, u "(C)Z"), (0, .methodref 8 28), (0, .nameAndType 29 30), (0, u "reference"), (0, u "(I)Z"), (3, u "law")] 2

def k1m0 : Method := { name := "<init>", desc := "()V", sig := { parameters := [], returnType := none }, accessFlags := 2, code := none }
def k1c1 : Code := { maxStack := 2, maxLocals := 3, code := method_2_code, exceptionTable := #[], attributes := #[] }
def k1m1 : Method := { name := "in", desc := "(III)Z", sig := { parameters := [.int, .int, .int], returnType := some .boolean }, accessFlags := 10, code := some k1c1 }
def k1c2 : Code := { maxStack := 3, maxLocals := 1, code := method_3_code, exceptionTable := #[], attributes := #[] }
def k1m2 : Method := { name := "reference", desc := "(I)Z", sig := { parameters := [.int], returnType := some .boolean }, accessFlags := 10, code := some k1c2 }
def k1c3 : Code := { maxStack := 2, maxLocals := 3, code := code, exceptionTable := #[], attributes := #[] }
def k1m3 : Method := { name := "law", desc := "(I)Z", sig := { parameters := [.int], returnType := some .boolean }, accessFlags := 9, code := some k1c3 }
/-- com/example/dewk/dewk/xml/XmlNameIsNameStartPinLaw -/
def k1 : Class := { plain "com/example/dewk/dewk/xml/XmlNameIsNameStartPinLaw" (some 0) with
  accessFlags := 49
  interfaces := #[]
  cf := some (fileOf pool1 8 #[] #[{ accessFlags := 2, nameIndex := 5, descriptorIndex := 6, attributes := #[] }, { accessFlags := 10, nameIndex := 11, descriptorIndex := 12, attributes := #[] }, { accessFlags := 10, nameIndex := 29, descriptorIndex := 30, attributes := #[] }, { accessFlags := 9, nameIndex := 34, descriptorIndex := 30, attributes := #[] }] 49 2 #[] #[])
  fields := #[]
  methods := #[k1m0, k1m1, k1m2, k1m3]
  instanceTypes := #[]
  staticTypes := #[]
  resolved := Array.replicate 37 none
  statics := none }

def pool2 : Array CpInfo := pool [(2, .class_ 4), (1, u "java/lang/Object"), (3, .class_ 10), (1, u "com/example/dewk/dewk/xml/XmlName"), (0, u "qualified"), (0, u "Ljava/lang/String;"), (19, u "isNameStart"), (0, u "(C)Z"), (2, u "isQualified"), (0, u "Z"), (6, u "prefix"), (5, u "local"), (0, .fieldref 8 52), (0, .nameAndType 53 54), (0, u "ASCII_NAMES"), (0, u "[B"), (0, .integer 56191), (0, .integer 63744), (0, .integer 64975), (0, .integer 65008), (0, .integer 65533), (17, u "XMLNS"), (1, u "NAME_START"), (0, u "B"), (1, u "NAME_PART")] 13

def k2c0 : Code := { maxStack := 2, maxLocals := 1, code := prog_135_method_2_code, exceptionTable := #[], attributes := #[] }
def k2m0 : Method := { name := "isNameStart", desc := "(C)Z", sig := { parameters := [.char], returnType := some .boolean }, accessFlags := 8, code := some k2c0 }
/-- com/example/dewk/dewk/xml/XmlName -/
def k2 : Class := { plain "com/example/dewk/dewk/xml/XmlName" (some 0) with
  accessFlags := 33
  interfaces := #[]
  cf := some (fileOf pool2 8 #[] #[{ accessFlags := 8, nameIndex := 32, descriptorIndex := 33, attributes := #[] }] 33 2 #[] #[{ accessFlags := 26, nameIndex := 77, descriptorIndex := 12, attributes := #[] }, { accessFlags := 26, nameIndex := 79, descriptorIndex := 80, attributes := #[] }, { accessFlags := 26, nameIndex := 82, descriptorIndex := 80, attributes := #[] }, { accessFlags := 26, nameIndex := 53, descriptorIndex := 54, attributes := #[] }, { accessFlags := 18, nameIndex := 11, descriptorIndex := 12, attributes := #[] }, { accessFlags := 18, nameIndex := 44, descriptorIndex := 12, attributes := #[] }, { accessFlags := 18, nameIndex := 50, descriptorIndex := 12, attributes := #[] }, { accessFlags := 18, nameIndex := 36, descriptorIndex := 37, attributes := #[] }])
  fields := #[{ name := "XMLNS", type := (.object "java/lang/String"), accessFlags := 26, slot := 0, constantValue := 0 }, { name := "NAME_START", type := .byte, accessFlags := 26, slot := 1, constantValue := 0 }, { name := "NAME_PART", type := .byte, accessFlags := 26, slot := 2, constantValue := 0 }, { name := "ASCII_NAMES", type := (.array .byte), accessFlags := 26, slot := 3, constantValue := 0 }, { name := "qualified", type := (.object "java/lang/String"), accessFlags := 18, slot := 0, constantValue := 0 }, { name := "prefix", type := (.object "java/lang/String"), accessFlags := 18, slot := 1, constantValue := 0 }, { name := "local", type := (.object "java/lang/String"), accessFlags := 18, slot := 2, constantValue := 0 }, { name := "isQualified", type := .boolean, accessFlags := 18, slot := 3, constantValue := 0 }]
  methods := #[k2m0]
  instanceTypes := #[(.object "java/lang/String"), (.object "java/lang/String"), (.object "java/lang/String"), .boolean]
  staticTypes := #[(.object "java/lang/String"), .byte, .byte, (.array .byte)]
  resolved := Array.replicate 96 none
  statics := some 0 }

def pool3 : Array CpInfo := pool [(1, u "java/lang/Cloneable"), (0, .class_ 1), (0, u "java/lang/Object"), (0, .class_ 3)] 3

/-- java/lang/Cloneable -/
def k3 : Class := { plain "java/lang/Cloneable" (some 0) with
  accessFlags := 1537
  interfaces := #[]
  cf := some (fileOf pool3 2 #[] #[] 1537 4 #[] #[])
  fields := #[]
  methods := #[]
  instanceTypes := #[]
  staticTypes := #[]
  resolved := Array.replicate 8 none
  statics := none }

def pool4 : Array CpInfo := pool [(1, u "java/io/Serializable"), (0, .class_ 1), (0, u "java/lang/Object"), (0, .class_ 3)] 3

/-- java/io/Serializable -/
def k4 : Class := { plain "java/io/Serializable" (some 0) with
  accessFlags := 1537
  interfaces := #[]
  cf := some (fileOf pool4 2 #[] #[] 1537 4 #[] #[])
  fields := #[]
  methods := #[]
  instanceTypes := #[]
  staticTypes := #[]
  resolved := Array.replicate 8 none
  statics := none }

/-- the primitive byte -/
def k5 : Class := { plain "byte" none with kind := .primitive 'B', accessFlags := 0x411 }
/-- [B -/
def k6 : Class := { plain "[B" (some 0) with kind := .array 5 .byte, interfaces := #[3, 4], accessFlags := 1041 }

/-- the primitive int -/
def k7 : Class := { plain "int" none with kind := .primitive 'I', accessFlags := 0x411 }
/-- [I -/
def k8 : Class := { plain "[I" (some 0) with kind := .array 7 .int, interfaces := #[3, 4], accessFlags := 1041 }

def heap : Heap := #[{ cls := 2, slots := #[.null, .int 0, .int 0, .ref 1], vm := .statics 2 },
  { cls := 6, slots := #[.int 0, .int 0, .int 0, .int 0, .int 0, .int 0, .int 0, .int 0, .int 0, .int 0, .int 0, .int 0, .int 0, .int 0, .int 0, .int 0, .int 0, .int 0, .int 0, .int 0, .int 0, .int 0, .int 0, .int 0, .int 0, .int 0, .int 0, .int 0, .int 0, .int 0, .int 0, .int 0, .int 0, .int 0, .int 0, .int 0, .int 0, .int 0, .int 0, .int 0, .int 0, .int 0, .int 0, .int 0, .int 0, .int 2, .int 2, .int 0, .int 2, .int 2, .int 2, .int 2, .int 2, .int 2, .int 2, .int 2, .int 2, .int 2, .int 3, .int 0, .int 0, .int 0, .int 0, .int 0, .int 0, .int 3, .int 3, .int 3, .int 3, .int 3, .int 3, .int 3, .int 3, .int 3, .int 3, .int 3, .int 3, .int 3, .int 3, .int 3, .int 3, .int 3, .int 3, .int 3, .int 3, .int 3, .int 3, .int 3, .int 3, .int 3, .int 3, .int 0, .int 0, .int 0, .int 0, .int 3, .int 0, .int 3, .int 3, .int 3, .int 3, .int 3, .int 3, .int 3, .int 3, .int 3, .int 3, .int 3, .int 3, .int 3, .int 3, .int 3, .int 3, .int 3, .int 3, .int 3, .int 3, .int 3, .int 3, .int 3, .int 3, .int 3, .int 3, .int 0, .int 0, .int 0, .int 0, .int 0], vm := .none }]
def classes : Array Class := #[k0, k1, k2, k3, k4, k5, k6, k7, k8]
def interned : List (Array UInt16 × Addr) := []
def slotsUsed : Nat := 132
def theMethod : MethodId := ⟨1, 3⟩
def args0 : Array Value := #[.int 70]
def aboutOver (below : List Frame) : State where
  vm := { classes := classes, interned := interned.toArray }
  heap := heap
  slotsUsed := slotsUsed
  threads := #[{ frames := .invoking theMethod args0 :: below }]
def below0 : List Frame := [.native { method := ⟨0, 0⟩, args := #[] }]
def about1 : State := aboutOver below0
def p0 : Program := .bare "" "" ""
def e0 : Env := launch0.env 0 0 0
theorem w_frames : about1.frames = Frame.invoking theMethod args0 :: below0 := rfl
set_option maxRecDepth 65536 in
theorem w_args : argsFit about1.vm theMethod args0 = true := by decide +kernel
set_option maxRecDepth 65536 in
theorem w_heap : heapFits about1 = true := by decide +kernel
set_option maxRecDepth 65536 in
theorem w_runnable : about1.curStatus? = some .runnable := by decide +kernel
set_option maxRecDepth 65536 in
theorem w_alone : about1.alone = true := by decide +kernel
set_option maxRecDepth 65536 in
theorem w_named : about1.methodNamed? x = some theMethod := by decide +kernel
set_option maxRecDepth 65536 in
theorem w_hears : about1.hears theMethod below0 = true := by decide +kernel
set_option maxRecDepth 65536 in
theorem w_ripe : about1.ripe theMethod args0 below0 = true := by decide +kernel
theorem w_running : about1.status = .running := rfl
set_option maxRecDepth 65536 in
theorem w_room : about1.hasRoom e0.platform room_1 = true :=
  launch0.hasRoom_least _ room_1 (by decide +kernel) (by decide +kernel) (by decide +kernel) (by decide +kernel) (by decide +kernel) (by decide +kernel)
theorem allAtoms_all (ts : List Jvm.Cond) (a : Array Jvm.Value) (st : Jvm.State) : (allAtoms ts).before a st = ts.all (fun c => c.before a st) := by
  induction ts with
  | nil => rfl
  | cons c t ih =>
    show (Jvm.Cond.and c (allAtoms t)).before a st = _
    rw [Jvm.Cond.before_and, ih, List.all_cons]
def words1 : List Jvm.Cond := Jvm.Cond.code x code maxLocals ret :: tables_1
/-- a 'code' word, met by the world's own term for the bytes: nothing is compared byte by byte -/
theorem code_word {y : MethodName} {bytes : ByteArray} {mx : Nat} {rt : Option FieldType} {a : Array Value} {s : State} {m : MethodId} {meth : Method} {c : Code} (h1 : s.methodNamed? y = some m) (h2 : s.vm.method? m = some meth) (h3 : meth.code = some c) (h4 : c.code = bytes)
    (h5 : (c.maxLocals == mx && c.exceptionTable.isEmpty && decide (c.maxStack ≤ mostOperands) && decide (meth.sig.returnType = rt) && !meth.locks && decide (parseMethodDescriptor y.desc = some meth.sig)) = true) : (Jvm.Cond.code y bytes mx rt).before a s = true := by
  simp only [Bool.and_eq_true, beq_iff_eq, Bool.not_eq_true', decide_eq_true_eq] at h5
  obtain ⟨⟨⟨⟨⟨g1, g2⟩, g3⟩, g4⟩, g5⟩, g6⟩ := h5
  simp [Cond.before, Cond.holds, Cond.value, h1, h2, h3, h4, g1, g2, g3, g4, g5, g6]
def isCode : Jvm.Cond → Bool
  | .code _ _ _ _ => true
  | _ => false
theorem all_split {L : List Jvm.Cond} {P : Jvm.Cond → Bool} (h1 : L.all (fun c => isCode c || P c) = true) (h2 : ∀ c ∈ L.filter isCode, P c = true) : L.all P = true := by
  refine List.all_eq_true.mpr fun c hc => ?_
  have h := List.all_eq_true.mp h1 c hc
  rcases Bool.eq_false_or_eq_true (isCode c) with hi | hi
  · exact h2 c (List.mem_filter.mpr ⟨hc, hi⟩)
  · simpa [hi] using h
set_option maxRecDepth 65536 in
theorem w_c0 : (Jvm.Cond.code x code maxLocals ret).before args0 about1 = true := code_word (m := ⟨1, 3⟩) (meth := k1m3) (c := k1c3) (by decide +kernel) rfl rfl rfl (by decide +kernel)
set_option maxRecDepth 65536 in
theorem w_c1 : (Jvm.Cond.code ({ cls := "com/example/dewk/dewk/xml/XmlName", name := "isNameStart", desc := "(C)Z" } : Jvm.MethodName) prog_135_method_2_code (1 : Nat) (Option.some Jvm.ClassFile.FieldType.boolean)).before args0 about1 = true := code_word (m := ⟨2, 0⟩) (meth := k2m0) (c := k2c0) (by decide +kernel) rfl rfl rfl (by decide +kernel)
set_option maxRecDepth 65536 in
theorem w_c2 : (Jvm.Cond.code ({ cls := "com/example/dewk/dewk/xml/XmlNameIsNameStartPinLaw", name := "reference", desc := "(I)Z" } : Jvm.MethodName) method_3_code (1 : Nat) (Option.some Jvm.ClassFile.FieldType.boolean)).before args0 about1 = true := code_word (m := ⟨1, 2⟩) (meth := k1m2) (c := k1c2) (by decide +kernel) rfl rfl rfl (by decide +kernel)
set_option maxRecDepth 65536 in
theorem w_c3 : (Jvm.Cond.code ({ cls := "com/example/dewk/dewk/xml/XmlNameIsNameStartPinLaw", name := "in", desc := "(III)Z" } : Jvm.MethodName) method_2_code (3 : Nat) (Option.some Jvm.ClassFile.FieldType.boolean)).before args0 about1 = true := code_word (m := ⟨1, 1⟩) (meth := k1m1) (c := k1c1) (by decide +kernel) rfl rfl rfl (by decide +kernel)
def codes1 : List Jvm.Cond := [Jvm.Cond.code x code maxLocals ret, Jvm.Cond.code ({ cls := "com/example/dewk/dewk/xml/XmlName", name := "isNameStart", desc := "(C)Z" } : Jvm.MethodName) prog_135_method_2_code (1 : Nat) (Option.some Jvm.ClassFile.FieldType.boolean), Jvm.Cond.code ({ cls := "com/example/dewk/dewk/xml/XmlNameIsNameStartPinLaw", name := "reference", desc := "(I)Z" } : Jvm.MethodName) method_3_code (1 : Nat) (Option.some Jvm.ClassFile.FieldType.boolean), Jvm.Cond.code ({ cls := "com/example/dewk/dewk/xml/XmlNameIsNameStartPinLaw", name := "in", desc := "(III)Z" } : Jvm.MethodName) method_2_code (3 : Nat) (Option.some Jvm.ClassFile.FieldType.boolean)]
set_option maxRecDepth 65536 in
theorem codes_eq : words1.filter isCode = codes1 := rfl
theorem w_codes : ∀ c ∈ words1.filter isCode, c.before args0 about1 = true := by
  rw [codes_eq]
  intro c hc
  simp only [codes1, List.mem_cons, List.not_mem_nil, or_false] at hc
  rcases hc with rfl | rfl | rfl | rfl
  · exact w_c0
  · exact w_c1
  · exact w_c2
  · exact w_c3
set_option maxRecDepth 65536 in
theorem w_t1 : (words1.take 24).all (fun c => isCode c || c.before args0 about1) = true := by decide +kernel
set_option maxRecDepth 65536 in
theorem w_t2 : (words1.drop 24).all (fun c => isCode c || c.before args0 about1) = true := by decide +kernel
theorem w_tables : (allAtoms (Jvm.Cond.code x code maxLocals ret :: tables_1)).before args0 about1 = true := by
  rw [allAtoms_all]
  show words1.all (fun c => c.before args0 about1) = true
  refine all_split ?_ w_codes
  rw [← List.take_append_drop 24 words1, List.all_append, w_t1, w_t2]
  rfl
set_option maxRecDepth 65536 in
theorem w_case : (Jvm.Cond.and given_1 narrow_1).before args0 about1 = true := by decide +kernel
theorem w_applies : (headSpec (Jvm.Cond.code x code maxLocals ret :: tables_1) room_1).applies x e0.platform about1 = true :=
  (Spec.applies_iff w_frames).mpr ⟨w_running, w_runnable, w_alone, w_named, w_hears, w_ripe, w_room, w_tables⟩
theorem atStart : AtStart classFile x code maxLocals ret World_1 tables_1 room_1 Calls_1 rest_1 Pre_1 launch0 p0 e0 about1 theMethod args0 below0 :=
  ⟨lists_1, trivial, launch0.admits_env _ _ _, launch0.least_env, fairChoices_fair.cas, fairChoices_fair.clock, w_frames, w_args, w_heap, w_applies, trivial, trivial, w_case⟩
end start1
theorem witness_1 : WitnessClaimed_1 := ⟨start1.p0, start1.e0, start1.about1, start1.theMethod, start1.args0, start1.below0, start1.atStart⟩
end Jvm.Pilot.@@N@@
