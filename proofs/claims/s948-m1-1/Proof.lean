import JvmDerived
import JvmDerived.Pilot.@@N@@Statement
import JvmDerived.Pilot.@@N@@Code
set_option linter.unusedVariables false
set_option linter.unusedSimpArgs false
namespace Jvm.Pilot.@@N@@
namespace Own
open Jvm Jvm.ClassFile Sem Op Lib Jvm.Free Jvm.Stand Jvm.LawKit Jvm.RoadKit Bundle
/-- what a body's walk knows of its method -/
def Ctx (p : Program) (l : Launch) (e : Env) (R : Room) (s : State) (m : MethodId) (args : Array Value) (below : List Frame) (meth : Method) (c : Code) (Z : State) (own : String) (cd : ByteArray) (maxL : Nat) (ret : Option FieldType) (nm : String) : Prop :=
  p.tables.exec = Jvm.exec ∧ Z.Warmed39 s.vm ∧ c.code = cd ∧ c.maxLocals = maxL ∧ s.vm.findClass own = some m.cls ∧ meth.sig.returnType = ret ∧ meth.locks = false ∧ meth.name = nm
/-- from every state that stands at pc with these locals and this stack over the heap h the method returns, and P holds -/
def Run (p : Program) (l : Launch) (e : Env) (R : Room) (s : State) (m : MethodId) (args : Array Value) (below : List Frame) (meth : Method) (c : Code) (n0 : Nat) (P : Option Value → Heap → Prop) (h : Heap) (k n : Nat) (pc : Nat) (Ls : Array Slot) (st : List Value) : Prop :=
  ∀ (T : State) (locs : List Loc), Stand p l e R s m args below meth c T locs k n → T.heap = h → Fr n0 locs →
    ∃ s₂ o, Steps p.tables e below (T.setTop (mkF m pc Ls st)) s₂ ∧ s₂.status = .running ∧ Ended s₂ below o ∧ ∃ v L, o = .returned v ∧ (P v s₂.heap ∧ Fr n0 L) ∧ FrameEnd s o s₂ L R.cells R.slots
def RetI (Q : Int32 → Heap → Prop) (v : Option Value) (h : Heap) : Prop := ∃ z, v = some (.int z) ∧ Q z h
def RetL (Q : Int64 → Heap → Prop) (v : Option Value) (h : Heap) : Prop := ∃ z, v = some (.long z) ∧ Q z h
def RetV (Q : Value → Heap → Prop) (v : Option Value) (h : Heap) : Prop := ∃ z, v = some z ∧ Q z h
def Ret0 (Q : Heap → Prop) (v : Option Value) (h : Heap) : Prop := v = none ∧ Q h
def Met (l : Launch) (Z : State) (y : MethodName) (bytes : ByteArray) (mL : Nat) (rt : Option FieldType) (ws : List Jvm.Cond) (rm : Room) (as : Array Value) (h : Heap) (n0 : Nat) (P : Option Value → Heap → Prop) : Prop :=
  MetFree l y (head1 (Jvm.Cond.code y bytes mL rt :: ws) rm) (fun a U => a = as ∧ Z.Warmed39 U.vm ∧ U.heap = h) (fun _ _ _ _ _ => True) (fun _ U o U' => ∃ v L, o = .returned v ∧ (P v U'.heap ∧ Fr n0 L) ∧ FrameEnd U o U' L rm.cells rm.slots)
section Steps
variable {p : Program} {l : Launch} {e : Env} {R : Room} {s : State} {m : MethodId} {args : Array Value} {below : List Frame} {meth : Method} {c : Code} {Z : State} {own nm : String} {cd : ByteArray} {maxL : Nat} {ret : Option FieldType} {n0 : Nat} {P : Option Value → Heap → Prop} {h : Heap} {k n pc pc' : Nat} {Ls l' : Array Slot} {st st' rest : List Value} {a0 : Array Value}
theorem Met.intro {y : MethodName} {bytes : ByteArray} {mL : Nat} {rt : Option FieldType} {ws : List Jvm.Cond} {rm : Room} {as : Array Value} (hpl : plainFor y = true) (ho : y.cls = own) (hn : y.name = nm) (ef : ∀ m, entryFrame m as mL = mkF m 0 Ls [])
    (body : ∀ p e s m below meth c, Ctx p l e rm s m as below meth c Z own bytes mL rt nm → Run p l e rm s m as below meth c n0 P h 0 0 0 Ls []) : Met l Z y bytes mL rt ws rm as h n0 P := by
  subst ho hn
  refine MetFree.of_bodySF hpl hisR ?_
  intro p e s m args below meth c s₁ Bd hml0 hP hK
  obtain ⟨rfl, hZ, hh⟩ := hP
  have X0 : Stand p l e rm s m args below meth c s₁ [] 0 0 := Stand.of_body Bd
  have e0 : s₁.heap = h := by rw [← hh, Bd.state]; rfl
  have hown : s.vm.findClass y.cls = some m.cls := findClass_of_methodNamed Bd.named
  obtain ⟨s₂, o, h1, h2⟩ := body p e s m below meth c ⟨Bd.exec, hZ, Bd.bytes, hml0, hown, Bd.returns, Bd.notSynchronized, (name_of_methodNamed Bd.named Bd.method).1⟩ s₁ [] X0 e0 (Fr.nil _)
  exact ⟨s₂, o, castTop (ef m) h1, h2⟩
theorem Run.pure (f : ∀ T locs, Stand p l e R s m args below meth c T locs k n → T.heap = h → ∀ t, Steps p.tables e below (T.setTop (mkF m pc' l' st')) t → Steps p.tables e below (T.setTop (mkF m pc Ls st)) t) (r : Run p l e R s m args below meth c n0 P h k n pc' l' st') : Run p l e R s m args below meth c n0 P h k n pc Ls st := fun T locs X eT N => by
  obtain ⟨s₂, o, q, r⟩ := r T locs X eT N
  exact ⟨s₂, o, f T locs X eT _ q, r⟩
theorem Run.warm (f : ∀ T locs, Stand p l e R s m args below meth c T locs k n → T.heap = h → ∃ T', Stand p l e R s m args below meth c T' locs k n ∧ T'.heap = h ∧ ∀ t, Steps p.tables e below (T'.setTop (mkF m pc' l' st')) t → Steps p.tables e below (T.setTop (mkF m pc Ls st)) t) (r : Run p l e R s m args below meth c n0 P h k n pc' l' st') : Run p l e R s m args below meth c n0 P h k n pc Ls st := fun T locs X eT N => by
  obtain ⟨T', X', e', f'⟩ := f T locs X eT
  obtain ⟨s₂, o, q, r⟩ := r T' locs X' e' N
  exact ⟨s₂, o, f' _ q, r⟩
/-! loads, stores, constants -/
theorem s_iloadN (C : Ctx p l e R s m args below meth c Z own cd maxL ret nm) {q : Fin 4} {v : Int32} (hd : decode cd pc = .ok (.iload_n q, 1)) (hp : pc + 1 = pc') (hl : Ls[q.val]? = some (.val (.int v))) (r : Run p l e R s m args below meth c n0 P h k n pc' Ls (.int v :: st)) : Run p l e R s m args below meth c n0 P h k n pc Ls st := by
  subst hp; exact Run.pure (fun T locs X _ t z => XS.iloadN X.here C.1 rfl (hb C.2.2.1 hd) hl z) r
theorem s_iload (C : Ctx p l e R s m args below meth c Z own cd maxL ret nm) {q : Nat} {v : Int32} (hd : decode cd pc = .ok (.iload q, 2)) (hp : pc + 2 = pc') (hl : Ls[q]? = some (.val (.int v))) (r : Run p l e R s m args below meth c n0 P h k n pc' Ls (.int v :: st)) : Run p l e R s m args below meth c n0 P h k n pc Ls st := by
  subst hp; exact Run.pure (fun T locs X _ t z => XS.iload X.here C.1 rfl (hb C.2.2.1 hd) hl z) r
theorem s_lloadN (C : Ctx p l e R s m args below meth c Z own cd maxL ret nm) {q : Fin 4} {v : Int64} (hd : decode cd pc = .ok (.lload_n q, 1)) (hp : pc + 1 = pc') (hl : Ls[q.val]? = some (.val (.long v))) (r : Run p l e R s m args below meth c n0 P h k n pc' Ls (.long v :: st)) : Run p l e R s m args below meth c n0 P h k n pc Ls st := by
  subst hp; exact Run.pure (fun T locs X _ t z => XS.lloadN X.here C.1 rfl (hb C.2.2.1 hd) hl z) r
theorem s_lload (C : Ctx p l e R s m args below meth c Z own cd maxL ret nm) {q : Nat} {v : Int64} (hd : decode cd pc = .ok (.lload q, 2)) (hp : pc + 2 = pc') (hl : Ls[q]? = some (.val (.long v))) (r : Run p l e R s m args below meth c n0 P h k n pc' Ls (.long v :: st)) : Run p l e R s m args below meth c n0 P h k n pc Ls st := by
  subst hp; exact Run.pure (fun T locs X _ t z => XS.lload X.here C.1 rfl (hb C.2.2.1 hd) hl z) r
theorem s_aloadN (C : Ctx p l e R s m args below meth c Z own cd maxL ret nm) {q : Fin 4} {v : Value} (hd : decode cd pc = .ok (.aload_n q, 1)) (hp : pc + 1 = pc') (hl : Ls[q.val]? = some (.val v)) (hv : v.isRef = true) (r : Run p l e R s m args below meth c n0 P h k n pc' Ls (v :: st)) : Run p l e R s m args below meth c n0 P h k n pc Ls st := by
  subst hp; exact Run.pure (fun T locs X _ t z => XS.aloadN X.here C.1 rfl (hb C.2.2.1 hd) hl hv z) r
theorem s_aload (C : Ctx p l e R s m args below meth c Z own cd maxL ret nm) {q : Nat} {v : Value} (hd : decode cd pc = .ok (.aload q, 2)) (hp : pc + 2 = pc') (hl : Ls[q]? = some (.val v)) (hv : v.isRef = true) (r : Run p l e R s m args below meth c n0 P h k n pc' Ls (v :: st)) : Run p l e R s m args below meth c n0 P h k n pc Ls st := by
  subst hp; exact Run.pure (fun T locs X _ t z => XS.aload X.here C.1 rfl (hb C.2.2.1 hd) hl hv z) r
theorem s_istoreN (C : Ctx p l e R s m args below meth c Z own cd maxL ret nm) {q : Fin 4} {x : Int32} (hd : decode cd pc = .ok (.istore_n q, 1)) (hp : pc + 1 = pc') (L : Int32 → Array Slot) (hl : ∀ y, storeLocals Ls q.val (.int y) = some (L y)) (r : ∀ y, y = x → Run p l e R s m args below meth c n0 P h k n pc' (L y) st) : Run p l e R s m args below meth c n0 P h k n pc Ls (.int x :: st) := by
  subst hp; exact Run.pure (fun T locs X _ t z => XS.istoreN X.here C.1 rfl (hb C.2.2.1 hd) rfl (hl x) z) (r x rfl)
theorem s_istore (C : Ctx p l e R s m args below meth c Z own cd maxL ret nm) {q : Nat} {x : Int32} (hd : decode cd pc = .ok (.istore q, 2)) (hp : pc + 2 = pc') (L : Int32 → Array Slot) (hl : ∀ y, storeLocals Ls q (.int y) = some (L y)) (r : ∀ y, y = x → Run p l e R s m args below meth c n0 P h k n pc' (L y) st) : Run p l e R s m args below meth c n0 P h k n pc Ls (.int x :: st) := by
  subst hp; exact Run.pure (fun T locs X _ t z => XS.istore X.here C.1 rfl (hb C.2.2.1 hd) rfl (hl x) z) (r x rfl)
theorem s_lstoreN (C : Ctx p l e R s m args below meth c Z own cd maxL ret nm) {q : Fin 4} {x : Int64} (hd : decode cd pc = .ok (.lstore_n q, 1)) (hp : pc + 1 = pc') (L : Int64 → Array Slot) (hl : ∀ y, storeLocals Ls q.val (.long y) = some (L y)) (r : ∀ y, y = x → Run p l e R s m args below meth c n0 P h k n pc' (L y) st) : Run p l e R s m args below meth c n0 P h k n pc Ls (.long x :: st) := by
  subst hp; exact Run.pure (fun T locs X _ t z => XS.lstoreN X.here C.1 rfl (hb C.2.2.1 hd) rfl (hl x) z) (r x rfl)
theorem s_lstore (C : Ctx p l e R s m args below meth c Z own cd maxL ret nm) {q : Nat} {x : Int64} (hd : decode cd pc = .ok (.lstore q, 2)) (hp : pc + 2 = pc') (L : Int64 → Array Slot) (hl : ∀ y, storeLocals Ls q (.long y) = some (L y)) (r : ∀ y, y = x → Run p l e R s m args below meth c n0 P h k n pc' (L y) st) : Run p l e R s m args below meth c n0 P h k n pc Ls (.long x :: st) := by
  subst hp; exact Run.pure (fun T locs X _ t z => XS.lstore X.here C.1 rfl (hb C.2.2.1 hd) rfl (hl x) z) (r x rfl)
theorem s_istoreNP (C : Ctx p l e R s m args below meth c Z own cd maxL ret nm) {q : Fin 4} {x : Int32} (hd : decode cd pc = .ok (.istore_n q, 1)) (hp : pc + 1 = pc') (L : Array Slot) (hl : storeLocals Ls q.val (.int x) = some L) (r : Run p l e R s m args below meth c n0 P h k n pc' L st) : Run p l e R s m args below meth c n0 P h k n pc Ls (.int x :: st) := by
  subst hp; exact Run.pure (fun T locs X _ t z => XS.istoreN X.here C.1 rfl (hb C.2.2.1 hd) rfl hl z) r
theorem s_istoreP (C : Ctx p l e R s m args below meth c Z own cd maxL ret nm) {q : Nat} {x : Int32} (hd : decode cd pc = .ok (.istore q, 2)) (hp : pc + 2 = pc') (L : Array Slot) (hl : storeLocals Ls q (.int x) = some L) (r : Run p l e R s m args below meth c n0 P h k n pc' L st) : Run p l e R s m args below meth c n0 P h k n pc Ls (.int x :: st) := by
  subst hp; exact Run.pure (fun T locs X _ t z => XS.istore X.here C.1 rfl (hb C.2.2.1 hd) rfl hl z) r
theorem s_lstoreNP (C : Ctx p l e R s m args below meth c Z own cd maxL ret nm) {q : Fin 4} {x : Int64} (hd : decode cd pc = .ok (.lstore_n q, 1)) (hp : pc + 1 = pc') (L : Array Slot) (hl : storeLocals Ls q.val (.long x) = some L) (r : Run p l e R s m args below meth c n0 P h k n pc' L st) : Run p l e R s m args below meth c n0 P h k n pc Ls (.long x :: st) := by
  subst hp; exact Run.pure (fun T locs X _ t z => XS.lstoreN X.here C.1 rfl (hb C.2.2.1 hd) rfl hl z) r
theorem s_lstoreP (C : Ctx p l e R s m args below meth c Z own cd maxL ret nm) {q : Nat} {x : Int64} (hd : decode cd pc = .ok (.lstore q, 2)) (hp : pc + 2 = pc') (L : Array Slot) (hl : storeLocals Ls q (.long x) = some L) (r : Run p l e R s m args below meth c n0 P h k n pc' L st) : Run p l e R s m args below meth c n0 P h k n pc Ls (.long x :: st) := by
  subst hp; exact Run.pure (fun T locs X _ t z => XS.lstore X.here C.1 rfl (hb C.2.2.1 hd) rfl hl z) r
theorem s_astoreN (C : Ctx p l e R s m args below meth c Z own cd maxL ret nm) {q : Fin 4} {x : Value} (hd : decode cd pc = .ok (.astore_n q, 1)) (hp : pc + 1 = pc') (hv : x.isRef = true) (L : Array Slot) (hl : storeLocals Ls q.val x = some L) (r : Run p l e R s m args below meth c n0 P h k n pc' L st) : Run p l e R s m args below meth c n0 P h k n pc Ls (x :: st) := by
  subst hp; exact Run.pure (fun T locs X _ t z => XS.astoreN X.here C.1 rfl (hb C.2.2.1 hd) rfl hv hl z) r
theorem s_astore (C : Ctx p l e R s m args below meth c Z own cd maxL ret nm) {q : Nat} {x : Value} (hd : decode cd pc = .ok (.astore q, 2)) (hp : pc + 2 = pc') (hv : x.isRef = true) (L : Array Slot) (hl : storeLocals Ls q x = some L) (r : Run p l e R s m args below meth c n0 P h k n pc' L st) : Run p l e R s m args below meth c n0 P h k n pc Ls (x :: st) := by
  subst hp; exact Run.pure (fun T locs X _ t z => XS.astore X.here C.1 rfl (hb C.2.2.1 hd) rfl hv hl z) r
theorem s_iconst (C : Ctx p l e R s m args below meth c Z own cd maxL ret nm) {i : Int} (hd : decode cd pc = .ok (.iconst i, 1)) (hp : pc + 1 = pc') (v : Int32) (hv : Int32.ofInt i = v) (r : Run p l e R s m args below meth c n0 P h k n pc' Ls (.int v :: st)) : Run p l e R s m args below meth c n0 P h k n pc Ls st := by
  subst hp hv; exact Run.pure (fun T locs X _ t z => XS.iconst X.here C.1 rfl (hb C.2.2.1 hd) z) r
theorem s_bipush (C : Ctx p l e R s m args below meth c Z own cd maxL ret nm) {i : Int} (hd : decode cd pc = .ok (.bipush i, 2)) (hp : pc + 2 = pc') (v : Int32) (hv : (Int8.ofInt i).toInt32 = v) (r : Run p l e R s m args below meth c n0 P h k n pc' Ls (.int v :: st)) : Run p l e R s m args below meth c n0 P h k n pc Ls st := by
  subst hp hv; exact Run.pure (fun T locs X _ t z => XS.bipush X.here C.1 rfl (hb C.2.2.1 hd) z) r
theorem s_sipush (C : Ctx p l e R s m args below meth c Z own cd maxL ret nm) {i : Int} (hd : decode cd pc = .ok (.sipush i, 3)) (hp : pc + 3 = pc') (v : Int32) (hv : (Int16.ofInt i).toInt32 = v) (r : Run p l e R s m args below meth c n0 P h k n pc' Ls (.int v :: st)) : Run p l e R s m args below meth c n0 P h k n pc Ls st := by
  subst hp hv; exact Run.pure (fun T locs X _ t z => XS.sipush X.here C.1 rfl (hb C.2.2.1 hd) z) r
theorem s_lconst (C : Ctx p l e R s m args below meth c Z own cd maxL ret nm) {i : Fin 2} (hd : decode cd pc = .ok (.lconst i, 1)) (hp : pc + 1 = pc') (v : Int64) (hv : Int64.ofNat i.val = v) (r : Run p l e R s m args below meth c n0 P h k n pc' Ls (.long v :: st)) : Run p l e R s m args below meth c n0 P h k n pc Ls st := by
  subst hp hv; exact Run.pure (fun T locs X _ t z => XS.lconst X.here C.1 rfl (hb C.2.2.1 hd) z) r
theorem s_null (C : Ctx p l e R s m args below meth c Z own cd maxL ret nm) (hd : decode cd pc = .ok (.aconst_null, 1)) (hp : pc + 1 = pc') (r : Run p l e R s m args below meth c n0 P h k n pc' Ls (.null :: st)) : Run p l e R s m args below meth c n0 P h k n pc Ls st := by
  subst hp; exact Run.pure (fun T locs X _ t z => XS.aconstNull X.here C.1 rfl (hb C.2.2.1 hd) z) r
theorem s_ldc (C : Ctx p l e R s m args below meth c Z own cd maxL ret nm) {i : Nat} {v : Int32} (hd : decode cd pc = .ok (.ldc i, 2)) (hp : pc + 2 = pc') (w : (Jvm.Cond.constant own i v).before a0 Z = true) (r : Run p l e R s m args below meth c n0 P h k n pc' Ls (.int v :: st)) : Run p l e R s m args below meth c n0 P h k n pc Ls st := by
  subst hp; exact Run.pure (fun T locs X _ t z => X.ldcInt C.1 C.2.2.2.2.1 (mvT C.2.1 w) (g := mkF m pc Ls st) rfl (hb C.2.2.1 hd) _ z) r
theorem s_ldc2 (C : Ctx p l e R s m args below meth c Z own cd maxL ret nm) {i : Nat} {v : Int64} (hd : decode cd pc = .ok (.ldc2_w i, 3)) (hp : pc + 3 = pc') (w : (Jvm.Cond.constantLong own i v).before a0 Z = true) (r : Run p l e R s m args below meth c n0 P h k n pc' Ls (.long v :: st)) : Run p l e R s m args below meth c n0 P h k n pc Ls st := by
  subst hp; exact Run.pure (fun T locs X _ t z => X.ldc2Long C.1 C.2.2.2.2.1 (mvT C.2.1 w) (g := mkF m pc Ls st) rfl (hb C.2.2.1 hd) _ z) r
theorem s_iinc (C : Ctx p l e R s m args below meth c Z own cd maxL ret nm) {q : Nat} {cst : Int} {x : Int32} (hd : decode cd pc = .ok (.iinc q cst, 3)) (hp : pc + 3 = pc') (hl : Ls[q]? = some (.val (.int x))) (z : Int32) (hz : Int32.ofInt cst = z) (L : Int32 → Array Slot) (hl' : ∀ y, storeLocals Ls q (.int y) = some (L y)) (r : ∀ y, y = x + z → Run p l e R s m args below meth c n0 P h k n pc' (L y) st) : Run p l e R s m args below meth c n0 P h k n pc Ls st := by
  subst hp hz; exact Run.pure (fun T locs X _ t z => XS.iinc X.here C.1 rfl (hb C.2.2.1 hd) hl (hl' _) z) (r _ rfl)
theorem s_iincP (C : Ctx p l e R s m args below meth c Z own cd maxL ret nm) {q : Nat} {cst : Int} {x : Int32} (hd : decode cd pc = .ok (.iinc q cst, 3)) (hp : pc + 3 = pc') (hl : Ls[q]? = some (.val (.int x))) (z : Int32) (hz : x + Int32.ofInt cst = z) (L : Array Slot) (hl' : storeLocals Ls q (.int z) = some L) (r : Run p l e R s m args below meth c n0 P h k n pc' L st) : Run p l e R s m args below meth c n0 P h k n pc Ls st := by
  subst hp hz; exact Run.pure (fun T locs X _ t z => XS.iinc X.here C.1 rfl (hb C.2.2.1 hd) hl hl' z) r
/-! plain steps -/
theorem s_iadd (C : Ctx p l e R s m args below meth c Z own cd maxL ret nm) {x y : Int32} (hd : decode cd pc = .ok (.iadd, 1)) (hp : pc + 1 = pc') (r : Run p l e R s m args below meth c n0 P h k n pc' Ls (.int (x + y) :: st)) : Run p l e R s m args below meth c n0 P h k n pc Ls (.int y :: .int x :: st) := by
  subst hp; exact Run.pure (fun T locs X _ t z => XS.iadd X.here C.1 rfl (hb C.2.2.1 hd) rfl z) r
theorem s_isub (C : Ctx p l e R s m args below meth c Z own cd maxL ret nm) {x y : Int32} (hd : decode cd pc = .ok (.isub, 1)) (hp : pc + 1 = pc') (r : Run p l e R s m args below meth c n0 P h k n pc' Ls (.int (x - y) :: st)) : Run p l e R s m args below meth c n0 P h k n pc Ls (.int y :: .int x :: st) := by
  subst hp; exact Run.pure (fun T locs X _ t z => XS.isub X.here C.1 rfl (hb C.2.2.1 hd) rfl z) r
theorem s_imul (C : Ctx p l e R s m args below meth c Z own cd maxL ret nm) {x y : Int32} (hd : decode cd pc = .ok (.imul, 1)) (hp : pc + 1 = pc') (r : Run p l e R s m args below meth c n0 P h k n pc' Ls (.int (x * y) :: st)) : Run p l e R s m args below meth c n0 P h k n pc Ls (.int y :: .int x :: st) := by
  subst hp; exact Run.pure (fun T locs X _ t z => XS.imul X.here C.1 rfl (hb C.2.2.1 hd) rfl z) r
theorem s_iand (C : Ctx p l e R s m args below meth c Z own cd maxL ret nm) {x y : Int32} (hd : decode cd pc = .ok (.iand, 1)) (hp : pc + 1 = pc') (r : Run p l e R s m args below meth c n0 P h k n pc' Ls (.int (x &&& y) :: st)) : Run p l e R s m args below meth c n0 P h k n pc Ls (.int y :: .int x :: st) := by
  subst hp; exact Run.pure (fun T locs X _ t z => XS.iand X.here C.1 rfl (hb C.2.2.1 hd) rfl z) r
theorem s_ior (C : Ctx p l e R s m args below meth c Z own cd maxL ret nm) {x y : Int32} (hd : decode cd pc = .ok (.ior, 1)) (hp : pc + 1 = pc') (r : Run p l e R s m args below meth c n0 P h k n pc' Ls (.int (x ||| y) :: st)) : Run p l e R s m args below meth c n0 P h k n pc Ls (.int y :: .int x :: st) := by
  subst hp; exact Run.pure (fun T locs X _ t z => XS.ior X.here C.1 rfl (hb C.2.2.1 hd) rfl z) r
theorem s_ixor (C : Ctx p l e R s m args below meth c Z own cd maxL ret nm) {x y : Int32} (hd : decode cd pc = .ok (.ixor, 1)) (hp : pc + 1 = pc') (r : Run p l e R s m args below meth c n0 P h k n pc' Ls (.int (x ^^^ y) :: st)) : Run p l e R s m args below meth c n0 P h k n pc Ls (.int y :: .int x :: st) := by
  subst hp; exact Run.pure (fun T locs X _ t z => XS.ixor X.here C.1 rfl (hb C.2.2.1 hd) rfl z) r
theorem s_ishl (C : Ctx p l e R s m args below meth c Z own cd maxL ret nm) {x y : Int32} (hd : decode cd pc = .ok (.ishl, 1)) (hp : pc + 1 = pc') (r : Run p l e R s m args below meth c n0 P h k n pc' Ls (.int (x <<< (y &&& 31)) :: st)) : Run p l e R s m args below meth c n0 P h k n pc Ls (.int y :: .int x :: st) := by
  subst hp; exact Run.pure (fun T locs X _ t z => XS.ishl X.here C.1 rfl (hb C.2.2.1 hd) rfl z) r
theorem s_ishr (C : Ctx p l e R s m args below meth c Z own cd maxL ret nm) {x y : Int32} (hd : decode cd pc = .ok (.ishr, 1)) (hp : pc + 1 = pc') (r : Run p l e R s m args below meth c n0 P h k n pc' Ls (.int (x >>> (y &&& 31)) :: st)) : Run p l e R s m args below meth c n0 P h k n pc Ls (.int y :: .int x :: st) := by
  subst hp; exact Run.pure (fun T locs X _ t z => XS.ishr X.here C.1 rfl (hb C.2.2.1 hd) rfl z) r
theorem s_iushr (C : Ctx p l e R s m args below meth c Z own cd maxL ret nm) {x y : Int32} (hd : decode cd pc = .ok (.iushr, 1)) (hp : pc + 1 = pc') (r : Run p l e R s m args below meth c n0 P h k n pc' Ls (.int ((x.toUInt32 >>> (y &&& 31).toUInt32).toInt32) :: st)) : Run p l e R s m args below meth c n0 P h k n pc Ls (.int y :: .int x :: st) := by
  subst hp; exact Run.pure (fun T locs X _ t z => XS.iushr X.here C.1 rfl (hb C.2.2.1 hd) rfl z) r
theorem s_ladd (C : Ctx p l e R s m args below meth c Z own cd maxL ret nm) {x y : Int64} (hd : decode cd pc = .ok (.ladd, 1)) (hp : pc + 1 = pc') (r : Run p l e R s m args below meth c n0 P h k n pc' Ls (.long (x + y) :: st)) : Run p l e R s m args below meth c n0 P h k n pc Ls (.long y :: .long x :: st) := by
  subst hp; exact Run.pure (fun T locs X _ t z => XS.ladd X.here C.1 rfl (hb C.2.2.1 hd) rfl z) r
theorem s_lsub (C : Ctx p l e R s m args below meth c Z own cd maxL ret nm) {x y : Int64} (hd : decode cd pc = .ok (.lsub, 1)) (hp : pc + 1 = pc') (r : Run p l e R s m args below meth c n0 P h k n pc' Ls (.long (x - y) :: st)) : Run p l e R s m args below meth c n0 P h k n pc Ls (.long y :: .long x :: st) := by
  subst hp; exact Run.pure (fun T locs X _ t z => XS.lsub X.here C.1 rfl (hb C.2.2.1 hd) rfl z) r
theorem s_lmul (C : Ctx p l e R s m args below meth c Z own cd maxL ret nm) {x y : Int64} (hd : decode cd pc = .ok (.lmul, 1)) (hp : pc + 1 = pc') (r : Run p l e R s m args below meth c n0 P h k n pc' Ls (.long (x * y) :: st)) : Run p l e R s m args below meth c n0 P h k n pc Ls (.long y :: .long x :: st) := by
  subst hp; exact Run.pure (fun T locs X _ t z => XS.lmul X.here C.1 rfl (hb C.2.2.1 hd) rfl z) r
theorem s_land (C : Ctx p l e R s m args below meth c Z own cd maxL ret nm) {x y : Int64} (hd : decode cd pc = .ok (.land, 1)) (hp : pc + 1 = pc') (r : Run p l e R s m args below meth c n0 P h k n pc' Ls (.long (x &&& y) :: st)) : Run p l e R s m args below meth c n0 P h k n pc Ls (.long y :: .long x :: st) := by
  subst hp; exact Run.pure (fun T locs X _ t z => XS.land X.here C.1 rfl (hb C.2.2.1 hd) rfl z) r
theorem s_lor (C : Ctx p l e R s m args below meth c Z own cd maxL ret nm) {x y : Int64} (hd : decode cd pc = .ok (.lor, 1)) (hp : pc + 1 = pc') (r : Run p l e R s m args below meth c n0 P h k n pc' Ls (.long (x ||| y) :: st)) : Run p l e R s m args below meth c n0 P h k n pc Ls (.long y :: .long x :: st) := by
  subst hp; exact Run.pure (fun T locs X _ t z => XS.lor X.here C.1 rfl (hb C.2.2.1 hd) rfl z) r
theorem s_lxor (C : Ctx p l e R s m args below meth c Z own cd maxL ret nm) {x y : Int64} (hd : decode cd pc = .ok (.lxor, 1)) (hp : pc + 1 = pc') (r : Run p l e R s m args below meth c n0 P h k n pc' Ls (.long (x ^^^ y) :: st)) : Run p l e R s m args below meth c n0 P h k n pc Ls (.long y :: .long x :: st) := by
  subst hp; exact Run.pure (fun T locs X _ t z => XS.lxor X.here C.1 rfl (hb C.2.2.1 hd) rfl z) r
theorem s_lshl (C : Ctx p l e R s m args below meth c Z own cd maxL ret nm) {x : Int64} {y : Int32} (hd : decode cd pc = .ok (.lshl, 1)) (hp : pc + 1 = pc') (r : Run p l e R s m args below meth c n0 P h k n pc' Ls (.long (x <<< (y &&& 0x3f).toInt64) :: st)) : Run p l e R s m args below meth c n0 P h k n pc Ls (.int y :: .long x :: st) := by
  subst hp; exact Run.pure (fun T locs X _ t z => XS.lshl X.here C.1 rfl (hb C.2.2.1 hd) rfl z) r
theorem s_lshr (C : Ctx p l e R s m args below meth c Z own cd maxL ret nm) {x : Int64} {y : Int32} (hd : decode cd pc = .ok (.lshr, 1)) (hp : pc + 1 = pc') (r : Run p l e R s m args below meth c n0 P h k n pc' Ls (.long (x >>> (y &&& 0x3f).toInt64) :: st)) : Run p l e R s m args below meth c n0 P h k n pc Ls (.int y :: .long x :: st) := by
  subst hp; exact Run.pure (fun T locs X _ t z => XS.lshr X.here C.1 rfl (hb C.2.2.1 hd) rfl z) r
theorem s_lushr (C : Ctx p l e R s m args below meth c Z own cd maxL ret nm) {x : Int64} {y : Int32} (hd : decode cd pc = .ok (.lushr, 1)) (hp : pc + 1 = pc') (r : Run p l e R s m args below meth c n0 P h k n pc' Ls (.long ((x.toUInt64 >>> (y &&& 0x3f).toInt64.toUInt64).toInt64) :: st)) : Run p l e R s m args below meth c n0 P h k n pc Ls (.int y :: .long x :: st) := by
  subst hp; exact Run.pure (fun T locs X _ t z => XS.lushr X.here C.1 rfl (hb C.2.2.1 hd) rfl z) r
theorem s_idiv (C : Ctx p l e R s m args below meth c Z own cd maxL ret nm) {x y : Int32} (hd : decode cd pc = .ok (.idiv, 1)) (hp : pc + 1 = pc') (hy : y ≠ 0) (r : Run p l e R s m args below meth c n0 P h k n pc' Ls (.int (x / y) :: st)) : Run p l e R s m args below meth c n0 P h k n pc Ls (.int y :: .int x :: st) := by
  subst hp; exact Run.pure (fun T locs X _ t z => XS.idiv X.here C.1 rfl (hb C.2.2.1 hd) rfl hy z) r
theorem s_irem (C : Ctx p l e R s m args below meth c Z own cd maxL ret nm) {x y : Int32} (hd : decode cd pc = .ok (.irem, 1)) (hp : pc + 1 = pc') (hy : y ≠ 0) (r : Run p l e R s m args below meth c n0 P h k n pc' Ls (.int (x % y) :: st)) : Run p l e R s m args below meth c n0 P h k n pc Ls (.int y :: .int x :: st) := by
  subst hp; exact Run.pure (fun T locs X _ t z => iremM X C.1 (g := mkF m pc Ls (.int y :: .int x :: st)) rfl (hb C.2.2.1 hd) rfl hy z) r
theorem s_ldiv (C : Ctx p l e R s m args below meth c Z own cd maxL ret nm) {x y : Int64} (hd : decode cd pc = .ok (.ldiv, 1)) (hp : pc + 1 = pc') (hy : y ≠ 0) (r : Run p l e R s m args below meth c n0 P h k n pc' Ls (.long (x / y) :: st)) : Run p l e R s m args below meth c n0 P h k n pc Ls (.long y :: .long x :: st) := by
  subst hp; exact Run.pure (fun T locs X _ t z => XS.ldiv X.here C.1 rfl (hb C.2.2.1 hd) rfl hy z) r
theorem s_lrem (C : Ctx p l e R s m args below meth c Z own cd maxL ret nm) {x y : Int64} (hd : decode cd pc = .ok (.lrem, 1)) (hp : pc + 1 = pc') (hy : y ≠ 0) (r : Run p l e R s m args below meth c n0 P h k n pc' Ls (.long (x % y) :: st)) : Run p l e R s m args below meth c n0 P h k n pc Ls (.long y :: .long x :: st) := by
  subst hp; rw [← lrem_mod] at r; exact Run.pure (fun T locs X _ t z => XS.lrem X.here C.1 rfl (hb C.2.2.1 hd) rfl hy z) r
theorem s_ineg (C : Ctx p l e R s m args below meth c Z own cd maxL ret nm) {x : Int32} (hd : decode cd pc = .ok (.ineg, 1)) (hp : pc + 1 = pc') (r : Run p l e R s m args below meth c n0 P h k n pc' Ls (.int (-x) :: st)) : Run p l e R s m args below meth c n0 P h k n pc Ls (.int x :: st) := by
  subst hp; exact Run.pure (fun T locs X _ t z => XS.ineg X.here C.1 rfl (hb C.2.2.1 hd) rfl z) r
theorem s_lneg (C : Ctx p l e R s m args below meth c Z own cd maxL ret nm) {x : Int64} (hd : decode cd pc = .ok (.lneg, 1)) (hp : pc + 1 = pc') (r : Run p l e R s m args below meth c n0 P h k n pc' Ls (.long (-x) :: st)) : Run p l e R s m args below meth c n0 P h k n pc Ls (.long x :: st) := by
  subst hp; exact Run.pure (fun T locs X _ t z => XS.lneg X.here C.1 rfl (hb C.2.2.1 hd) rfl z) r
theorem s_i2l (C : Ctx p l e R s m args below meth c Z own cd maxL ret nm) {x : Int32} (hd : decode cd pc = .ok (.i2l, 1)) (hp : pc + 1 = pc') (r : Run p l e R s m args below meth c n0 P h k n pc' Ls (.long (x.toInt64) :: st)) : Run p l e R s m args below meth c n0 P h k n pc Ls (.int x :: st) := by
  subst hp; exact Run.pure (fun T locs X _ t z => XS.i2l X.here C.1 rfl (hb C.2.2.1 hd) rfl z) r
theorem s_l2i (C : Ctx p l e R s m args below meth c Z own cd maxL ret nm) {x : Int64} (hd : decode cd pc = .ok (.l2i, 1)) (hp : pc + 1 = pc') (r : Run p l e R s m args below meth c n0 P h k n pc' Ls (.int (x.toInt32) :: st)) : Run p l e R s m args below meth c n0 P h k n pc Ls (.long x :: st) := by
  subst hp; exact Run.pure (fun T locs X _ t z => XS.l2i X.here C.1 rfl (hb C.2.2.1 hd) rfl z) r
theorem s_i2b (C : Ctx p l e R s m args below meth c Z own cd maxL ret nm) {x : Int32} (hd : decode cd pc = .ok (.i2b, 1)) (hp : pc + 1 = pc') (r : Run p l e R s m args below meth c n0 P h k n pc' Ls (.int (x.toInt8.toInt32) :: st)) : Run p l e R s m args below meth c n0 P h k n pc Ls (.int x :: st) := by
  subst hp; exact Run.pure (fun T locs X _ t z => XS.i2b X.here C.1 rfl (hb C.2.2.1 hd) rfl z) r
theorem s_i2s (C : Ctx p l e R s m args below meth c Z own cd maxL ret nm) {x : Int32} (hd : decode cd pc = .ok (.i2s, 1)) (hp : pc + 1 = pc') (r : Run p l e R s m args below meth c n0 P h k n pc' Ls (.int (x.toInt16.toInt32) :: st)) : Run p l e R s m args below meth c n0 P h k n pc Ls (.int x :: st) := by
  subst hp; exact Run.pure (fun T locs X _ t z => XS.i2s X.here C.1 rfl (hb C.2.2.1 hd) rfl z) r
theorem s_i2c (C : Ctx p l e R s m args below meth c Z own cd maxL ret nm) {x : Int32} (hd : decode cd pc = .ok (.i2c, 1)) (hp : pc + 1 = pc') (r : Run p l e R s m args below meth c n0 P h k n pc' Ls (.int (x.toUInt32.toUInt16.toUInt32.toInt32) :: st)) : Run p l e R s m args below meth c n0 P h k n pc Ls (.int x :: st) := by
  subst hp; exact Run.pure (fun T locs X _ t z => XS.i2c X.here C.1 rfl (hb C.2.2.1 hd) rfl z) r
theorem s_lcmp (C : Ctx p l e R s m args below meth c Z own cd maxL ret nm) {x y : Int64} (hd : decode cd pc = .ok (.lcmp, 1)) (hp : pc + 1 = pc') (r : Run p l e R s m args below meth c n0 P h k n pc' Ls (.int (lcmpW x y) :: st)) : Run p l e R s m args below meth c n0 P h k n pc Ls (.long y :: .long x :: st) := by
  subst hp; exact Run.pure (fun T locs X _ t z => XS.lcmp X.here C.1 rfl (hb C.2.2.1 hd) rfl z) r
theorem s_goto (C : Ctx p l e R s m args below meth c Z own cd maxL ret nm) {o : Int} (hd : decode cd pc = .ok (.goto o, 3)) (hp : (pc : Int) + o = (pc' : Int)) (r : Run p l e R s m args below meth c n0 P h k n pc' Ls st) : Run p l e R s m args below meth c n0 P h k n pc Ls st :=
  Run.pure (fun T locs X _ t z => XS.goto X.here C.1 rfl (pc0 := pc) rfl (hb C.2.2.1 hd) (by omega) (by omega) z) r
theorem s_dup (C : Ctx p l e R s m args below meth c Z own cd maxL ret nm) {v : Value} (hd : decode cd pc = .ok (.dup, 1)) (hp : pc + 1 = pc') (hc : v.category = 1) (r : Run p l e R s m args below meth c n0 P h k n pc' Ls (v :: v :: st)) : Run p l e R s m args below meth c n0 P h k n pc Ls (v :: st) := by
  subst hp; exact Run.pure (fun T locs X _ t z => XS.dup X.here C.1 rfl (hb C.2.2.1 hd) rfl hc z) r
theorem s_pop (C : Ctx p l e R s m args below meth c Z own cd maxL ret nm) {v : Value} (hd : decode cd pc = .ok (.pop, 1)) (hp : pc + 1 = pc') (hc : v.category = 1) (r : Run p l e R s m args below meth c n0 P h k n pc' Ls st) : Run p l e R s m args below meth c n0 P h k n pc Ls (v :: st) := by
  subst hp; exact Run.pure (fun T locs X _ t z => XS.pop X.here C.1 rfl (hb C.2.2.1 hd) rfl hc z) r
theorem s_dup2 (C : Ctx p l e R s m args below meth c Z own cd maxL ret nm) {v w : Value} (hd : decode cd pc = .ok (.dup2, 1)) (hp : pc + 1 = pc') (hc : v.category = 1) (hc' : w.category = 1) (r : Run p l e R s m args below meth c n0 P h k n pc' Ls (v :: w :: v :: w :: st)) : Run p l e R s m args below meth c n0 P h k n pc Ls (v :: w :: st) := by
  subst hp; exact Run.pure (fun T locs X _ t z => XT.dup2 X.here C.1 rfl (hb C.2.2.1 hd) rfl hc hc' z) r
theorem s_dupX1 (C : Ctx p l e R s m args below meth c Z own cd maxL ret nm) {v w : Value} (hd : decode cd pc = .ok (.dup_x1, 1)) (hp : pc + 1 = pc') (hc : v.category = 1) (hc' : w.category = 1) (r : Run p l e R s m args below meth c n0 P h k n pc' Ls (v :: w :: v :: st)) : Run p l e R s m args below meth c n0 P h k n pc Ls (v :: w :: st) := by
  subst hp; exact Run.pure (fun T locs X _ t z => XS.dupX1 X.here C.1 rfl (hb C.2.2.1 hd) rfl hc hc' z) r
/-! branches -/
theorem s_if (C : Ctx p l e R s m args below meth c Z own cd maxL ret nm) {cc : ClassFile.Cond} {o : Int} {x : Int32} {pcY : Nat} (hd : decode cd pc = .ok (.ifCond cc o, 3)) (hp : pc + 3 = pc') (ho : (pc : Int) + o = (pcY : Int)) (rY : if_icmp.holds cc x 0 = true → Run p l e R s m args below meth c n0 P h k n pcY Ls st) (rN : if_icmp.holds cc x 0 = false → Run p l e R s m args below meth c n0 P h k n pc' Ls st) : Run p l e R s m args below meth c n0 P h k n pc Ls (.int x :: st) := by
  subst hp
  cases hq : if_icmp.holds cc x 0
  · exact Run.pure (fun T locs X _ t z => XS.ifNo X.here C.1 rfl (hb C.2.2.1 hd) rfl ((if0 _ _).trans hq) z) (rN hq)
  · exact Run.pure (fun T locs X _ t z => XS.ifYes X.here C.1 rfl (pc0 := pc) rfl (hb C.2.2.1 hd) rfl ((if0 _ _).trans hq) (by omega) (by omega) z) (rY hq)
theorem s_icmp (C : Ctx p l e R s m args below meth c Z own cd maxL ret nm) {cc : ClassFile.Cond} {o : Int} {x y : Int32} {pcY : Nat} (hd : decode cd pc = .ok (.if_icmp cc o, 3)) (hp : pc + 3 = pc') (ho : (pc : Int) + o = (pcY : Int)) (rY : if_icmp.holds cc x y = true → Run p l e R s m args below meth c n0 P h k n pcY Ls st) (rN : if_icmp.holds cc x y = false → Run p l e R s m args below meth c n0 P h k n pc' Ls st) : Run p l e R s m args below meth c n0 P h k n pc Ls (.int y :: .int x :: st) := by
  subst hp
  cases hq : if_icmp.holds cc x y
  · exact Run.pure (fun T locs X _ t z => XS.icmpNo X.here C.1 rfl (hb C.2.2.1 hd) rfl hq z) (rN hq)
  · exact Run.pure (fun T locs X _ t z => XS.icmpYes X.here C.1 rfl (pc0 := pc) rfl (hb C.2.2.1 hd) rfl hq (by omega) (by omega) z) (rY hq)
theorem holds_lt {x y : Int32} : (if_icmp.holds .lt x y = true → x < y) ∧ (if_icmp.holds .lt x y = false → ¬ x < y) := ⟨fun h => by simpa [if_icmp.holds] using h, fun h q => by simp [if_icmp.holds, q] at h⟩
theorem holds_ge {x y : Int32} : (if_icmp.holds .ge x y = true → ¬ x < y) ∧ (if_icmp.holds .ge x y = false → x < y) := ⟨fun h q => (by rw [(tlt q).2.1] at h; cases h), fun h => Decidable.byContradiction fun q => (by rw [(flt q).2.1] at h; cases h)⟩
theorem holds_gt {x y : Int32} : (if_icmp.holds .gt x y = true → y < x) ∧ (if_icmp.holds .gt x y = false → ¬ y < x) := ⟨fun h => Decidable.byContradiction fun q => (by rw [(flt q).2.2.1] at h; cases h), fun h q => (by rw [(tlt q).2.2.1] at h; cases h)⟩
theorem holds_le {x y : Int32} : (if_icmp.holds .le x y = true → ¬ y < x) ∧ (if_icmp.holds .le x y = false → y < x) := ⟨fun h q => (by rw [(tlt q).2.2.2] at h; cases h), fun h => Decidable.byContradiction fun q => (by rw [(flt q).2.2.2] at h; cases h)⟩
theorem holds_eq {x y : Int32} : (if_icmp.holds .eq x y = true → x = y) ∧ (if_icmp.holds .eq x y = false → ¬ x = y) := ⟨fun h => Decidable.byContradiction fun q => (by rw [(feq q).1] at h; cases h), fun h q => (by rw [(teq q).1] at h; cases h)⟩
theorem holds_ne {x y : Int32} : (if_icmp.holds .ne x y = true → ¬ x = y) ∧ (if_icmp.holds .ne x y = false → x = y) := ⟨fun h q => (by rw [(teq q).2] at h; cases h), fun h => Decidable.byContradiction fun q => (by rw [(feq q).2] at h; cases h)⟩
theorem s_if_lt (C : Ctx p l e R s m args below meth c Z own cd maxL ret nm) {o : Int} {x : Int32} {pcY : Nat} (hd : decode cd pc = .ok (.ifCond .lt o, 3)) (hp : pc + 3 = pc') (ho : (pc : Int) + o = (pcY : Int)) (rY : x < (0 : Int32) → Run p l e R s m args below meth c n0 P h k n pcY Ls st) (rN : ¬ x < (0 : Int32) → Run p l e R s m args below meth c n0 P h k n pc' Ls st) : Run p l e R s m args below meth c n0 P h k n pc Ls (.int x :: st) :=
  s_if C hd hp ho (fun h => rY (holds_lt.1 h)) (fun h => rN (holds_lt.2 h))
theorem s_icmp_lt (C : Ctx p l e R s m args below meth c Z own cd maxL ret nm) {o : Int} {x y : Int32} {pcY : Nat} (hd : decode cd pc = .ok (.if_icmp .lt o, 3)) (hp : pc + 3 = pc') (ho : (pc : Int) + o = (pcY : Int)) (rY : x < y → Run p l e R s m args below meth c n0 P h k n pcY Ls st) (rN : ¬ x < y → Run p l e R s m args below meth c n0 P h k n pc' Ls st) : Run p l e R s m args below meth c n0 P h k n pc Ls (.int y :: .int x :: st) :=
  s_icmp C hd hp ho (fun h => rY (holds_lt.1 h)) (fun h => rN (holds_lt.2 h))
theorem s_lc_lt (C : Ctx p l e R s m args below meth c Z own cd maxL ret nm) {o : Int} {x y : Int64} {pc1 pcY : Nat} (hd : decode cd pc = .ok (.lcmp, 1)) (hp1 : pc + 1 = pc1) (hd2 : decode cd pc1 = .ok (.ifCond .lt o, 3)) (hp : pc1 + 3 = pc') (ho : (pc1 : Int) + o = (pcY : Int)) (rY : x < y → Run p l e R s m args below meth c n0 P h k n pcY Ls st) (rN : ¬ x < y → Run p l e R s m args below meth c n0 P h k n pc' Ls st) : Run p l e R s m args below meth c n0 P h k n pc Ls (.long y :: .long x :: st) :=
  s_lcmp C hd hp1 (s_if_lt C hd2 hp ho (fun h => rY ((lw_lt x y).mp h)) (fun h => rN (fun q => h ((lw_lt x y).mpr q))))
theorem s_if_ge (C : Ctx p l e R s m args below meth c Z own cd maxL ret nm) {o : Int} {x : Int32} {pcY : Nat} (hd : decode cd pc = .ok (.ifCond .ge o, 3)) (hp : pc + 3 = pc') (ho : (pc : Int) + o = (pcY : Int)) (rY : ¬ x < (0 : Int32) → Run p l e R s m args below meth c n0 P h k n pcY Ls st) (rN : x < (0 : Int32) → Run p l e R s m args below meth c n0 P h k n pc' Ls st) : Run p l e R s m args below meth c n0 P h k n pc Ls (.int x :: st) :=
  s_if C hd hp ho (fun h => rY (holds_ge.1 h)) (fun h => rN (holds_ge.2 h))
theorem s_icmp_ge (C : Ctx p l e R s m args below meth c Z own cd maxL ret nm) {o : Int} {x y : Int32} {pcY : Nat} (hd : decode cd pc = .ok (.if_icmp .ge o, 3)) (hp : pc + 3 = pc') (ho : (pc : Int) + o = (pcY : Int)) (rY : ¬ x < y → Run p l e R s m args below meth c n0 P h k n pcY Ls st) (rN : x < y → Run p l e R s m args below meth c n0 P h k n pc' Ls st) : Run p l e R s m args below meth c n0 P h k n pc Ls (.int y :: .int x :: st) :=
  s_icmp C hd hp ho (fun h => rY (holds_ge.1 h)) (fun h => rN (holds_ge.2 h))
theorem s_lc_ge (C : Ctx p l e R s m args below meth c Z own cd maxL ret nm) {o : Int} {x y : Int64} {pc1 pcY : Nat} (hd : decode cd pc = .ok (.lcmp, 1)) (hp1 : pc + 1 = pc1) (hd2 : decode cd pc1 = .ok (.ifCond .ge o, 3)) (hp : pc1 + 3 = pc') (ho : (pc1 : Int) + o = (pcY : Int)) (rY : ¬ x < y → Run p l e R s m args below meth c n0 P h k n pcY Ls st) (rN : x < y → Run p l e R s m args below meth c n0 P h k n pc' Ls st) : Run p l e R s m args below meth c n0 P h k n pc Ls (.long y :: .long x :: st) :=
  s_lcmp C hd hp1 (s_if_ge C hd2 hp ho (fun h => rY (fun q => h ((lw_lt x y).mpr q))) (fun h => rN ((lw_lt x y).mp h)))
theorem s_if_gt (C : Ctx p l e R s m args below meth c Z own cd maxL ret nm) {o : Int} {x : Int32} {pcY : Nat} (hd : decode cd pc = .ok (.ifCond .gt o, 3)) (hp : pc + 3 = pc') (ho : (pc : Int) + o = (pcY : Int)) (rY : (0 : Int32) < x → Run p l e R s m args below meth c n0 P h k n pcY Ls st) (rN : ¬ (0 : Int32) < x → Run p l e R s m args below meth c n0 P h k n pc' Ls st) : Run p l e R s m args below meth c n0 P h k n pc Ls (.int x :: st) :=
  s_if C hd hp ho (fun h => rY (holds_gt.1 h)) (fun h => rN (holds_gt.2 h))
theorem s_icmp_gt (C : Ctx p l e R s m args below meth c Z own cd maxL ret nm) {o : Int} {x y : Int32} {pcY : Nat} (hd : decode cd pc = .ok (.if_icmp .gt o, 3)) (hp : pc + 3 = pc') (ho : (pc : Int) + o = (pcY : Int)) (rY : y < x → Run p l e R s m args below meth c n0 P h k n pcY Ls st) (rN : ¬ y < x → Run p l e R s m args below meth c n0 P h k n pc' Ls st) : Run p l e R s m args below meth c n0 P h k n pc Ls (.int y :: .int x :: st) :=
  s_icmp C hd hp ho (fun h => rY (holds_gt.1 h)) (fun h => rN (holds_gt.2 h))
theorem s_lc_gt (C : Ctx p l e R s m args below meth c Z own cd maxL ret nm) {o : Int} {x y : Int64} {pc1 pcY : Nat} (hd : decode cd pc = .ok (.lcmp, 1)) (hp1 : pc + 1 = pc1) (hd2 : decode cd pc1 = .ok (.ifCond .gt o, 3)) (hp : pc1 + 3 = pc') (ho : (pc1 : Int) + o = (pcY : Int)) (rY : y < x → Run p l e R s m args below meth c n0 P h k n pcY Ls st) (rN : ¬ y < x → Run p l e R s m args below meth c n0 P h k n pc' Ls st) : Run p l e R s m args below meth c n0 P h k n pc Ls (.long y :: .long x :: st) :=
  s_lcmp C hd hp1 (s_if_gt C hd2 hp ho (fun h => rY ((lw_gt x y).mp h)) (fun h => rN (fun q => h ((lw_gt x y).mpr q))))
theorem s_if_le (C : Ctx p l e R s m args below meth c Z own cd maxL ret nm) {o : Int} {x : Int32} {pcY : Nat} (hd : decode cd pc = .ok (.ifCond .le o, 3)) (hp : pc + 3 = pc') (ho : (pc : Int) + o = (pcY : Int)) (rY : ¬ (0 : Int32) < x → Run p l e R s m args below meth c n0 P h k n pcY Ls st) (rN : (0 : Int32) < x → Run p l e R s m args below meth c n0 P h k n pc' Ls st) : Run p l e R s m args below meth c n0 P h k n pc Ls (.int x :: st) :=
  s_if C hd hp ho (fun h => rY (holds_le.1 h)) (fun h => rN (holds_le.2 h))
theorem s_icmp_le (C : Ctx p l e R s m args below meth c Z own cd maxL ret nm) {o : Int} {x y : Int32} {pcY : Nat} (hd : decode cd pc = .ok (.if_icmp .le o, 3)) (hp : pc + 3 = pc') (ho : (pc : Int) + o = (pcY : Int)) (rY : ¬ y < x → Run p l e R s m args below meth c n0 P h k n pcY Ls st) (rN : y < x → Run p l e R s m args below meth c n0 P h k n pc' Ls st) : Run p l e R s m args below meth c n0 P h k n pc Ls (.int y :: .int x :: st) :=
  s_icmp C hd hp ho (fun h => rY (holds_le.1 h)) (fun h => rN (holds_le.2 h))
theorem s_lc_le (C : Ctx p l e R s m args below meth c Z own cd maxL ret nm) {o : Int} {x y : Int64} {pc1 pcY : Nat} (hd : decode cd pc = .ok (.lcmp, 1)) (hp1 : pc + 1 = pc1) (hd2 : decode cd pc1 = .ok (.ifCond .le o, 3)) (hp : pc1 + 3 = pc') (ho : (pc1 : Int) + o = (pcY : Int)) (rY : ¬ y < x → Run p l e R s m args below meth c n0 P h k n pcY Ls st) (rN : y < x → Run p l e R s m args below meth c n0 P h k n pc' Ls st) : Run p l e R s m args below meth c n0 P h k n pc Ls (.long y :: .long x :: st) :=
  s_lcmp C hd hp1 (s_if_le C hd2 hp ho (fun h => rY (fun q => h ((lw_gt x y).mpr q))) (fun h => rN ((lw_gt x y).mp h)))
theorem s_if_eq (C : Ctx p l e R s m args below meth c Z own cd maxL ret nm) {o : Int} {x : Int32} {pcY : Nat} (hd : decode cd pc = .ok (.ifCond .eq o, 3)) (hp : pc + 3 = pc') (ho : (pc : Int) + o = (pcY : Int)) (rY : x = (0 : Int32) → Run p l e R s m args below meth c n0 P h k n pcY Ls st) (rN : ¬ x = (0 : Int32) → Run p l e R s m args below meth c n0 P h k n pc' Ls st) : Run p l e R s m args below meth c n0 P h k n pc Ls (.int x :: st) :=
  s_if C hd hp ho (fun h => rY (holds_eq.1 h)) (fun h => rN (holds_eq.2 h))
theorem s_icmp_eq (C : Ctx p l e R s m args below meth c Z own cd maxL ret nm) {o : Int} {x y : Int32} {pcY : Nat} (hd : decode cd pc = .ok (.if_icmp .eq o, 3)) (hp : pc + 3 = pc') (ho : (pc : Int) + o = (pcY : Int)) (rY : x = y → Run p l e R s m args below meth c n0 P h k n pcY Ls st) (rN : ¬ x = y → Run p l e R s m args below meth c n0 P h k n pc' Ls st) : Run p l e R s m args below meth c n0 P h k n pc Ls (.int y :: .int x :: st) :=
  s_icmp C hd hp ho (fun h => rY (holds_eq.1 h)) (fun h => rN (holds_eq.2 h))
theorem s_lc_eq (C : Ctx p l e R s m args below meth c Z own cd maxL ret nm) {o : Int} {x y : Int64} {pc1 pcY : Nat} (hd : decode cd pc = .ok (.lcmp, 1)) (hp1 : pc + 1 = pc1) (hd2 : decode cd pc1 = .ok (.ifCond .eq o, 3)) (hp : pc1 + 3 = pc') (ho : (pc1 : Int) + o = (pcY : Int)) (rY : x = y → Run p l e R s m args below meth c n0 P h k n pcY Ls st) (rN : ¬ x = y → Run p l e R s m args below meth c n0 P h k n pc' Ls st) : Run p l e R s m args below meth c n0 P h k n pc Ls (.long y :: .long x :: st) :=
  s_lcmp C hd hp1 (s_if_eq C hd2 hp ho (fun h => rY ((lw_eq x y).mp h)) (fun h => rN (fun q => h ((lw_eq x y).mpr q))))
theorem s_if_ne (C : Ctx p l e R s m args below meth c Z own cd maxL ret nm) {o : Int} {x : Int32} {pcY : Nat} (hd : decode cd pc = .ok (.ifCond .ne o, 3)) (hp : pc + 3 = pc') (ho : (pc : Int) + o = (pcY : Int)) (rY : ¬ x = (0 : Int32) → Run p l e R s m args below meth c n0 P h k n pcY Ls st) (rN : x = (0 : Int32) → Run p l e R s m args below meth c n0 P h k n pc' Ls st) : Run p l e R s m args below meth c n0 P h k n pc Ls (.int x :: st) :=
  s_if C hd hp ho (fun h => rY (holds_ne.1 h)) (fun h => rN (holds_ne.2 h))
theorem s_icmp_ne (C : Ctx p l e R s m args below meth c Z own cd maxL ret nm) {o : Int} {x y : Int32} {pcY : Nat} (hd : decode cd pc = .ok (.if_icmp .ne o, 3)) (hp : pc + 3 = pc') (ho : (pc : Int) + o = (pcY : Int)) (rY : ¬ x = y → Run p l e R s m args below meth c n0 P h k n pcY Ls st) (rN : x = y → Run p l e R s m args below meth c n0 P h k n pc' Ls st) : Run p l e R s m args below meth c n0 P h k n pc Ls (.int y :: .int x :: st) :=
  s_icmp C hd hp ho (fun h => rY (holds_ne.1 h)) (fun h => rN (holds_ne.2 h))
theorem s_lc_ne (C : Ctx p l e R s m args below meth c Z own cd maxL ret nm) {o : Int} {x y : Int64} {pc1 pcY : Nat} (hd : decode cd pc = .ok (.lcmp, 1)) (hp1 : pc + 1 = pc1) (hd2 : decode cd pc1 = .ok (.ifCond .ne o, 3)) (hp : pc1 + 3 = pc') (ho : (pc1 : Int) + o = (pcY : Int)) (rY : ¬ x = y → Run p l e R s m args below meth c n0 P h k n pcY Ls st) (rN : x = y → Run p l e R s m args below meth c n0 P h k n pc' Ls st) : Run p l e R s m args below meth c n0 P h k n pc Ls (.long y :: .long x :: st) :=
  s_lcmp C hd hp1 (s_if_ne C hd2 hp ho (fun h => rY (fun q => h ((lw_eq x y).mpr q))) (fun h => rN ((lw_eq x y).mp h)))
theorem s_ifnullR (C : Ctx p l e R s m args below meth c Z own cd maxL ret nm) {o : Int} {b : Addr} (hd : decode cd pc = .ok (.ifnull o, 3)) (hp : pc + 3 = pc') (r : Run p l e R s m args below meth c n0 P h k n pc' Ls st) : Run p l e R s m args below meth c n0 P h k n pc Ls (.ref b :: st) := by
  subst hp; exact Run.pure (fun T locs X _ t z => XS.ifnullNo X.here C.1 rfl (hb C.2.2.1 hd) rfl z) r
theorem s_ifnullN (C : Ctx p l e R s m args below meth c Z own cd maxL ret nm) {o : Int} (hd : decode cd pc = .ok (.ifnull o, 3)) (hp : (pc : Int) + o = (pc' : Int)) (r : Run p l e R s m args below meth c n0 P h k n pc' Ls st) : Run p l e R s m args below meth c n0 P h k n pc Ls (.null :: st) :=
  Run.pure (fun T locs X _ t z => XS.ifnullYes X.here C.1 rfl (pc0 := pc) rfl (hb C.2.2.1 hd) rfl (by omega) (by omega) z) r
theorem s_ifnonnullR (C : Ctx p l e R s m args below meth c Z own cd maxL ret nm) {o : Int} {b : Addr} (hd : decode cd pc = .ok (.ifnonnull o, 3)) (hp : (pc : Int) + o = (pc' : Int)) (r : Run p l e R s m args below meth c n0 P h k n pc' Ls st) : Run p l e R s m args below meth c n0 P h k n pc Ls (.ref b :: st) :=
  Run.pure (fun T locs X _ t z => XS.ifnonnullYes X.here C.1 rfl (pc0 := pc) rfl (hb C.2.2.1 hd) rfl (by omega) (by omega) z) r
theorem s_ifnonnullN (C : Ctx p l e R s m args below meth c Z own cd maxL ret nm) {o : Int} (hd : decode cd pc = .ok (.ifnonnull o, 3)) (hp : pc + 3 = pc') (r : Run p l e R s m args below meth c n0 P h k n pc' Ls st) : Run p l e R s m args below meth c n0 P h k n pc Ls (.null :: st) := by
  subst hp; exact Run.pure (fun T locs X _ t z => XS.ifnonnullNo X.here C.1 rfl (hb C.2.2.1 hd) rfl z) r
theorem s_acmp (C : Ctx p l e R s m args below meth c Z own cd maxL ret nm) {cc : ClassFile.ACond} {o : Int} {x y : Value} {same : Bool} (hd : decode cd pc = .ok (.if_acmp cc o, 3)) (h1 : x.isRef = true) (h2 : y.isRef = true) (hq : decide (x = y) = same) (ho : 0 ≤ (pc : Int) + o) (hp : pc' = if acV cc same = true then ((pc : Int) + o).toNat else pc + 3) (r : Run p l e R s m args below meth c n0 P h k n pc' Ls st) : Run p l e R s m args below meth c n0 P h k n pc Ls (y :: x :: st) :=
  Run.pure (fun T locs X _ t z => Jvm.RoadKit.acmp (g := mkF m pc Ls (y :: x :: st)) X C.1 rfl h1 h2 rfl (hb C.2.2.1 hd) rfl hq ho hp z) r
/-! returns -/
theorem Run.out {v : Option Value} (C : Ctx p l e R s m args below meth c Z own cd maxL ret nm) (hv : ret = none → v = none) (f : ∀ T locs, Stand p l e R s m args below meth c T locs k n → ∀ fs, (∀ (f : JFrame) (acts : List Action), f.method = m → f.locked = none → f.entered = [] → (doReturn e (T.setTop f) acts v).1 = T.setFrames fs) → Steps p.tables e below (T.setTop (mkF m pc Ls st)) (T.setFrames fs)) (hk : k ≤ R.cells) (hn : n ≤ R.slots) (hP : P v h) : Run p l e R s m args below meth c n0 P h k n pc Ls st := fun T locs X eT N => by
  obtain ⟨fs, hr, hrun, hended, hW, hsame⟩ := X.leave (v := v) (fun h => hv (C.2.2.2.2.2.1 ▸ h)) C.2.2.2.2.2.2.1
  exact ⟨_, _, f T locs X fs hr, hrun, hended, _, _, rfl, ⟨(by rw [show (T.setFrames fs).heap = h from eT]; exact hP), N⟩, ⟨_, rfl⟩, hW, hsame.mono hk hn⟩
theorem s_retI {Q : Int32 → Heap → Prop} (C : Ctx p l e R s m args below meth c Z own cd maxL (some .int) nm) {z : Int32} (hd : decode cd pc = .ok (.ireturn, 1)) (hk : k ≤ R.cells) (hn : n ≤ R.slots) (hQ : Q z h) : Run p l e R s m args below meth c n0 (RetI Q) h k n pc Ls (.int z :: st) :=
  Run.out C (fun h => by cases h) (fun T locs X fs hr => retOut X C.1 C.2.2.2.2.2.1 rfl (Or.inl ⟨rfl, Or.inl rfl, _, rfl⟩) (hb C.2.2.1 hd) hr) hk hn ⟨_, rfl, hQ⟩
theorem s_retN {Q : Int32 → Heap → Prop} {t : FieldType} (C : Ctx p l e R s m args below meth c Z own cd maxL (some t) nm) (ht : t = .boolean ∨ t = .byte ∨ t = .char ∨ t = .short) {z : Int32} (hd : decode cd pc = .ok (.ireturn, 1)) (hk : k ≤ R.cells) (hn : n ≤ R.slots) (hQ : Q (nar t z) h) : Run p l e R s m args below meth c n0 (RetI Q) h k n pc Ls (.int z :: st) :=
  Run.out C (fun h => by cases h) (fun T locs X fs hr => retN X C.1 C.2.2.2.2.2.1 ht (hb C.2.2.1 hd) hr) hk hn ⟨_, rfl, hQ⟩
theorem s_retL {Q : Int64 → Heap → Prop} (C : Ctx p l e R s m args below meth c Z own cd maxL (some .long) nm) {z : Int64} (hd : decode cd pc = .ok (.lreturn, 1)) (hk : k ≤ R.cells) (hn : n ≤ R.slots) (hQ : Q z h) : Run p l e R s m args below meth c n0 (RetL Q) h k n pc Ls (.long z :: st) :=
  Run.out C (fun h => by cases h) (fun T locs X fs hr => retOut X C.1 C.2.2.2.2.2.1 rfl (Or.inr (Or.inl ⟨rfl, rfl, _, rfl⟩)) (hb C.2.2.1 hd) hr) hk hn ⟨_, rfl, hQ⟩
theorem s_retA {Q : Value → Heap → Prop} {t : FieldType} (C : Ctx p l e R s m args below meth c Z own cd maxL (some t) nm) (ht : t.isReference = true) {v : Value} (hv : v.isRef = true) (hn' : narrow t v = v) (hd : decode cd pc = .ok (.areturn, 1)) (hk : k ≤ R.cells) (hn : n ≤ R.slots) (hQ : Q v h) : Run p l e R s m args below meth c n0 (RetV Q) h k n pc Ls (v :: st) :=
  Run.out C (fun h => by cases h) (fun T locs X fs hr => retOut X C.1 C.2.2.2.2.2.1 hn' (Or.inr (Or.inr (Or.inr (Or.inr ⟨rfl, ht, hv⟩)))) (hb C.2.2.1 hd) hr) hk hn ⟨_, rfl, hQ⟩
theorem s_ret0 {Q : Heap → Prop} (C : Ctx p l e R s m args below meth c Z own cd maxL none nm) (hd : decode cd pc = .ok (.return_, 1)) (hk : k ≤ R.cells) (hn : n ≤ R.slots) (hQ : Q h) : Run p l e R s m args below meth c n0 (Ret0 Q) h k n pc Ls [] :=
  Run.out C (fun _ => rfl) (fun T locs X fs hr => X.returnOut C.1 C.2.2.2.2.2.1 (hb C.2.2.1 hd) hr) hk hn ⟨rfl, hQ⟩
/-! fields, objects -/
theorem s_getF (C : Ctx p l e R s m args below meth c Z own cd maxL ret nm) {O f d : String} {i : Nat} {a : Addr} {v : Value} (hd : decode cd pc = .ok (.getfield i, 3)) (hp : pc + 3 = pc') (w : (Jvm.Cond.fieldLink own i O f d).before a0 Z = true) (F : Fld Z h a O f d v) (r : Run p l e R s m args below meth c n0 P h k n pc' Ls (v :: st)) : Run p l e R s m args below meth c n0 P h k n pc Ls (.ref a :: st) := by
  subst hp; exact Run.warm (fun T locs X eT => getF X C.1 C.2.1 C.2.2.2.2.1 (host := "") (Or.inl w) Via.refl eT F (g := mkF m pc Ls (.ref a :: st)) rfl rfl (hb C.2.2.1 hd)) r
theorem s_getS (C : Ctx p l e R s m args below meth c Z own cd maxL ret nm) {O f d : String} {i : Nat} {v : Value} (hd : decode cd pc = .ok (.getstatic i, 3)) (hp : pc + 3 = pc') (w : (Jvm.Cond.fieldLink own i O f d).before a0 Z = true) (F : Sta Z h O f d v) (r : Run p l e R s m args below meth c n0 P h k n pc' Ls (v :: st)) : Run p l e R s m args below meth c n0 P h k n pc Ls st := by
  subst hp; exact Run.warm (fun T locs X eT => getS (host := "") X C.1 C.2.1 C.2.2.2.2.1 w Via.refl eT F (g := mkF m pc Ls st) rfl (hb C.2.2.1 hd)) r
theorem s_putF (C : Ctx p l e R s m args below meth c Z own cd maxL ret nm) {O f d K : String} {i kk : Nat} {a : Addr} {v old : Value} {ty : FieldType} (hd : decode cd pc = .ok (.putfield i, 3)) (hp : pc + 3 = pc') (w : (Jvm.Cond.fieldLink own i O f d).before a0 Z = true) (F : Fld Z h a O f d old) (E : Exa Z h a K)
    (L : (Jvm.Cond.lays K O f d).before a0 Z = true ∨ ((Jvm.Cond.laysFinal K O f d).before a0 Z = true ∧ own = O ∧ nm = "<init>")) (wi : (Jvm.Cond.instantiable K kk).before a0 Z = true) (hty : parseFieldDescriptor d = some ty) (hn : narrow ty v = v) (hf : fits ty v = true) (ha : n0 ≤ a)
    (r : ∀ h', Wr h h' a (Jvm.RoadKit.slotOf Z O f d) v → Run p l e R s m args below meth c n0 P h' k n pc' Ls st) : Run p l e R s m args below meth c n0 P h k n pc Ls (v :: .ref a :: st) := by
  subst hp
  intro T locs X eT N
  obtain ⟨T', h', X', e', W, q⟩ := putF X C.1 C.2.1 C.2.2.2.2.1 (host := "") (Or.inl w) Via.refl eT F E (L.imp id fun z => ⟨z.1, z.2.1, C.2.2.2.2.2.2.2.trans z.2.2⟩) wi hty hn hf (g := mkF m pc Ls (v :: .ref a :: st)) rfl rfl (hb C.2.2.1 hd)
  obtain ⟨s₂, o, z, r⟩ := r h' W T' _ X' e' (Fr.snoc X' N ha)
  exact ⟨s₂, o, q _ z, r⟩
theorem s_new (C : Ctx p l e R s m args below meth c Z own cd maxL ret nm) {K : String} {i sl k' n' : Nat} (hd : decode cd pc = .ok (.new i, 3)) (hp : pc + 3 = pc') (w : (Jvm.Cond.classLink own i K).before a0 Z = true) (wi : (Jvm.Cond.instantiable K sl).before a0 Z = true) (wz : (Jvm.Cond.initialized K).before a0 Z = true) (hk : k + 1 = k') (hk' : k' ≤ R.cells) (hn : n + sl = n') (hn' : n' ≤ R.slots)
    (r : ∀ h' a, Ext h h' → a = h.size → Exa Z h' a K → (∀ {O nm d : String} {ty : FieldType}, Laid Z a0 K O nm d → parseFieldDescriptor d = some ty → Fld Z h' a O nm d (defaultValue ty)) → Run p l e R s m args below meth c n0 P h' k' n' pc' Ls (.ref a :: st)) : Run p l e R s m args below meth c n0 P h k n pc Ls st := by
  subst hp hk hn
  intro T locs X eT N
  obtain ⟨T', h', X', e', E, A, D, -, q⟩ := newO X C.1 C.2.1 C.2.2.2.2.1 w wi wz eT (g := mkF m pc Ls st) rfl (hb C.2.2.1 hd) hk' hn'
  obtain ⟨s₂, o, z, r⟩ := r h' _ E rfl A D T' _ X' e' N
  exact ⟨s₂, o, q _ z, r⟩
theorem s_initO (C : Ctx p l e R s m args below meth c Z own cd maxL ret nm) {i W : Nat} {a : Addr} (hd : decode cd pc = .ok (.invokespecial i, 3)) (hp : pc + 3 = pc') (w1 : (Jvm.Cond.methodLink own i Lib.objectInit).before a0 Z = true) (w2 : (Jvm.Cond.instanceMethod Lib.objectInit).before a0 Z = true) (w3 : (Jvm.Cond.code Lib.objectInit ⟨#[0xb1]⟩ 1 none).before a0 Z = true) (hs : Ls.size = maxL) (hf : 1 ≤ R.frames) (hW : (st.map fun v => v.category).sum = W) (hl : W + 12 ≤ R.locals)
    (r : Run p l e R s m args below meth c n0 P h k n pc' Ls st) : Run p l e R s m args below meth c n0 P h k n pc Ls (.ref a :: st) := by
  subst hp; exact Run.warm (fun T locs X eT => initO X C.1 C.2.1 C.2.2.2.2.1 w1 w2 w3 eT (g := mkF m pc Ls (.ref a :: st)) rfl (by rw [C.2.2.2.1]; exact hs) rfl (hb C.2.2.1 hd) hf (W := W) (by show 2 * 0 + _ ≤ _; omega) hl) r
theorem s_cast (C : Ctx p l e R s m args below meth c Z own cd maxL ret nm) {K : String} {i : Nat} {a : Addr} (hd : decode cd pc = .ok (.checkcast i, 3)) (hp : pc + 3 = pc') (w : (Jvm.Cond.classLink own i K).before a0 Z = true) (F : Ins Z h a K true) (r : Run p l e R s m args below meth c n0 P h k n pc' Ls (.ref a :: st)) : Run p l e R s m args below meth c n0 P h k n pc Ls (.ref a :: st) := by
  subst hp; exact Run.warm (fun T locs X eT => castY X C.1 C.2.1 C.2.2.2.2.1 w eT F (g := mkF m pc Ls (.ref a :: st)) rfl rfl (hb C.2.2.1 hd)) r
theorem s_instY (C : Ctx p l e R s m args below meth c Z own cd maxL ret nm) {K : String} {i : Nat} {a : Addr} (hd : decode cd pc = .ok (.instanceof i, 3)) (hp : pc + 3 = pc') (w : (Jvm.Cond.classLink own i K).before a0 Z = true) (F : Ins Z h a K true) (r : Run p l e R s m args below meth c n0 P h k n pc' Ls (.int 1 :: st)) : Run p l e R s m args below meth c n0 P h k n pc Ls (.ref a :: st) := by
  subst hp; exact Run.warm (fun T locs X eT => instY X C.1 C.2.1 C.2.2.2.2.1 w eT F (g := mkF m pc Ls (.ref a :: st)) rfl rfl (hb C.2.2.1 hd)) r
/-! calls -/
theorem Met.back {y : MethodName} {bytes : ByteArray} {mL len W : Nat} {rt : Option FieldType} {rm : Room} {as : Array Value} {Q : Option Value → Heap → Prop} (M : Met l Z y bytes mL rt [] rm as h n0 Q) (hZ : Z.Warmed39 s.vm) (wc : (Jvm.Cond.code y bytes mL rt).before a0 Z = true) (wz : (Jvm.Cond.initialized y.cls).before a0 Z = true) (hf : rm.frames + 1 ≤ R.frames) (hl : W + (mL + 11) + rm.locals ≤ R.locals) :
    Back l R p e below s args y len W (fun A a => a = as ∧ A.U.heap = h ∧ A.cells + rm.cells ≤ R.cells ∧ A.slots + rm.slots ≤ R.slots) (fun A _ v B => ∃ L, (Q v B.U.heap ∧ Fr n0 L) ∧ B.locs = A.locs ++ L ∧ B.cells = A.cells + rm.cells ∧ B.slots = A.slots + rm.slots) :=
  backOf (Q := fun v h L => Q v h ∧ Fr n0 L) M hZ wc wz hf hl
theorem s_callS (C : Ctx p l e R s m args below meth c Z own cd maxL ret nm) {y : MethodName} {bytes : ByteArray} {mL i W k' n' : Nat} {rt : Option FieldType} {rm : Room} {Q : Option Value → Heap → Prop} (hd : decode cd pc = .ok (.invokestatic i, 3)) (hp : pc + 3 = pc') (wl : (Jvm.Cond.methodLink own i y).before a0 Z = true) (ws : (Jvm.Cond.static y).before a0 Z = true) (wz : (Jvm.Cond.initialized y.cls).before a0 Z = true) (wc : (Jvm.Cond.code y bytes mL rt).before a0 Z = true) (hy : y.cls ≠ "java/lang/invoke/MethodHandle" ∧ y.cls ≠ "java/lang/invoke/VarHandle") (as rest : List Value) {ps : List FieldType} {rr : Option FieldType} (hdes : parseMethodDescriptor y.desc = some ⟨ps, rr⟩) (hlen : as.length = ps.length) (hst : st = as.reverse ++ rest)
    (M : Met l Z y bytes mL rt [] rm as.toArray h n0 Q) (hs : Ls.size = maxL) (hW : (rest.map fun v => v.category).sum = W) (hf : rm.frames + 1 ≤ R.frames) (hl : W + (mL + 11) + rm.locals ≤ R.locals) (hk : k + rm.cells = k') (hk' : k' ≤ R.cells) (hn : n + rm.slots = n') (hn' : n' ≤ R.slots)
    (r : ∀ v h', Q v h' → Run p l e R s m args below meth c n0 P h' k' n' pc' Ls (v.toList ++ rest)) : Run p l e R s m args below meth c n0 P h k n pc Ls st := by
  subst hp hk hn hst
  intro T locs X eT N
  obtain ⟨v, _, ⟨T', L', k', n'⟩, -, X', ⟨Lc, ⟨hQ, N'⟩, l', y', z'⟩, q⟩ := Jvm.LawKit.callS X C.1 (y := y) C.2.2.2.2.1 (mvT C.2.1 wl) (mvT C.2.1 ws) (mvT C.2.1 wz) (mvT C.2.1 wc) hy (M.back (W := W) C.2.1 wc wz hf hl) (g := mkF m pc Ls (as.reverse ++ rest)) rfl (by rw [C.2.2.2.1]; exact hs) (argsL := as) (rest := rest) (lenOf hdes hlen) rfl (by show 2 * 0 + _ ≤ _; omega) (hb C.2.2.1 hd) (fun _ _ => ⟨rfl, eT, hk', hn'⟩)
  dsimp only [Pt.U, Pt.locs, Pt.cells, Pt.slots] at X' l' y' z' q hQ
  subst l' y' z'
  obtain ⟨s₂, o, z, r⟩ := r v _ hQ T' _ X' rfl (Fr.app N N')
  exact ⟨s₂, o, q _ z, r⟩
theorem s_callV (C : Ctx p l e R s m args below meth c Z own cd maxL ret nm) {y z : MethodName} {K : String} {bytes : ByteArray} {mL i W k' n' : Nat} {rt : Option FieldType} {rm : Room} {b : Addr} {Q : Option Value → Heap → Prop} (hd : decode cd pc = .ok (.invokevirtual i, 3)) (hp : pc + 3 = pc') (wl : (Jvm.Cond.methodLink own i y).before a0 Z = true) (wd : (Jvm.Cond.declares y).before a0 Z = true) (hnf : NotFace s y) (wsel : (Jvm.Cond.selects K y z).before a0 Z = true) (wi : (Jvm.Cond.instanceMethod z).before a0 Z = true) (wz : (Jvm.Cond.initialized z.cls).before a0 Z = true) (wc : (Jvm.Cond.code z bytes mL rt).before a0 Z = true) (hy : y.cls ≠ "java/lang/invoke/MethodHandle" ∧ y.cls ≠ "java/lang/invoke/VarHandle") (E : Exa Z h b K) (as rest : List Value) {ps : List FieldType} {rr : Option FieldType} (hdes : parseMethodDescriptor y.desc = some ⟨ps, rr⟩) (hlen : as.length = ps.length) (hst : st = as.reverse ++ .ref b :: rest)
    (M : Met l Z z bytes mL rt [] rm (.ref b :: as).toArray h n0 Q) (hs : Ls.size = maxL) (hW : (rest.map fun v => v.category).sum = W) (hf : rm.frames + 1 ≤ R.frames) (hl : W + (mL + 11) + rm.locals ≤ R.locals) (hk : k + rm.cells = k') (hk' : k' ≤ R.cells) (hn : n + rm.slots = n') (hn' : n' ≤ R.slots)
    (r : ∀ v h', Q v h' → Run p l e R s m args below meth c n0 P h' k' n' pc' Ls (v.toList ++ rest)) : Run p l e R s m args below meth c n0 P h k n pc Ls st := by
  subst hp hk hn hst
  intro T locs X eT N
  obtain ⟨cq, kq, qa, qb, qc⟩ := isOf C.2.1 eT E
  obtain ⟨v, _, ⟨T', L', k', n'⟩, -, X', ⟨Lc, ⟨hQ, N'⟩, l', y', z'⟩, q⟩ := X.virtualBack C.1 (y := y) (z := z) C.2.2.2.2.1 (mvT C.2.1 wl) (mvT C.2.1 wd) hnf (mvT C.2.1 wsel) (mvT C.2.1 wi) hy (M.back (W := W) C.2.1 wc wz hf hl) qa qc (g := mkF m pc Ls (as.reverse ++ .ref b :: rest)) rfl (by rw [C.2.2.2.1]; exact hs) (Steps.refl _) (argsL := as) (rest := rest) (lenOf hdes hlen) rfl (by show 2 * 0 + _ ≤ _; omega) (hb C.2.2.1 hd) (fun _ _ => ⟨rfl, eT, hk', hn'⟩)
  dsimp only [Pt.U, Pt.locs, Pt.cells, Pt.slots] at X' l' y' z' q hQ
  subst l' y' z'
  obtain ⟨s₂, o, z, r⟩ := r v _ hQ T' _ X' rfl (Fr.app N N')
  exact ⟨s₂, o, q.trans z, r⟩
theorem s_callI (C : Ctx p l e R s m args below meth c Z own cd maxL ret nm) {y : MethodName} {bytes : ByteArray} {mL i W k' n' : Nat} {rm : Room} {b : Addr} {Q : Heap → Prop} (hd : decode cd pc = .ok (.invokespecial i, 3)) (hp : pc + 3 = pc') (wl : (Jvm.Cond.methodLink own i y).before a0 Z = true) (hy1 : y.name = "<init>") (wi : (Jvm.Cond.instanceMethod y).before a0 Z = true) (wz : (Jvm.Cond.initialized y.cls).before a0 Z = true) (wc : (Jvm.Cond.code y bytes mL none).before a0 Z = true) (hy : y.cls ≠ "java/lang/invoke/MethodHandle" ∧ y.cls ≠ "java/lang/invoke/VarHandle") (as rest : List Value) {ps : List FieldType} {rr : Option FieldType} (hdes : parseMethodDescriptor y.desc = some ⟨ps, rr⟩) (hlen : as.length = ps.length) (hst : st = as.reverse ++ .ref b :: rest)
    (M : Met l Z y bytes mL none [] rm (.ref b :: as).toArray h n0 (Ret0 Q)) (hs : Ls.size = maxL) (hW : (rest.map fun v => v.category).sum = W) (hf : rm.frames + 1 ≤ R.frames) (hl : W + (mL + 11) + rm.locals ≤ R.locals) (hk : k + rm.cells = k') (hk' : k' ≤ R.cells) (hn : n + rm.slots = n') (hn' : n' ≤ R.slots)
    (r : ∀ h', Q h' → Run p l e R s m args below meth c n0 P h' k' n' pc' Ls rest) : Run p l e R s m args below meth c n0 P h k n pc Ls st := by
  subst hp hk hn hst
  intro T locs X eT N
  obtain ⟨v, _, ⟨T', L', k', n'⟩, -, X', ⟨Lc, ⟨⟨rfl, hQ⟩, N'⟩, l', y', z'⟩, q⟩ := X.specialBack C.1 (y := y) hy1 C.2.2.2.2.1 (mvT C.2.1 wl) (mvT C.2.1 wi) (mvT C.2.1 wc) hy (M.back (W := W) C.2.1 wc wz hf hl) (g := mkF m pc Ls (as.reverse ++ .ref b :: rest)) rfl (by rw [C.2.2.2.1]; exact hs) (Steps.refl _) (a := b) (argsL := as) (rest := rest) (lenOf hdes hlen) rfl (by show 2 * 0 + _ ≤ _; omega) (hb C.2.2.1 hd) (fun _ _ => ⟨rfl, eT, hk', hn'⟩)
  dsimp only [Pt.U, Pt.locs, Pt.cells, Pt.slots] at X' l' y' z' q hQ
  subst l' y' z'
  obtain ⟨s₂, o, z, r⟩ := r _ hQ T' _ X' rfl (Fr.app N N')
  exact ⟨s₂, o, q.trans z, r⟩
theorem s_callSI (C : Ctx p l e R s m args below meth c Z own cd maxL ret nm) {y : MethodName} {bytes : ByteArray} {mL i W k' n' : Nat} {rt : Option FieldType} {rm : Room} {Q : Int32 → Heap → Prop} (hd : decode cd pc = .ok (.invokestatic i, 3)) (hp : pc + 3 = pc') (wl : (Jvm.Cond.methodLink own i y).before a0 Z = true) (ws : (Jvm.Cond.static y).before a0 Z = true) (wz : (Jvm.Cond.initialized y.cls).before a0 Z = true) (wc : (Jvm.Cond.code y bytes mL rt).before a0 Z = true) (hy : y.cls ≠ "java/lang/invoke/MethodHandle" ∧ y.cls ≠ "java/lang/invoke/VarHandle") (as rest : List Value) {ps : List FieldType} {rr : Option FieldType} (hdes : parseMethodDescriptor y.desc = some ⟨ps, rr⟩) (hlen : as.length = ps.length) (hst : st = as.reverse ++ rest)
    (M : Met l Z y bytes mL rt [] rm as.toArray h n0 (RetI Q)) (hs : Ls.size = maxL) (hW : (rest.map fun v => v.category).sum = W) (hf : rm.frames + 1 ≤ R.frames) (hl : W + (mL + 11) + rm.locals ≤ R.locals) (hk : k + rm.cells = k') (hk' : k' ≤ R.cells) (hn : n + rm.slots = n') (hn' : n' ≤ R.slots)
    (r : ∀ (z : Int32) h', Q z h' → Run p l e R s m args below meth c n0 P h' k' n' pc' Ls ((.int z) :: rest)) : Run p l e R s m args below meth c n0 P h k n pc Ls st :=
  s_callS C hd hp wl ws wz wc hy as rest hdes hlen hst M hs hW hf hl hk hk' hn hn' (fun v h' q => by obtain ⟨z, rfl, q⟩ := q; exact r z h' q)
theorem s_callSL (C : Ctx p l e R s m args below meth c Z own cd maxL ret nm) {y : MethodName} {bytes : ByteArray} {mL i W k' n' : Nat} {rt : Option FieldType} {rm : Room} {Q : Int64 → Heap → Prop} (hd : decode cd pc = .ok (.invokestatic i, 3)) (hp : pc + 3 = pc') (wl : (Jvm.Cond.methodLink own i y).before a0 Z = true) (ws : (Jvm.Cond.static y).before a0 Z = true) (wz : (Jvm.Cond.initialized y.cls).before a0 Z = true) (wc : (Jvm.Cond.code y bytes mL rt).before a0 Z = true) (hy : y.cls ≠ "java/lang/invoke/MethodHandle" ∧ y.cls ≠ "java/lang/invoke/VarHandle") (as rest : List Value) {ps : List FieldType} {rr : Option FieldType} (hdes : parseMethodDescriptor y.desc = some ⟨ps, rr⟩) (hlen : as.length = ps.length) (hst : st = as.reverse ++ rest)
    (M : Met l Z y bytes mL rt [] rm as.toArray h n0 (RetL Q)) (hs : Ls.size = maxL) (hW : (rest.map fun v => v.category).sum = W) (hf : rm.frames + 1 ≤ R.frames) (hl : W + (mL + 11) + rm.locals ≤ R.locals) (hk : k + rm.cells = k') (hk' : k' ≤ R.cells) (hn : n + rm.slots = n') (hn' : n' ≤ R.slots)
    (r : ∀ (z : Int64) h', Q z h' → Run p l e R s m args below meth c n0 P h' k' n' pc' Ls ((.long z) :: rest)) : Run p l e R s m args below meth c n0 P h k n pc Ls st :=
  s_callS C hd hp wl ws wz wc hy as rest hdes hlen hst M hs hW hf hl hk hk' hn hn' (fun v h' q => by obtain ⟨z, rfl, q⟩ := q; exact r z h' q)
theorem s_callSA (C : Ctx p l e R s m args below meth c Z own cd maxL ret nm) {y : MethodName} {bytes : ByteArray} {mL i W k' n' : Nat} {rt : Option FieldType} {rm : Room} {Q : Value → Heap → Prop} (hd : decode cd pc = .ok (.invokestatic i, 3)) (hp : pc + 3 = pc') (wl : (Jvm.Cond.methodLink own i y).before a0 Z = true) (ws : (Jvm.Cond.static y).before a0 Z = true) (wz : (Jvm.Cond.initialized y.cls).before a0 Z = true) (wc : (Jvm.Cond.code y bytes mL rt).before a0 Z = true) (hy : y.cls ≠ "java/lang/invoke/MethodHandle" ∧ y.cls ≠ "java/lang/invoke/VarHandle") (as rest : List Value) {ps : List FieldType} {rr : Option FieldType} (hdes : parseMethodDescriptor y.desc = some ⟨ps, rr⟩) (hlen : as.length = ps.length) (hst : st = as.reverse ++ rest)
    (M : Met l Z y bytes mL rt [] rm as.toArray h n0 (RetV Q)) (hs : Ls.size = maxL) (hW : (rest.map fun v => v.category).sum = W) (hf : rm.frames + 1 ≤ R.frames) (hl : W + (mL + 11) + rm.locals ≤ R.locals) (hk : k + rm.cells = k') (hk' : k' ≤ R.cells) (hn : n + rm.slots = n') (hn' : n' ≤ R.slots)
    (r : ∀ (z : Value) h', Q z h' → Run p l e R s m args below meth c n0 P h' k' n' pc' Ls (z :: rest)) : Run p l e R s m args below meth c n0 P h k n pc Ls st :=
  s_callS C hd hp wl ws wz wc hy as rest hdes hlen hst M hs hW hf hl hk hk' hn hn' (fun v h' q => by obtain ⟨z, rfl, q⟩ := q; exact r z h' q)
theorem s_callS0 (C : Ctx p l e R s m args below meth c Z own cd maxL ret nm) {y : MethodName} {bytes : ByteArray} {mL i W k' n' : Nat} {rt : Option FieldType} {rm : Room} {Q : Heap → Prop} (hd : decode cd pc = .ok (.invokestatic i, 3)) (hp : pc + 3 = pc') (wl : (Jvm.Cond.methodLink own i y).before a0 Z = true) (ws : (Jvm.Cond.static y).before a0 Z = true) (wz : (Jvm.Cond.initialized y.cls).before a0 Z = true) (wc : (Jvm.Cond.code y bytes mL rt).before a0 Z = true) (hy : y.cls ≠ "java/lang/invoke/MethodHandle" ∧ y.cls ≠ "java/lang/invoke/VarHandle") (as rest : List Value) {ps : List FieldType} {rr : Option FieldType} (hdes : parseMethodDescriptor y.desc = some ⟨ps, rr⟩) (hlen : as.length = ps.length) (hst : st = as.reverse ++ rest)
    (M : Met l Z y bytes mL rt [] rm as.toArray h n0 (Ret0 Q)) (hs : Ls.size = maxL) (hW : (rest.map fun v => v.category).sum = W) (hf : rm.frames + 1 ≤ R.frames) (hl : W + (mL + 11) + rm.locals ≤ R.locals) (hk : k + rm.cells = k') (hk' : k' ≤ R.cells) (hn : n + rm.slots = n') (hn' : n' ≤ R.slots)
    (r : ∀ h', Q h' → Run p l e R s m args below meth c n0 P h' k' n' pc' Ls rest) : Run p l e R s m args below meth c n0 P h k n pc Ls st :=
  s_callS C hd hp wl ws wz wc hy as rest hdes hlen hst M hs hW hf hl hk hk' hn hn' (fun v h' q => by obtain ⟨rfl, q⟩ := q; exact r h' q)
theorem s_callVI (C : Ctx p l e R s m args below meth c Z own cd maxL ret nm) {y z : MethodName} {K : String} {bytes : ByteArray} {mL i W k' n' : Nat} {rt : Option FieldType} {rm : Room} {b : Addr} {Q : Int32 → Heap → Prop} (hd : decode cd pc = .ok (.invokevirtual i, 3)) (hp : pc + 3 = pc') (wl : (Jvm.Cond.methodLink own i y).before a0 Z = true) (wd : (Jvm.Cond.declares y).before a0 Z = true) (hnf : NotFace s y) (wsel : (Jvm.Cond.selects K y z).before a0 Z = true) (wi : (Jvm.Cond.instanceMethod z).before a0 Z = true) (wz : (Jvm.Cond.initialized z.cls).before a0 Z = true) (wc : (Jvm.Cond.code z bytes mL rt).before a0 Z = true) (hy : y.cls ≠ "java/lang/invoke/MethodHandle" ∧ y.cls ≠ "java/lang/invoke/VarHandle") (E : Exa Z h b K) (as rest : List Value) {ps : List FieldType} {rr : Option FieldType} (hdes : parseMethodDescriptor y.desc = some ⟨ps, rr⟩) (hlen : as.length = ps.length) (hst : st = as.reverse ++ .ref b :: rest)
    (M : Met l Z z bytes mL rt [] rm (.ref b :: as).toArray h n0 (RetI Q)) (hs : Ls.size = maxL) (hW : (rest.map fun v => v.category).sum = W) (hf : rm.frames + 1 ≤ R.frames) (hl : W + (mL + 11) + rm.locals ≤ R.locals) (hk : k + rm.cells = k') (hk' : k' ≤ R.cells) (hn : n + rm.slots = n') (hn' : n' ≤ R.slots)
    (r : ∀ (z : Int32) h', Q z h' → Run p l e R s m args below meth c n0 P h' k' n' pc' Ls ((.int z) :: rest)) : Run p l e R s m args below meth c n0 P h k n pc Ls st :=
  s_callV C hd hp wl wd hnf wsel wi wz wc hy E as rest hdes hlen hst M hs hW hf hl hk hk' hn hn' (fun v h' q => by obtain ⟨z, rfl, q⟩ := q; exact r z h' q)
theorem s_callVL (C : Ctx p l e R s m args below meth c Z own cd maxL ret nm) {y z : MethodName} {K : String} {bytes : ByteArray} {mL i W k' n' : Nat} {rt : Option FieldType} {rm : Room} {b : Addr} {Q : Int64 → Heap → Prop} (hd : decode cd pc = .ok (.invokevirtual i, 3)) (hp : pc + 3 = pc') (wl : (Jvm.Cond.methodLink own i y).before a0 Z = true) (wd : (Jvm.Cond.declares y).before a0 Z = true) (hnf : NotFace s y) (wsel : (Jvm.Cond.selects K y z).before a0 Z = true) (wi : (Jvm.Cond.instanceMethod z).before a0 Z = true) (wz : (Jvm.Cond.initialized z.cls).before a0 Z = true) (wc : (Jvm.Cond.code z bytes mL rt).before a0 Z = true) (hy : y.cls ≠ "java/lang/invoke/MethodHandle" ∧ y.cls ≠ "java/lang/invoke/VarHandle") (E : Exa Z h b K) (as rest : List Value) {ps : List FieldType} {rr : Option FieldType} (hdes : parseMethodDescriptor y.desc = some ⟨ps, rr⟩) (hlen : as.length = ps.length) (hst : st = as.reverse ++ .ref b :: rest)
    (M : Met l Z z bytes mL rt [] rm (.ref b :: as).toArray h n0 (RetL Q)) (hs : Ls.size = maxL) (hW : (rest.map fun v => v.category).sum = W) (hf : rm.frames + 1 ≤ R.frames) (hl : W + (mL + 11) + rm.locals ≤ R.locals) (hk : k + rm.cells = k') (hk' : k' ≤ R.cells) (hn : n + rm.slots = n') (hn' : n' ≤ R.slots)
    (r : ∀ (z : Int64) h', Q z h' → Run p l e R s m args below meth c n0 P h' k' n' pc' Ls ((.long z) :: rest)) : Run p l e R s m args below meth c n0 P h k n pc Ls st :=
  s_callV C hd hp wl wd hnf wsel wi wz wc hy E as rest hdes hlen hst M hs hW hf hl hk hk' hn hn' (fun v h' q => by obtain ⟨z, rfl, q⟩ := q; exact r z h' q)
theorem s_callVA (C : Ctx p l e R s m args below meth c Z own cd maxL ret nm) {y z : MethodName} {K : String} {bytes : ByteArray} {mL i W k' n' : Nat} {rt : Option FieldType} {rm : Room} {b : Addr} {Q : Value → Heap → Prop} (hd : decode cd pc = .ok (.invokevirtual i, 3)) (hp : pc + 3 = pc') (wl : (Jvm.Cond.methodLink own i y).before a0 Z = true) (wd : (Jvm.Cond.declares y).before a0 Z = true) (hnf : NotFace s y) (wsel : (Jvm.Cond.selects K y z).before a0 Z = true) (wi : (Jvm.Cond.instanceMethod z).before a0 Z = true) (wz : (Jvm.Cond.initialized z.cls).before a0 Z = true) (wc : (Jvm.Cond.code z bytes mL rt).before a0 Z = true) (hy : y.cls ≠ "java/lang/invoke/MethodHandle" ∧ y.cls ≠ "java/lang/invoke/VarHandle") (E : Exa Z h b K) (as rest : List Value) {ps : List FieldType} {rr : Option FieldType} (hdes : parseMethodDescriptor y.desc = some ⟨ps, rr⟩) (hlen : as.length = ps.length) (hst : st = as.reverse ++ .ref b :: rest)
    (M : Met l Z z bytes mL rt [] rm (.ref b :: as).toArray h n0 (RetV Q)) (hs : Ls.size = maxL) (hW : (rest.map fun v => v.category).sum = W) (hf : rm.frames + 1 ≤ R.frames) (hl : W + (mL + 11) + rm.locals ≤ R.locals) (hk : k + rm.cells = k') (hk' : k' ≤ R.cells) (hn : n + rm.slots = n') (hn' : n' ≤ R.slots)
    (r : ∀ (z : Value) h', Q z h' → Run p l e R s m args below meth c n0 P h' k' n' pc' Ls (z :: rest)) : Run p l e R s m args below meth c n0 P h k n pc Ls st :=
  s_callV C hd hp wl wd hnf wsel wi wz wc hy E as rest hdes hlen hst M hs hW hf hl hk hk' hn hn' (fun v h' q => by obtain ⟨z, rfl, q⟩ := q; exact r z h' q)
theorem s_callV0 (C : Ctx p l e R s m args below meth c Z own cd maxL ret nm) {y z : MethodName} {K : String} {bytes : ByteArray} {mL i W k' n' : Nat} {rt : Option FieldType} {rm : Room} {b : Addr} {Q : Heap → Prop} (hd : decode cd pc = .ok (.invokevirtual i, 3)) (hp : pc + 3 = pc') (wl : (Jvm.Cond.methodLink own i y).before a0 Z = true) (wd : (Jvm.Cond.declares y).before a0 Z = true) (hnf : NotFace s y) (wsel : (Jvm.Cond.selects K y z).before a0 Z = true) (wi : (Jvm.Cond.instanceMethod z).before a0 Z = true) (wz : (Jvm.Cond.initialized z.cls).before a0 Z = true) (wc : (Jvm.Cond.code z bytes mL rt).before a0 Z = true) (hy : y.cls ≠ "java/lang/invoke/MethodHandle" ∧ y.cls ≠ "java/lang/invoke/VarHandle") (E : Exa Z h b K) (as rest : List Value) {ps : List FieldType} {rr : Option FieldType} (hdes : parseMethodDescriptor y.desc = some ⟨ps, rr⟩) (hlen : as.length = ps.length) (hst : st = as.reverse ++ .ref b :: rest)
    (M : Met l Z z bytes mL rt [] rm (.ref b :: as).toArray h n0 (Ret0 Q)) (hs : Ls.size = maxL) (hW : (rest.map fun v => v.category).sum = W) (hf : rm.frames + 1 ≤ R.frames) (hl : W + (mL + 11) + rm.locals ≤ R.locals) (hk : k + rm.cells = k') (hk' : k' ≤ R.cells) (hn : n + rm.slots = n') (hn' : n' ≤ R.slots)
    (r : ∀ h', Q h' → Run p l e R s m args below meth c n0 P h' k' n' pc' Ls rest) : Run p l e R s m args below meth c n0 P h k n pc Ls st :=
  s_callV C hd hp wl wd hnf wsel wi wz wc hy E as rest hdes hlen hst M hs hW hf hl hk hk' hn hn' (fun v h' q => by obtain ⟨rfl, q⟩ := q; exact r h' q)
/-! arrays: exactly these values -/
def Av (Z : State) (h : Heap) (a : Addr) (ty : FieldType) (vs : List Value) : Prop := ∃ cl : Cell, Arr Z h a cl ty ∧ cl.slots = vs.toArray ∧ vs.length < 2 ^ 31 ∧ ∀ v ∈ vs, fits ty v = true
theorem Av.lt {h : Heap} {a : Addr} {ty : FieldType} {vs : List Value} (V : Av Z h a ty vs) : a < h.size := by obtain ⟨cl, A, -⟩ := V; exact A.lt
theorem Av.ext {h h' : Heap} {a : Addr} {ty : FieldType} {vs : List Value} (V : Av Z h a ty vs) (E : Ext h h') : Av Z h' a ty vs := by obtain ⟨cl, A, r⟩ := V; exact ⟨cl, A.ext E, r⟩
theorem Av.other {h h' : Heap} {a b : Addr} {ty : FieldType} {vs : List Value} {sl : Nat} {v : Value} (V : Av Z h b ty vs) (W : Wr h h' a sl v) (q : b ≠ a) : Av Z h' b ty vs := by obtain ⟨cl, A, r⟩ := V; exact ⟨cl, A.other W q, r⟩
theorem Av.keep {h h' : Heap} {a : Addr} {ty : FieldType} {vs : List Value} {ws : List Addr} (V : Av Z h a ty vs) (K : Keep h h' ws) (q : a ∉ ws) : Av Z h' a ty vs := by obtain ⟨cl, A, r⟩ := V; exact ⟨cl, ⟨K.2.1 a cl A.1 q, A.2⟩, r⟩
theorem Av.set {h h' : Heap} {a : Addr} {ty : FieldType} {vs : List Value} {i : Nat} {v : Value} (V : Av Z h a ty vs) (W : Wr h h' a i v) (hf : fits ty v = true) : Av Z h' a ty (vs.set i v) := by
  obtain ⟨cl, A, hs, hl, hq⟩ := V
  exact ⟨_, A.same W, by simp [Cell.setSlot, hs], by simpa using hl, fun u hu => (List.mem_or_eq_of_mem_set hu).elim (hq u) (fun e => e ▸ hf)⟩
theorem fits_default (ty : FieldType) : fits ty (defaultValue ty) = true := by cases ty <;> first | rfl | decide
theorem Av.new {h : Heap} {a : Addr} {cA : ClassId} {ty : FieldType} {z : Int32} (A : Arr Z h a (newA cA ty z) ty) : Av Z h a ty (List.replicate z.toNatClampNeg (defaultValue ty)) := ⟨_, A, by simp [newA], by rw [List.length_replicate]; have := z.toInt_lt; simp only [Int32.toNatClampNeg]; omega, fun v hv => (List.eq_of_mem_replicate hv) ▸ fits_default ty⟩
theorem getD_toArray (vs : List Value) (i : Nat) (dv : Value) (hi : i < vs.length) : vs.toArray[i]? = some (vs.getD i dv) := by
  simp [List.getD_eq_getElem?_getD, List.getElem?_eq_getElem hi]
theorem len32 {n : Nat} (h : n < 2 ^ 31) : n.toInt32.toNatClampNeg = n ∧ ¬ n.toInt32 < 0 := by
  have e : n.toInt32.toInt = n := len_toInt (by omega)
  constructor
  · simp [Int32.toNatClampNeg, e]
  · rw [Int32.lt_iff_toInt_lt, e]; simp only [Int32.reduceToInt]; omega
theorem Av.arv {h : Heap} {a : Addr} {ty : FieldType} {vs : List Value} (dv : Value) (V : Av Z h a ty vs) : ∃ k, Arv Z h a k ty vs.length.toInt32 vs dv := by
  obtain ⟨cl, A, hs, hl, hq⟩ := V
  have e := len32 hl
  refine ⟨cl.cls, cl, A, rfl, by rw [e.1, hs]; simp, e.2, fun i hi => ?_, fun i hi => ?_⟩
  · rw [hs] at hi ⊢; exact getD_toArray vs i dv (by simpa using hi)
  · rw [hs] at hi
    have hi' : i < vs.length := by simpa using hi
    rw [List.getD_eq_getElem?_getD, List.getElem?_eq_getElem hi']
    exact hq _ (List.getElem_mem hi')
theorem Av.of_arv {h : Heap} {a : Addr} {k : ClassId} {ty : FieldType} {z : Int32} {vs : List Value} {dv : Value} (V : Arv Z h a k ty z vs dv) (hl : vs.length = z.toNatClampNeg) : Av Z h a ty vs := by
  obtain ⟨cl, A, -, hs, hz, hh, hf⟩ := V
  have e : cl.slots.size = vs.length := by rw [hs, hl]
  refine ⟨cl, A, ?_, by have := z.toInt_lt; rw [hl]; simp only [Int32.toNatClampNeg]; omega, fun v hv => ?_⟩
  · apply Array.ext_getElem?
    intro i
    by_cases hi : i < vs.length
    · rw [hh i (by omega)]; exact (getD_toArray vs i dv hi).symm
    · rw [Array.getElem?_eq_none (by omega), Array.getElem?_eq_none (by simpa using hi)]
  · obtain ⟨i, hi, rfl⟩ := List.getElem_of_mem hv
    have q := hf i (by omega)
    rwa [List.getD_eq_getElem?_getD, List.getElem?_eq_getElem hi] at q
theorem idx_n {j : Int32} {i : Nat} (hi : j.toInt = (i : Int)) : j.toNatClampNeg = i ∧ ¬ j < 0 := by
  constructor
  · simp [Int32.toNatClampNeg, hi]
  · rw [Int32.lt_iff_toInt_lt, hi]; simp only [Int32.reduceToInt]; omega
theorem s_newarr (C : Ctx p l e R s m args below meth c Z own cd maxL ret nm) {aty : ArrayType} {z : Int32} {k' n' cap : Nat} (hd : decode cd pc = .ok (.newarray aty, 2)) (hp : pc + 2 = pc') (w : (Jvm.Cond.arrayClass (newarray.typeOf aty)).before a0 Z = true) (hz : ¬ z < 0) (hcap : z.toNatClampNeg ≤ cap) (hcb : cap * 8 ≤ 536870912) (hk : k + 1 = k') (hk' : k' ≤ R.cells) (hn : n + cap = n') (hn' : n' ≤ R.slots) (vs : List Value) (hvs : List.replicate z.toNatClampNeg (defaultValue (newarray.typeOf aty)) = vs)
    (r : ∀ h' a, Ext h h' → a = h.size → Av Z h' a (newarray.typeOf aty) vs → Run p l e R s m args below meth c n0 P h' k' n' pc' Ls (.ref a :: st)) : Run p l e R s m args below meth c n0 P h k n pc Ls (.int z :: st) := by
  subst hp hk hn hvs
  intro T locs X eT N
  obtain ⟨T', h', cA, X', e', E, A, q⟩ := newP X C.1 C.2.1 w eT (g := mkF m pc Ls (.int z :: st)) rfl (hb C.2.2.1 hd) rfl hz hcap hcb hk' hn'
  obtain ⟨s₂, o, z, r⟩ := r h' _ E rfl (Av.new A) T' _ X' e' N
  exact ⟨s₂, o, q _ z, r⟩
theorem s_newarrE (C : Ctx p l e R s m args below meth c Z own cd maxL ret nm) {aty : ArrayType} {z : Int32} {k' n' cap : Nat} (hd : decode cd pc = .ok (.newarray aty, 2)) (hp : pc + 2 = pc') (w : (Jvm.Cond.arrayClass (newarray.typeOf aty)).before a0 Z = true) (hz : ¬ z < 0) (hcap : z.toNatClampNeg ≤ cap) (hcb : cap * 8 ≤ 536870912) (hk : k + 1 = k') (hk' : k' ≤ R.cells) (hn : n + cap = n') (hn' : n' ≤ R.slots) (vs : List Value) (hvs : List.replicate z.toNatClampNeg (defaultValue (newarray.typeOf aty)) = vs) (ad : String) (had : "[" ++ (newarray.typeOf aty).toString = ad)
    (r : ∀ h' a, Ext h h' → a = h.size → Av Z h' a (newarray.typeOf aty) vs → Exa Z h' a ad → Run p l e R s m args below meth c n0 P h' k' n' pc' Ls (.ref a :: st)) : Run p l e R s m args below meth c n0 P h k n pc Ls (.int z :: st) := by
  subst hp hk hn hvs
  intro T locs X eT N
  obtain ⟨T', h', cA, X', e', E, A, Ex, q⟩ := newPE X C.1 C.2.1 w eT (g := mkF m pc Ls (.int z :: st)) rfl (hb C.2.2.1 hd) rfl hz hcap hcb hk' hn' had
  obtain ⟨s₂, o, z, r⟩ := r h' _ E rfl (Av.new A) Ex T' _ X' e' N
  exact ⟨s₂, o, q _ z, r⟩
theorem s_newref (C : Ctx p l e R s m args below meth c Z own cd maxL ret nm) {K : String} {i : Nat} {z : Int32} {k' n' cap : Nat} (hd : decode cd pc = .ok (.anewarray i, 3)) (hp : pc + 3 = pc') (w1 : (Jvm.Cond.classLink own i K).before a0 Z = true) (w2 : (Jvm.Cond.arrayOver (.object K)).before a0 Z = true) (hz : ¬ z < 0) (hcap : z.toNatClampNeg ≤ cap) (hcb : cap * 8 ≤ 536870912) (hk : k + 1 = k') (hk' : k' ≤ R.cells) (hn : n + cap = n') (hn' : n' ≤ R.slots) (vs : List Value) (hvs : List.replicate z.toNatClampNeg Value.null = vs)
    (r : ∀ h' a cA, Ext h h' → a = h.size → Av Z h' a (.object K) vs → Arr Z h' a (newA cA (.object K) z) (.object K) → Ovr Z cA K → Run p l e R s m args below meth c n0 P h' k' n' pc' Ls (.ref a :: st)) : Run p l e R s m args below meth c n0 P h k n pc Ls (.int z :: st) := by
  subst hp hk hn hvs
  intro T locs X eT N
  obtain ⟨T', h', cA, X', e', E, A, O, q⟩ := newR X C.1 C.2.1 C.2.2.2.2.1 w1 w2 eT (g := mkF m pc Ls (.int z :: st)) rfl (hb C.2.2.1 hd) rfl hz hcap hcb hk' hn'
  obtain ⟨s₂, o, z, r⟩ := r h' _ cA E rfl (Av.new A) A O T' _ X' e' N
  exact ⟨s₂, o, q _ z, r⟩
theorem s_foldI (C : Ctx p l e R s m args below meth c Z own cd maxL ret nm) {x y : Int32} (hx : x = y) (r : Run p l e R s m args below meth c n0 P h k n pc Ls (.int y :: st)) : Run p l e R s m args below meth c n0 P h k n pc Ls (.int x :: st) := hx ▸ r
theorem s_foldL (C : Ctx p l e R s m args below meth c Z own cd maxL ret nm) {x y : Int64} (hx : x = y) (r : Run p l e R s m args below meth c n0 P h k n pc Ls (.long y :: st)) : Run p l e R s m args below meth c n0 P h k n pc Ls (.long x :: st) := hx ▸ r
theorem s_arraycopy (C : Ctx p l e R s m args below meth c Z own cd maxL ret nm) {i W : Nat} {ty : FieldType} {a b : Addr} {vs vd : List Value} {sp dp nn : Int32} (hd : decode cd pc = .ok (.invokestatic i, 3)) (hp : pc + 3 = pc') (w1 : (Jvm.Cond.methodLink own i Jvm.Stand.acN).before a0 Z = true) (w2 : (Jvm.Cond.native Jvm.Stand.acN).before a0 Z = true) (w3 : (Jvm.Cond.static Jvm.Stand.acN).before a0 Z = true) (w4 : (Jvm.Cond.initialized "java/lang/System").before a0 Z = true) (A : Av Z h a ty vs) (B : Av Z h b ty vd) (hty : refKind ty = false) (si di ni : Nat) (h1 : sp.toInt = (si : Int)) (h2 : dp.toInt = (di : Int)) (h3 : nn.toInt = (ni : Int)) (h4 : si + ni ≤ vs.length) (h5 : di + ni ≤ vd.length) (ge : n0 ≤ b) (hs : Ls.size = maxL) (hf : 1 ≤ R.frames) (hW : (st.map fun v => v.category).sum = W) (hlo : W + (nativeFrameWords "java/lang/System" "arraycopy" 5 + 11) ≤ R.locals) (vd' : List Value) (hvd : vd.take di ++ (vs.drop si).take ni ++ vd.drop (di + ni) = vd')
    (r : ∀ h', Keep h h' [b] → Av Z h' b ty vd' → Run p l e R s m args below meth c n0 P h' k n pc' Ls st) : Run p l e R s m args below meth c n0 P h k n pc Ls (.int nn :: .int dp :: .ref b :: .int sp :: .ref a :: st) := by
  subst hp hvd
  obtain ⟨e1, g1⟩ := idx_n h1
  obtain ⟨e2, g2⟩ := idx_n h2
  obtain ⟨e3, g3⟩ := idx_n h3
  have la := A
  have lb := B
  obtain ⟨_, -, -, la, -⟩ := la
  obtain ⟨_, -, -, lb, -⟩ := lb
  obtain ⟨ka, A'⟩ := A.arv Value.null
  obtain ⟨kb, B'⟩ := B.arv Value.null
  intro T locs X eT N
  have hus : (vs.drop si).take ni = (List.range nn.toNatClampNeg).map fun i => vs.getD (sp.toNatClampNeg + i) Value.null := by
    rw [e1, e3]
    apply List.ext_getElem
    · simp; omega
    · intro j q1 q2
      have q3 : j < ni := by simpa using q2
      simp [List.getD_eq_getElem?_getD, List.getElem?_eq_getElem (show si + j < vs.length by omega)]
  obtain ⟨T', h', L, X', e', N', K, V', q⟩ := cpA X C.1 C.2.1 C.2.2.2.2.1 w1 w2 w3 w4 eT A' B' (Or.inl ⟨rfl, hty⟩) g1 g2 g3 (by rw [e1, e3, (len32 la).1]; exact h4) (by rw [e2, e3, (len32 lb).1]; exact h5) hus (by rw [e2, e3]; exact h5) N ge (g := mkF m pc Ls (.int nn :: .int dp :: .ref b :: .int sp :: .ref a :: st)) rfl (by rw [C.2.2.2.1]; exact hs) rfl (hb C.2.2.1 hd) hf (W := W) (by show 2 * 0 + _ ≤ _; omega) hlo
  rw [e2, e3] at V'
  obtain ⟨s₂, o, z, r⟩ := r h' K (Av.of_arv V' (by rw [(len32 lb).1]; simp; omega)) T' _ X' e' N'
  exact ⟨s₂, o, q _ z, r⟩
theorem s_clone (C : Ctx p l e R s m args below meth c Z own cd maxL ret nm) {i W k' n' cap : Nat} {ty : FieldType} {ad : String} {a : Addr} {vs : List Value} (hd : decode cd pc = .ok (.invokevirtual i, 3)) (hp : pc + 3 = pc') (w1 : (Jvm.Cond.methodLink own i ⟨ad, "clone", "()Ljava/lang/Object;"⟩).before a0 Z = true) (w2 : (Jvm.Cond.sameMethod ad "java/lang/Object" "clone" "()Ljava/lang/Object;").before a0 Z = true) (w3 : (Jvm.Cond.native ⟨"java/lang/Object", "clone", "()Ljava/lang/Object;"⟩).before a0 Z = true) (w4 : (Jvm.Cond.instanceMethod ⟨"java/lang/Object", "clone", "()Ljava/lang/Object;"⟩).before a0 Z = true) (w5 : (Jvm.Cond.selects ad ⟨ad, "clone", "()Ljava/lang/Object;"⟩ ⟨"java/lang/Object", "clone", "()Ljava/lang/Object;"⟩).before a0 Z = true) (w6 : (Jvm.Cond.castable ad "java/lang/Cloneable").before a0 Z = true) (V : Av Z h a ty vs) (E : Exa Z h a ad) (hs : Ls.size = maxL) (hf : 1 ≤ R.frames) (hW : (st.map fun v => v.category).sum = W) (hl : W + 14 ≤ R.locals) (hcap : vs.length ≤ cap) (hk : k + 1 = k') (hk' : k' ≤ R.cells) (hn : n + cap = n') (hn' : n' ≤ R.slots)
    (r : ∀ h' b, Ext h h' → b = h.size → Av Z h' b ty vs → Exa Z h' b ad → Run p l e R s m args below meth c n0 P h' k' n' pc' Ls (.ref b :: st)) : Run p l e R s m args below meth c n0 P h k n pc Ls (.ref a :: st) := by
  subst hp hk hn
  have la := V
  obtain ⟨_, -, -, la, -⟩ := la
  obtain ⟨ka, A'⟩ := V.arv Value.null
  intro T locs X eT N
  obtain ⟨T', h', X', e', Ex, V', E', q⟩ := cloneH X C.1 C.2.1 C.2.2.2.2.1 w1 w2 w3 w4 w5 w6 eT A'.arh E (g := mkF m pc Ls (.ref a :: st)) rfl (by rw [C.2.2.2.1]; exact hs) rfl (hb C.2.2.1 hd) hf (W := W) (cap := cap) (by show 2 * 0 + _ ≤ _; omega) hl (by rw [(len32 la).1]; exact hcap) hk' hn'
  obtain ⟨s₂, o, z, r⟩ := r h' _ Ex rfl (Av.of_arv (dv := Value.null) V' (len32 la).1.symm) E' T' _ X' e' N
  exact ⟨s₂, o, q _ z, r⟩
theorem s_length (C : Ctx p l e R s m args below meth c Z own cd maxL ret nm) {ty : FieldType} {a : Addr} {vs : List Value} (hd : decode cd pc = .ok (.arraylength, 1)) (hp : pc + 1 = pc') (V : Av Z h a ty vs) (z : Int32) (hz : vs.length.toInt32 = z) (r : Run p l e R s m args below meth c n0 P h k n pc' Ls (.int z :: st)) : Run p l e R s m args below meth c n0 P h k n pc Ls (.ref a :: st) := by
  subst hp hz
  obtain ⟨cl, A, hs, hl, -⟩ := V
  have e1 : cl.slots.size = vs.length := by simp [hs]
  refine Run.pure (fun T locs X eT t z => X.arraylength C.1 (by rw [eT]; exact A.1) (State.isArrayOf_alike C.2.1.alike A.2.1) (g := mkF m pc Ls (.ref a :: st)) rfl rfl (hb C.2.2.1 hd) _ (by rw [e1]; exact z)) r
theorem s_iaload (C : Ctx p l e R s m args below meth c Z own cd maxL ret nm) {a : Addr} {vs : List Value} {j : Int32} {x : Int32} (hd : decode cd pc = .ok (.iaload, 1)) (hp : pc + 1 = pc') (V : Av Z h a .int vs) (i : Nat) (hi : j.toInt = (i : Int)) (hv : vs[i]? = some (.int x)) (r : Run p l e R s m args below meth c n0 P h k n pc' Ls ((.int x) :: st)) : Run p l e R s m args below meth c n0 P h k n pc Ls (.int j :: .ref a :: st) := by
  subst hp
  obtain ⟨cl, A, hs, hl, -⟩ := V
  obtain ⟨e1, e2⟩ := idx_n hi
  have e3 : i < vs.length := (List.getElem?_eq_some_iff.mp hv).1
  refine Run.pure (fun T locs X eT t z => X.iaload C.1 (by rw [eT]; exact A.1) (State.isArrayOf_alike C.2.1.alike A.2.1) A.2.2 (by rw [e1, hs]; rintro (q | q); exact e2 q; simp at q; omega) (by rw [e1, hs]; simpa using hv) (g := mkF m pc Ls (.int j :: .ref a :: st)) rfl rfl (hb C.2.2.1 hd) _ z) r
theorem s_laload (C : Ctx p l e R s m args below meth c Z own cd maxL ret nm) {a : Addr} {vs : List Value} {j : Int32} {x : Int64} (hd : decode cd pc = .ok (.laload, 1)) (hp : pc + 1 = pc') (V : Av Z h a .long vs) (i : Nat) (hi : j.toInt = (i : Int)) (hv : vs[i]? = some (.long x)) (r : Run p l e R s m args below meth c n0 P h k n pc' Ls ((.long x) :: st)) : Run p l e R s m args below meth c n0 P h k n pc Ls (.int j :: .ref a :: st) := by
  subst hp
  obtain ⟨cl, A, hs, hl, -⟩ := V
  obtain ⟨e1, e2⟩ := idx_n hi
  have e3 : i < vs.length := (List.getElem?_eq_some_iff.mp hv).1
  refine Run.pure (fun T locs X eT t z => X.laload C.1 (by rw [eT]; exact A.1) (State.isArrayOf_alike C.2.1.alike A.2.1) A.2.2 (by rw [e1, hs]; rintro (q | q); exact e2 q; simp at q; omega) (by rw [e1, hs]; simpa using hv) (g := mkF m pc Ls (.int j :: .ref a :: st)) rfl rfl (hb C.2.2.1 hd) _ z) r
theorem s_baload (C : Ctx p l e R s m args below meth c Z own cd maxL ret nm) {a : Addr} {vs : List Value} {j : Int32} {x : Int32} (hd : decode cd pc = .ok (.baload, 1)) (hp : pc + 1 = pc') (V : Av Z h a .byte vs) (i : Nat) (hi : j.toInt = (i : Int)) (hv : vs[i]? = some (.int x)) (r : Run p l e R s m args below meth c n0 P h k n pc' Ls ((.int x) :: st)) : Run p l e R s m args below meth c n0 P h k n pc Ls (.int j :: .ref a :: st) := by
  subst hp
  obtain ⟨cl, A, hs, hl, -⟩ := V
  obtain ⟨e1, e2⟩ := idx_n hi
  have e3 : i < vs.length := (List.getElem?_eq_some_iff.mp hv).1
  refine Run.pure (fun T locs X eT t z => X.baloadBytes C.1 (by rw [eT]; exact A.1) (State.isArrayOf_alike C.2.1.alike A.2.1) A.2.2 (by rw [e1, hs]; rintro (q | q); exact e2 q; simp at q; omega) (by rw [e1, hs]; simpa using hv) (g := mkF m pc Ls (.int j :: .ref a :: st)) rfl rfl (hb C.2.2.1 hd) _ z) r
theorem s_caload (C : Ctx p l e R s m args below meth c Z own cd maxL ret nm) {a : Addr} {vs : List Value} {j : Int32} {x : Int32} (hd : decode cd pc = .ok (.caload, 1)) (hp : pc + 1 = pc') (V : Av Z h a .char vs) (i : Nat) (hi : j.toInt = (i : Int)) (hv : vs[i]? = some (.int x)) (r : Run p l e R s m args below meth c n0 P h k n pc' Ls ((.int x) :: st)) : Run p l e R s m args below meth c n0 P h k n pc Ls (.int j :: .ref a :: st) := by
  subst hp
  obtain ⟨cl, A, hs, hl, -⟩ := V
  obtain ⟨e1, e2⟩ := idx_n hi
  have e3 : i < vs.length := (List.getElem?_eq_some_iff.mp hv).1
  refine Run.pure (fun T locs X eT t z => X.caload C.1 (by rw [eT]; exact A.1) (State.isArrayOf_alike C.2.1.alike A.2.1) A.2.2 (by rw [e1, hs]; rintro (q | q); exact e2 q; simp at q; omega) (by rw [e1, hs]; simpa using hv) (g := mkF m pc Ls (.int j :: .ref a :: st)) rfl rfl (hb C.2.2.1 hd) _ z) r
theorem s_aaload (C : Ctx p l e R s m args below meth c Z own cd maxL ret nm) {a : Addr} {vs : List Value} {j : Int32} {x : Value} {ty : FieldType} (hty : ty.isReference = true) (hd : decode cd pc = .ok (.aaload, 1)) (hp : pc + 1 = pc') (V : Av Z h a ty vs) (i : Nat) (hi : j.toInt = (i : Int)) (hv : vs[i]? = some x) (r : Run p l e R s m args below meth c n0 P h k n pc' Ls (x :: st)) : Run p l e R s m args below meth c n0 P h k n pc Ls (.int j :: .ref a :: st) := by
  subst hp
  obtain ⟨cl, A, hs, hl, -⟩ := V
  obtain ⟨e1, e2⟩ := idx_n hi
  have e3 : i < vs.length := (List.getElem?_eq_some_iff.mp hv).1
  refine Run.pure (fun T locs X eT t z => X.aaload C.1 (by rw [eT]; exact A.1) (State.isArrayOf_alike C.2.1.alike A.2.1) hty A.2.2 (by rw [e1, hs]; rintro (q | q); exact e2 q; simp at q; omega) (by rw [e1, hs]; simpa using hv) (g := mkF m pc Ls (.int j :: .ref a :: st)) rfl rfl (hb C.2.2.1 hd) _ z) r
def OvA (Z : State) (h : Heap) (a : Addr) (K : String) : Prop := ∃ cl : Cell, Arr Z h a cl (.object K) ∧ Ovr Z cl.cls K
theorem OvA.keep {h h' : Heap} {a : Addr} {K : String} {ws : List Addr} (F : OvA Z h a K) (Kp : Keep h h' ws) : OvA Z h' a K := by
  obtain ⟨cl, A, O⟩ := F
  obtain ⟨c', h1, h2, h3, h4⟩ := Kp.2.2 a cl A.1
  exact ⟨c', ⟨h1, ⟨by rw [h3]; exact A.2.1.1, by rw [h2]; exact A.2.1.2⟩, by rw [h3]; exact A.2.2⟩, h2 ▸ O⟩
theorem OvA.lt {h : Heap} {a : Addr} {K : String} (F : OvA Z h a K) : a < h.size := by obtain ⟨cl, A, -⟩ := F; exact A.lt
theorem OvA.sto {h : Heap} {a y : Addr} {K : String} (F : OvA Z h a K) (I : Ins Z h y K true) : Sto Z h a (.ref y) := by obtain ⟨cl, A, O⟩ := F; exact Sto.of A O I
theorem s_instNull (C : Ctx p l e R s m args below meth c Z own cd maxL ret nm) {i : Nat} (hd : decode cd pc = .ok (.instanceof i, 3)) (hp : pc + 3 = pc') (r : Run p l e R s m args below meth c n0 P h k n pc' Ls (.int 0 :: st)) : Run p l e R s m args below meth c n0 P h k n pc Ls (.null :: st) := by
  subst hp; exact Run.pure (fun T locs X _ t z => X.instanceofNull C.1 (g := mkF m pc Ls (.null :: st)) rfl rfl (hb C.2.2.1 hd) _ z) r
theorem s_instNo (C : Ctx p l e R s m args below meth c Z own cd maxL ret nm) {K Kc : String} {i : Nat} {a : Addr} (hd : decode cd pc = .ok (.instanceof i, 3)) (hp : pc + 3 = pc') (w : (Jvm.Cond.classLink own i K).before a0 Z = true) (E : Exa Z h a Kc) (F : ∃ c t, Z.vm.findClass Kc = some c ∧ Z.vm.findClass K = some t ∧ Z.vm.assignable c t = false) (r : Run p l e R s m args below meth c n0 P h k n pc' Ls (.int 0 :: st)) : Run p l e R s m args below meth c n0 P h k n pc Ls (.ref a :: st) := by
  subst hp; exact Run.warm (fun T locs X eT => instNo X C.1 C.2.1 C.2.2.2.2.1 w eT E F (g := mkF m pc Ls (.ref a :: st)) rfl rfl (hb C.2.2.1 hd)) r
theorem ns_root {O K : String} {q : Nat} (w : (Jvm.Cond.noSuperclass O).before a0 Z = true) (wi : (Jvm.Cond.instantiable K q).before a0 Z = true) (hn : O ≠ K) : NS Z O K := by
  obtain ⟨c, k, h1, h2, h3, -, -⟩ := Cond.noSuperclass_spec w
  obtain ⟨t, kt, g1, -⟩ := Cond.instantiable_spec wi
  exact ⟨c, t, h1, g1, fun fuel => by cases fuel with | zero => rfl | succ f => simp [Vm.isSubclassAux, ids_ne h1 g1 hn, h2, h3]⟩
theorem ns_no {C' S' K : String} {q : Nat} (w : (Jvm.Cond.superclass C' S').before a0 Z = true) (wi : (Jvm.Cond.instantiable K q).before a0 Z = true) (nn : NS Z C' K) (hn : C' ≠ K) : ∃ c t, Z.vm.findClass C' = some c ∧ Z.vm.findClass K = some t ∧ Z.vm.assignable c t = false := by
  obtain ⟨c, t, h0, g0, n3⟩ := nn
  obtain ⟨_, k, _, -, h2, -, -, h5, -⟩ := Cond.superclass_spec h0 w
  obtain ⟨t', kt, g1, g2, g5, g6, -⟩ := Cond.instantiable_spec wi
  cases g0.symm.trans g1
  refine ⟨c, t, h0, g0, ?_⟩
  have g7 : kt.isInterface = false := (Bool.or_eq_false_iff.mp g6).1
  show Z.vm.assignableAux 256 c t = false
  simp [Vm.assignableAux, ids_ne h0 g0 hn, h2, g2, h5, g5, g7, Vm.isSubclass, n3]
theorem s_aastore (C : Ctx p l e R s m args below meth c Z own cd maxL ret nm) {a : Addr} {ty : FieldType} {vs : List Value} {j : Int32} {v : Value} (hty : ty.isReference = true) (hd : decode cd pc = .ok (.aastore, 1)) (hp : pc + 1 = pc') (V : Av Z h a ty vs) (F : Sto Z h a v) (hfv : fits ty v = true) (i : Nat) (hi : j.toInt = (i : Int)) (hlt : i < vs.length) (ha : n0 ≤ a) (vs' : List Value) (hvs : vs.set i v = vs') (r : ∀ h', Wr h h' a i v → Av Z h' a ty vs' → Run p l e R s m args below meth c n0 P h' k n pc' Ls st) : Run p l e R s m args below meth c n0 P h k n pc Ls (v :: .int j :: .ref a :: st) := by
  subst hp hvs
  have V0 := V
  obtain ⟨cl, A, hs, hl, -⟩ := V
  obtain ⟨e1, e2⟩ := idx_n hi
  subst e1
  intro T locs X eT N
  obtain ⟨T', h', X', e', W, q⟩ := stR X C.1 C.2.1 eT A (j := j) (by rw [hs]; rintro (q | q); exact e2 q; simp at q; omega) hty F (g := mkF m pc Ls (v :: .int j :: .ref a :: st)) rfl rfl (hb C.2.2.1 hd)
  obtain ⟨s₂, o, z, r⟩ := r h' W (V0.set W hfv) T' _ X' e' (Fr.snoc X' N ha)
  exact ⟨s₂, o, q _ z, r⟩
theorem s_baloadC (C : Ctx p l e R s m args below meth c Z own cd maxL ret nm) {a : Addr} {cl : Cell} {j x : Int32} (hd : decode cd pc = .ok (.baload, 1)) (hp : pc + 1 = pc') (A : Arr Z h a cl .byte) (hin : ¬ (j < 0 ∨ cl.slots.size ≤ j.toNatClampNeg)) (hv : cl.slots[j.toNatClampNeg]? = some (.int x)) (r : Run p l e R s m args below meth c n0 P h k n pc' Ls (.int x :: st)) : Run p l e R s m args below meth c n0 P h k n pc Ls (.int j :: .ref a :: st) := by
  subst hp
  exact Run.pure (fun T locs X eT t z => X.baloadBytes C.1 (by rw [eT]; exact A.1) (State.isArrayOf_alike C.2.1.alike A.2.1) A.2.2 hin hv (g := mkF m pc Ls (.int j :: .ref a :: st)) rfl rfl (hb C.2.2.1 hd) _ z) r
theorem s_aaloadC (C : Ctx p l e R s m args below meth c Z own cd maxL ret nm) {a : Addr} {cl : Cell} {ty : FieldType} {j : Int32} {x : Value} (hty : ty.isReference = true) (hd : decode cd pc = .ok (.aaload, 1)) (hp : pc + 1 = pc') (A : Arr Z h a cl ty) (hin : ¬ (j < 0 ∨ cl.slots.size ≤ j.toNatClampNeg)) (hv : cl.slots[j.toNatClampNeg]? = some x) (r : Run p l e R s m args below meth c n0 P h k n pc' Ls (x :: st)) : Run p l e R s m args below meth c n0 P h k n pc Ls (.int j :: .ref a :: st) := by
  subst hp
  exact Run.pure (fun T locs X eT t z => X.aaload C.1 (by rw [eT]; exact A.1) (State.isArrayOf_alike C.2.1.alike A.2.1) hty A.2.2 hin hv (g := mkF m pc Ls (.int j :: .ref a :: st)) rfl rfl (hb C.2.2.1 hd) _ z) r
theorem s_iastore (C : Ctx p l e R s m args below meth c Z own cd maxL ret nm) {a : Addr} {vs : List Value} {j : Int32} {x : Int32} (hd : decode cd pc = .ok (.iastore, 1)) (hp : pc + 1 = pc') (V : Av Z h a .int vs) (i : Nat) (hi : j.toInt = (i : Int)) (hlt : i < vs.length) (ha : n0 ≤ a) (vs' : List Value) (hvs : vs.set i (.int x) = vs') (r : ∀ h', Wr h h' a i (.int x) → Av Z h' a .int vs' → Run p l e R s m args below meth c n0 P h' k n pc' Ls st) : Run p l e R s m args below meth c n0 P h k n pc Ls ((.int x) :: .int j :: .ref a :: st) := by
  subst hp hvs
  have V0 := V
  obtain ⟨cl, A, hs, hl, -⟩ := V
  obtain ⟨e1, e2⟩ := idx_n hi
  subst e1
  intro T locs X eT N
  obtain ⟨T', h', X', e', W, q⟩ := stI X C.1 C.2.1 eT A (j := j) (by rw [hs]; rintro (q | q); exact e2 q; simp at q; omega) (g := mkF m pc Ls ((.int x) :: .int j :: .ref a :: st)) rfl rfl (hb C.2.2.1 hd)
  obtain ⟨s₂, o, z, r⟩ := r h' W (V0.set W rfl) T' _ X' e' (Fr.snoc X' N ha)
  exact ⟨s₂, o, q _ z, r⟩
theorem s_lastore (C : Ctx p l e R s m args below meth c Z own cd maxL ret nm) {a : Addr} {vs : List Value} {j : Int32} {x : Int64} (hd : decode cd pc = .ok (.lastore, 1)) (hp : pc + 1 = pc') (V : Av Z h a .long vs) (i : Nat) (hi : j.toInt = (i : Int)) (hlt : i < vs.length) (ha : n0 ≤ a) (vs' : List Value) (hvs : vs.set i (.long x) = vs') (r : ∀ h', Wr h h' a i (.long x) → Av Z h' a .long vs' → Run p l e R s m args below meth c n0 P h' k n pc' Ls st) : Run p l e R s m args below meth c n0 P h k n pc Ls ((.long x) :: .int j :: .ref a :: st) := by
  subst hp hvs
  have V0 := V
  obtain ⟨cl, A, hs, hl, -⟩ := V
  obtain ⟨e1, e2⟩ := idx_n hi
  subst e1
  intro T locs X eT N
  obtain ⟨T', h', X', e', W, q⟩ := stJ X C.1 C.2.1 eT A (j := j) (by rw [hs]; rintro (q | q); exact e2 q; simp at q; omega) (g := mkF m pc Ls ((.long x) :: .int j :: .ref a :: st)) rfl rfl (hb C.2.2.1 hd)
  obtain ⟨s₂, o, z, r⟩ := r h' W (V0.set W rfl) T' _ X' e' (Fr.snoc X' N ha)
  exact ⟨s₂, o, q _ z, r⟩
theorem s_bastore (C : Ctx p l e R s m args below meth c Z own cd maxL ret nm) {a : Addr} {vs : List Value} {j : Int32} {x : Int32} (hd : decode cd pc = .ok (.bastore, 1)) (hp : pc + 1 = pc') (V : Av Z h a .byte vs) (i : Nat) (hi : j.toInt = (i : Int)) (hlt : i < vs.length) (ha : n0 ≤ a) (vs' : List Value) (hvs : vs.set i (.int x.toInt8.toInt32) = vs') (r : ∀ h', Wr h h' a i (.int x.toInt8.toInt32) → Av Z h' a .byte vs' → Run p l e R s m args below meth c n0 P h' k n pc' Ls st) : Run p l e R s m args below meth c n0 P h k n pc Ls ((.int x) :: .int j :: .ref a :: st) := by
  subst hp hvs
  have V0 := V
  obtain ⟨cl, A, hs, hl, -⟩ := V
  obtain ⟨e1, e2⟩ := idx_n hi
  subst e1
  intro T locs X eT N
  obtain ⟨T', h', X', e', W, q⟩ := stB X C.1 C.2.1 eT A (j := j) (by rw [hs]; rintro (q | q); exact e2 q; simp at q; omega) (g := mkF m pc Ls ((.int x) :: .int j :: .ref a :: st)) rfl rfl (hb C.2.2.1 hd)
  obtain ⟨s₂, o, z, r⟩ := r h' W (V0.set W (fits_nar_byte _)) T' _ X' e' (Fr.snoc X' N ha)
  exact ⟨s₂, o, q _ z, r⟩
theorem s_castore (C : Ctx p l e R s m args below meth c Z own cd maxL ret nm) {a : Addr} {vs : List Value} {j : Int32} {x : Int32} (hd : decode cd pc = .ok (.castore, 1)) (hp : pc + 1 = pc') (V : Av Z h a .char vs) (i : Nat) (hi : j.toInt = (i : Int)) (hlt : i < vs.length) (ha : n0 ≤ a) (vs' : List Value) (hvs : vs.set i (.int x.toUInt32.toUInt16.toUInt32.toInt32) = vs') (r : ∀ h', Wr h h' a i (.int x.toUInt32.toUInt16.toUInt32.toInt32) → Av Z h' a .char vs' → Run p l e R s m args below meth c n0 P h' k n pc' Ls st) : Run p l e R s m args below meth c n0 P h k n pc Ls ((.int x) :: .int j :: .ref a :: st) := by
  subst hp hvs
  have V0 := V
  obtain ⟨cl, A, hs, hl, -⟩ := V
  obtain ⟨e1, e2⟩ := idx_n hi
  subst e1
  intro T locs X eT N
  obtain ⟨T', h', X', e', W, q⟩ := stC X C.1 C.2.1 eT A (j := j) (by rw [hs]; rintro (q | q); exact e2 q; simp at q; omega) (g := mkF m pc Ls ((.int x) :: .int j :: .ref a :: st)) rfl rfl (hb C.2.2.1 hd)
  obtain ⟨s₂, o, z, r⟩ := r h' W (V0.set W (fits_nar_char _)) T' _ X' e' (Fr.snoc X' N ha)
  exact ⟨s₂, o, q _ z, r⟩
end Steps
end Own
end Jvm.Pilot.@@N@@

namespace Jvm.Pilot.@@N@@
open Jvm Jvm.ClassFile Sem Op Lib Jvm.Free Jvm.Stand Jvm.LawKit Jvm.RoadKit Bundle Jvm.Pilot.@@N@@.Jvm.D
namespace Own
abbrev Hw (a0 : Array Value) (Z : State) : Prop := ∀ d ∈ tables_1, d.before a0 Z = true
theorem w0 {a0 : Array Value} {Z : State} (hw : Hw a0 Z) : (Jvm.Cond.methodLink "com/example/deathwatch/deathwatch/AppendOnlyListIsEmptyPinLaw" (7 : Nat) ({ cls := "java/lang/Integer", name := "valueOf", desc := "(I)Ljava/lang/Integer;" } : Jvm.MethodName)).before a0 Z = true := hw _ (List.mem_of_getElem? (i := 0) rfl)
theorem w1 {a0 : Array Value} {Z : State} (hw : Hw a0 Z) : (Jvm.Cond.static ({ cls := "java/lang/Integer", name := "valueOf", desc := "(I)Ljava/lang/Integer;" } : Jvm.MethodName)).before a0 Z = true := hw _ (List.mem_of_getElem? (i := 1) rfl)
theorem w2 {a0 : Array Value} {Z : State} (hw : Hw a0 Z) : (Jvm.Cond.initialized "java/lang/Integer").before a0 Z = true := hw _ (List.mem_of_getElem? (i := 2) rfl)
theorem w3 {a0 : Array Value} {Z : State} (hw : Hw a0 Z) : (Jvm.Cond.code ({ cls := "java/lang/Integer", name := "valueOf", desc := "(I)Ljava/lang/Integer;" } : Jvm.MethodName) jdk_33_method_22_code (1 : Nat) (Option.some (Jvm.ClassFile.FieldType.object "java/lang/Integer"))).before a0 Z = true := hw _ (List.mem_of_getElem? (i := 3) rfl)
theorem w4 {a0 : Array Value} {Z : State} (hw : Hw a0 Z) : (Jvm.Cond.fieldLink "java/lang/Integer" (191 : Nat) "java/lang/Integer$IntegerCache" "high" "I").before a0 Z = true := hw _ (List.mem_of_getElem? (i := 4) rfl)
theorem w5 {a0 : Array Value} {Z : State} (hw : Hw a0 Z) : (Jvm.Cond.initialized "java/lang/Integer$IntegerCache").before a0 Z = true := hw _ (List.mem_of_getElem? (i := 5) rfl)
theorem w6 {a0 : Array Value} {Z : State} (hw : Hw a0 Z) : (Jvm.Cond.fieldLink "java/lang/Integer" (195 : Nat) "java/lang/Integer$IntegerCache" "cache" "[Ljava/lang/Integer;").before a0 Z = true := hw _ (List.mem_of_getElem? (i := 6) rfl)
theorem w7 {a0 : Array Value} {Z : State} (hw : Hw a0 Z) : (Jvm.Cond.classLink "com/example/deathwatch/deathwatch/AppendOnlyListIsEmptyPinLaw" (13 : Nat) "com/example/deathwatch/deathwatch/AppendOnlyList").before a0 Z = true := hw _ (List.mem_of_getElem? (i := 7) rfl)
theorem w8 {a0 : Array Value} {Z : State} (hw : Hw a0 Z) : (Jvm.Cond.instantiable "com/example/deathwatch/deathwatch/AppendOnlyList" (2 : Nat)).before a0 Z = true := hw _ (List.mem_of_getElem? (i := 8) rfl)
theorem w9 {a0 : Array Value} {Z : State} (hw : Hw a0 Z) : (Jvm.Cond.initialized "com/example/deathwatch/deathwatch/AppendOnlyList").before a0 Z = true := hw _ (List.mem_of_getElem? (i := 9) rfl)
theorem w10 {a0 : Array Value} {Z : State} (hw : Hw a0 Z) : (Jvm.Cond.methodLink "com/example/deathwatch/deathwatch/AppendOnlyListIsEmptyPinLaw" (15 : Nat) ({ cls := "com/example/deathwatch/deathwatch/AppendOnlyList", name := "<init>", desc := "()V" } : Jvm.MethodName)).before a0 Z = true := hw _ (List.mem_of_getElem? (i := 10) rfl)
theorem w11 {a0 : Array Value} {Z : State} (hw : Hw a0 Z) : (Jvm.Cond.instanceMethod ({ cls := "com/example/deathwatch/deathwatch/AppendOnlyList", name := "<init>", desc := "()V" } : Jvm.MethodName)).before a0 Z = true := hw _ (List.mem_of_getElem? (i := 11) rfl)
theorem w12 {a0 : Array Value} {Z : State} (hw : Hw a0 Z) : (Jvm.Cond.code ({ cls := "com/example/deathwatch/deathwatch/AppendOnlyList", name := "<init>", desc := "()V" } : Jvm.MethodName) prog_1_method_1_code (1 : Nat) (Option.none : Option Jvm.ClassFile.FieldType)).before a0 Z = true := hw _ (List.mem_of_getElem? (i := 12) rfl)
theorem w13 {a0 : Array Value} {Z : State} (hw : Hw a0 Z) : (Jvm.Cond.methodLink "com/example/deathwatch/deathwatch/AppendOnlyList" (1 : Nat) ({ cls := "java/lang/Object", name := "<init>", desc := "()V" } : Jvm.MethodName)).before a0 Z = true := hw _ (List.mem_of_getElem? (i := 13) rfl)
theorem w14 {a0 : Array Value} {Z : State} (hw : Hw a0 Z) : (Jvm.Cond.instanceMethod ({ cls := "java/lang/Object", name := "<init>", desc := "()V" } : Jvm.MethodName)).before a0 Z = true := hw _ (List.mem_of_getElem? (i := 14) rfl)
theorem w15 {a0 : Array Value} {Z : State} (hw : Hw a0 Z) : (Jvm.Cond.code ({ cls := "java/lang/Object", name := "<init>", desc := "()V" } : Jvm.MethodName) object_method_1_code (1 : Nat) (Option.none : Option Jvm.ClassFile.FieldType)).before a0 Z = true := hw _ (List.mem_of_getElem? (i := 15) rfl)
theorem w16 {a0 : Array Value} {Z : State} (hw : Hw a0 Z) : (Jvm.Cond.classLink "com/example/deathwatch/deathwatch/AppendOnlyList" (2 : Nat) "java/lang/Object").before a0 Z = true := hw _ (List.mem_of_getElem? (i := 16) rfl)
theorem w17 {a0 : Array Value} {Z : State} (hw : Hw a0 Z) : (Jvm.Cond.arrayOver (Jvm.ClassFile.FieldType.object "java/lang/Object")).before a0 Z = true := hw _ (List.mem_of_getElem? (i := 17) rfl)
theorem w18 {a0 : Array Value} {Z : State} (hw : Hw a0 Z) : (Jvm.Cond.fieldLink "com/example/deathwatch/deathwatch/AppendOnlyList" (9 : Nat) "com/example/deathwatch/deathwatch/AppendOnlyList" "elements" "[Ljava/lang/Object;").before a0 Z = true := hw _ (List.mem_of_getElem? (i := 18) rfl)
theorem w19 {a0 : Array Value} {Z : State} (hw : Hw a0 Z) : (Jvm.Cond.lays "com/example/deathwatch/deathwatch/AppendOnlyList" "com/example/deathwatch/deathwatch/AppendOnlyList" "elements" "[Ljava/lang/Object;").before a0 Z = true := hw _ (List.mem_of_getElem? (i := 19) rfl)
theorem w20 {a0 : Array Value} {Z : State} (hw : Hw a0 Z) : (Jvm.Cond.methodLink "com/example/deathwatch/deathwatch/AppendOnlyListIsEmptyPinLaw" (16 : Nat) ({ cls := "com/example/deathwatch/deathwatch/AppendOnlyList", name := "isEmpty", desc := "()Z" } : Jvm.MethodName)).before a0 Z = true := hw _ (List.mem_of_getElem? (i := 20) rfl)
theorem w21 {a0 : Array Value} {Z : State} (hw : Hw a0 Z) : (Jvm.Cond.declares ({ cls := "com/example/deathwatch/deathwatch/AppendOnlyList", name := "isEmpty", desc := "()Z" } : Jvm.MethodName)).before a0 Z = true := hw _ (List.mem_of_getElem? (i := 21) rfl)
theorem w22 {a0 : Array Value} {Z : State} (hw : Hw a0 Z) : (Jvm.Cond.instanceMethod ({ cls := "com/example/deathwatch/deathwatch/AppendOnlyList", name := "isEmpty", desc := "()Z" } : Jvm.MethodName)).before a0 Z = true := hw _ (List.mem_of_getElem? (i := 22) rfl)
theorem w23 {a0 : Array Value} {Z : State} (hw : Hw a0 Z) : (Jvm.Cond.selects "com/example/deathwatch/deathwatch/AppendOnlyList" ({ cls := "com/example/deathwatch/deathwatch/AppendOnlyList", name := "isEmpty", desc := "()Z" } : Jvm.MethodName) ({ cls := "com/example/deathwatch/deathwatch/AppendOnlyList", name := "isEmpty", desc := "()Z" } : Jvm.MethodName)).before a0 Z = true := hw _ (List.mem_of_getElem? (i := 23) rfl)
theorem w24 {a0 : Array Value} {Z : State} (hw : Hw a0 Z) : (Jvm.Cond.code ({ cls := "com/example/deathwatch/deathwatch/AppendOnlyList", name := "isEmpty", desc := "()Z" } : Jvm.MethodName) prog_1_method_3_code (1 : Nat) (Option.some Jvm.ClassFile.FieldType.boolean)).before a0 Z = true := hw _ (List.mem_of_getElem? (i := 24) rfl)
theorem w25 {a0 : Array Value} {Z : State} (hw : Hw a0 Z) : (Jvm.Cond.fieldLink "com/example/deathwatch/deathwatch/AppendOnlyList" (13 : Nat) "com/example/deathwatch/deathwatch/AppendOnlyList" "size" "I").before a0 Z = true := hw _ (List.mem_of_getElem? (i := 25) rfl)
theorem w26 {a0 : Array Value} {Z : State} (hw : Hw a0 Z) : (Jvm.Cond.lays "com/example/deathwatch/deathwatch/AppendOnlyList" "com/example/deathwatch/deathwatch/AppendOnlyList" "size" "I").before a0 Z = true := hw _ (List.mem_of_getElem? (i := 26) rfl)
theorem w27 {a0 : Array Value} {Z : State} (hw : Hw a0 Z) : (Jvm.Cond.methodLink "com/example/deathwatch/deathwatch/AppendOnlyListIsEmptyPinLaw" (24 : Nat) ({ cls := "com/example/deathwatch/deathwatch/AppendOnlyList", name := "size", desc := "()I" } : Jvm.MethodName)).before a0 Z = true := hw _ (List.mem_of_getElem? (i := 27) rfl)
theorem w28 {a0 : Array Value} {Z : State} (hw : Hw a0 Z) : (Jvm.Cond.declares ({ cls := "com/example/deathwatch/deathwatch/AppendOnlyList", name := "size", desc := "()I" } : Jvm.MethodName)).before a0 Z = true := hw _ (List.mem_of_getElem? (i := 28) rfl)
theorem w29 {a0 : Array Value} {Z : State} (hw : Hw a0 Z) : (Jvm.Cond.instanceMethod ({ cls := "com/example/deathwatch/deathwatch/AppendOnlyList", name := "size", desc := "()I" } : Jvm.MethodName)).before a0 Z = true := hw _ (List.mem_of_getElem? (i := 29) rfl)
theorem w30 {a0 : Array Value} {Z : State} (hw : Hw a0 Z) : (Jvm.Cond.selects "com/example/deathwatch/deathwatch/AppendOnlyList" ({ cls := "com/example/deathwatch/deathwatch/AppendOnlyList", name := "size", desc := "()I" } : Jvm.MethodName) ({ cls := "com/example/deathwatch/deathwatch/AppendOnlyList", name := "size", desc := "()I" } : Jvm.MethodName)).before a0 Z = true := hw _ (List.mem_of_getElem? (i := 30) rfl)
theorem w31 {a0 : Array Value} {Z : State} (hw : Hw a0 Z) : (Jvm.Cond.code ({ cls := "com/example/deathwatch/deathwatch/AppendOnlyList", name := "size", desc := "()I" } : Jvm.MethodName) prog_1_method_4_code (1 : Nat) (Option.some Jvm.ClassFile.FieldType.int)).before a0 Z = true := hw _ (List.mem_of_getElem? (i := 31) rfl)
theorem w32 {a0 : Array Value} {Z : State} (hw : Hw a0 Z) : (Jvm.Cond.methodLink "com/example/deathwatch/deathwatch/AppendOnlyListIsEmptyPinLaw" (20 : Nat) ({ cls := "com/example/deathwatch/deathwatch/AppendOnlyList", name := "add", desc := "(Ljava/lang/Object;)V" } : Jvm.MethodName)).before a0 Z = true := hw _ (List.mem_of_getElem? (i := 32) rfl)
theorem w33 {a0 : Array Value} {Z : State} (hw : Hw a0 Z) : (Jvm.Cond.declares ({ cls := "com/example/deathwatch/deathwatch/AppendOnlyList", name := "add", desc := "(Ljava/lang/Object;)V" } : Jvm.MethodName)).before a0 Z = true := hw _ (List.mem_of_getElem? (i := 33) rfl)
theorem w34 {a0 : Array Value} {Z : State} (hw : Hw a0 Z) : (Jvm.Cond.instanceMethod ({ cls := "com/example/deathwatch/deathwatch/AppendOnlyList", name := "add", desc := "(Ljava/lang/Object;)V" } : Jvm.MethodName)).before a0 Z = true := hw _ (List.mem_of_getElem? (i := 34) rfl)
theorem w35 {a0 : Array Value} {Z : State} (hw : Hw a0 Z) : (Jvm.Cond.selects "com/example/deathwatch/deathwatch/AppendOnlyList" ({ cls := "com/example/deathwatch/deathwatch/AppendOnlyList", name := "add", desc := "(Ljava/lang/Object;)V" } : Jvm.MethodName) ({ cls := "com/example/deathwatch/deathwatch/AppendOnlyList", name := "add", desc := "(Ljava/lang/Object;)V" } : Jvm.MethodName)).before a0 Z = true := hw _ (List.mem_of_getElem? (i := 35) rfl)
theorem w36 {a0 : Array Value} {Z : State} (hw : Hw a0 Z) : (Jvm.Cond.code ({ cls := "com/example/deathwatch/deathwatch/AppendOnlyList", name := "add", desc := "(Ljava/lang/Object;)V" } : Jvm.MethodName) prog_1_method_2_code (2 : Nat) (Option.none : Option Jvm.ClassFile.FieldType)).before a0 Z = true := hw _ (List.mem_of_getElem? (i := 36) rfl)
theorem w37 {a0 : Array Value} {Z : State} (hw : Hw a0 Z) : (Jvm.Cond.classLink "java/lang/Integer" (1 : Nat) "java/lang/Integer").before a0 Z = true := hw _ (List.mem_of_getElem? (i := 37) rfl)
theorem w38 {a0 : Array Value} {Z : State} (hw : Hw a0 Z) : (Jvm.Cond.instantiable "java/lang/Integer" (1 : Nat)).before a0 Z = true := hw _ (List.mem_of_getElem? (i := 38) rfl)
theorem w39 {a0 : Array Value} {Z : State} (hw : Hw a0 Z) : (Jvm.Cond.methodLink "java/lang/Integer" (199 : Nat) ({ cls := "java/lang/Integer", name := "<init>", desc := "(I)V" } : Jvm.MethodName)).before a0 Z = true := hw _ (List.mem_of_getElem? (i := 39) rfl)
theorem w40 {a0 : Array Value} {Z : State} (hw : Hw a0 Z) : (Jvm.Cond.instanceMethod ({ cls := "java/lang/Integer", name := "<init>", desc := "(I)V" } : Jvm.MethodName)).before a0 Z = true := hw _ (List.mem_of_getElem? (i := 40) rfl)
theorem w42 {a0 : Array Value} {Z : State} (hw : Hw a0 Z) : (Jvm.Cond.code ({ cls := "java/lang/Integer", name := "<init>", desc := "(I)V" } : Jvm.MethodName) jdk_33_method_23_code (2 : Nat) (Option.none : Option Jvm.ClassFile.FieldType)).before a0 Z = true := hw _ (List.mem_of_getElem? (i := 42) rfl)
theorem w43 {a0 : Array Value} {Z : State} (hw : Hw a0 Z) : (Jvm.Cond.methodLink "java/lang/Integer" (202 : Nat) ({ cls := "java/lang/Number", name := "<init>", desc := "()V" } : Jvm.MethodName)).before a0 Z = true := hw _ (List.mem_of_getElem? (i := 43) rfl)
theorem w44 {a0 : Array Value} {Z : State} (hw : Hw a0 Z) : (Jvm.Cond.instanceMethod ({ cls := "java/lang/Number", name := "<init>", desc := "()V" } : Jvm.MethodName)).before a0 Z = true := hw _ (List.mem_of_getElem? (i := 44) rfl)
theorem w47 {a0 : Array Value} {Z : State} (hw : Hw a0 Z) : (Jvm.Cond.initialized "java/lang/Number").before a0 Z = true := hw _ (List.mem_of_getElem? (i := 47) rfl)
theorem w48 {a0 : Array Value} {Z : State} (hw : Hw a0 Z) : (Jvm.Cond.code ({ cls := "java/lang/Number", name := "<init>", desc := "()V" } : Jvm.MethodName) jdk_18_method_1_code (1 : Nat) (Option.none : Option Jvm.ClassFile.FieldType)).before a0 Z = true := hw _ (List.mem_of_getElem? (i := 48) rfl)
theorem w49 {a0 : Array Value} {Z : State} (hw : Hw a0 Z) : (Jvm.Cond.methodLink "java/lang/Number" (1 : Nat) ({ cls := "java/lang/Object", name := "<init>", desc := "()V" } : Jvm.MethodName)).before a0 Z = true := hw _ (List.mem_of_getElem? (i := 49) rfl)
theorem w50 {a0 : Array Value} {Z : State} (hw : Hw a0 Z) : (Jvm.Cond.fieldLink "java/lang/Integer" (205 : Nat) "java/lang/Integer" "value" "I").before a0 Z = true := hw _ (List.mem_of_getElem? (i := 50) rfl)
theorem w51 {a0 : Array Value} {Z : State} (hw : Hw a0 Z) : (Jvm.Cond.laysFinal "java/lang/Integer" "java/lang/Integer" "value" "I").before a0 Z = true := hw _ (List.mem_of_getElem? (i := 51) rfl)
theorem w52 {a0 : Array Value} {Z : State} (hw : Hw a0 Z) : (Jvm.Cond.castable "java/lang/Integer" "java/lang/Object").before a0 Z = true := hw _ (List.mem_of_getElem? (i := 52) rfl)
theorem ef8 (m : MethodId) (x0 : Addr) : entryFrame m #[(.ref x0)] 1 = mkF m 0 #[.val (.ref x0)] [] := by first | (simp [entryFrame, mkF, argsToLocals, Value.category]; done) | rfl
theorem pn8 : plainFor (⟨"java/lang/Number", "<init>", "()V"⟩ : MethodName) = true := plainFor_of_name (by first | (simp [plainName, overriddenIn]; done) | decide +kernel)
theorem d8_0 : decode jdk_18_method_1_code 0 = .ok (.aload_n 0, 1) := by decide +kernel
theorem d8_1 : decode jdk_18_method_1_code 1 = .ok (.invokespecial 1, 3) := by decide +kernel
theorem d8_4 : decode jdk_18_method_1_code 4 = .ok (.return_, 1) := by decide +kernel
theorem ef7 (m : MethodId) (x0 : Addr) (x1 : Int32) : entryFrame m #[(.ref x0), (.int x1)] 2 = mkF m 0 #[.val (.ref x0), .val (.int x1)] [] := by first | (simp [entryFrame, mkF, argsToLocals, Value.category]; done) | rfl
theorem pn7 : plainFor (⟨"java/lang/Integer", "<init>", "(I)V"⟩ : MethodName) = true := plainFor_of_name (by first | (simp [plainName, overriddenIn]; done) | decide +kernel)
theorem d7_0 : decode jdk_33_method_23_code 0 = .ok (.aload_n 0, 1) := by decide +kernel
theorem d7_1 : decode jdk_33_method_23_code 1 = .ok (.invokespecial 202, 3) := by decide +kernel
theorem pd1 : parseMethodDescriptor "()V" = some ⟨[], none⟩ := by decide +kernel
theorem d7_4 : decode jdk_33_method_23_code 4 = .ok (.aload_n 0, 1) := by decide +kernel
theorem d7_5 : decode jdk_33_method_23_code 5 = .ok (.iload_n 1, 1) := by decide +kernel
theorem d7_6 : decode jdk_33_method_23_code 6 = .ok (.putfield 205, 3) := by decide +kernel
theorem d7_9 : decode jdk_33_method_23_code 9 = .ok (.return_, 1) := by decide +kernel
theorem ef1 (m : MethodId) (x0 : Int32) : entryFrame m #[(.int x0)] 1 = mkF m 0 #[.val (.int x0)] [] := by first | (simp [entryFrame, mkF, argsToLocals, Value.category]; done) | rfl
theorem pn1 : plainFor (⟨"java/lang/Integer", "valueOf", "(I)Ljava/lang/Integer;"⟩ : MethodName) = true := plainFor_of_name (by first | (simp [plainName, overriddenIn]; done) | decide +kernel)
theorem d1_0 : decode jdk_33_method_22_code 0 = .ok (.iload_n 0, 1) := by decide +kernel
theorem d1_1 : decode jdk_33_method_22_code 1 = .ok (.bipush (-128), 2) := by decide +kernel
theorem d1_3 : decode jdk_33_method_22_code 3 = .ok (.if_icmp .lt 20, 3) := by decide +kernel
theorem d1_23 : decode jdk_33_method_22_code 23 = .ok (.new 1, 3) := by decide +kernel
theorem d1_26 : decode jdk_33_method_22_code 26 = .ok (.dup, 1) := by decide +kernel
theorem d1_27 : decode jdk_33_method_22_code 27 = .ok (.iload_n 0, 1) := by decide +kernel
theorem d1_28 : decode jdk_33_method_22_code 28 = .ok (.invokespecial 199, 3) := by decide +kernel
theorem pd4 : parseMethodDescriptor "(I)V" = some ⟨[.int], none⟩ := by decide +kernel
theorem d1_31 : decode jdk_33_method_22_code 31 = .ok (.areturn, 1) := by decide +kernel
theorem d1_6 : decode jdk_33_method_22_code 6 = .ok (.iload_n 0, 1) := by decide +kernel
theorem d1_7 : decode jdk_33_method_22_code 7 = .ok (.getstatic 191, 3) := by decide +kernel
theorem d1_10 : decode jdk_33_method_22_code 10 = .ok (.if_icmp .gt 13, 3) := by decide +kernel
theorem d1_13 : decode jdk_33_method_22_code 13 = .ok (.getstatic 195, 3) := by decide +kernel
theorem d1_16 : decode jdk_33_method_22_code 16 = .ok (.iload_n 0, 1) := by decide +kernel
theorem d1_17 : decode jdk_33_method_22_code 17 = .ok (.sipush 128, 3) := by decide +kernel
theorem d1_20 : decode jdk_33_method_22_code 20 = .ok (.iadd, 1) := by decide +kernel
theorem d1_21 : decode jdk_33_method_22_code 21 = .ok (.aaload, 1) := by decide +kernel
theorem d1_22 : decode jdk_33_method_22_code 22 = .ok (.areturn, 1) := by decide +kernel
theorem ef4 (m : MethodId) (x0 : Addr) : entryFrame m #[(.ref x0)] 1 = mkF m 0 #[.val (.ref x0)] [] := by first | (simp [entryFrame, mkF, argsToLocals, Value.category]; done) | rfl
theorem pn4 : plainFor (⟨"com/example/deathwatch/deathwatch/AppendOnlyList", "isEmpty", "()Z"⟩ : MethodName) = true := plainFor_of_name (by first | (simp [plainName, overriddenIn]; done) | decide +kernel)
theorem d4_0 : decode prog_1_method_3_code 0 = .ok (.aload_n 0, 1) := by decide +kernel
theorem d4_1 : decode prog_1_method_3_code 1 = .ok (.getfield 13, 3) := by decide +kernel
theorem d4_4 : decode prog_1_method_3_code 4 = .ok (.ifCond .ne 7, 3) := by decide +kernel
theorem d4_11 : decode prog_1_method_3_code 11 = .ok (.iconst 0, 1) := by decide +kernel
theorem d4_12 : decode prog_1_method_3_code 12 = .ok (.ireturn, 1) := by decide +kernel
theorem d4_7 : decode prog_1_method_3_code 7 = .ok (.iconst 1, 1) := by decide +kernel
theorem d4_8 : decode prog_1_method_3_code 8 = .ok (.goto 4, 3) := by decide +kernel
theorem ef5 (m : MethodId) (x0 : Addr) : entryFrame m #[(.ref x0)] 1 = mkF m 0 #[.val (.ref x0)] [] := by first | (simp [entryFrame, mkF, argsToLocals, Value.category]; done) | rfl
theorem pn5 : plainFor (⟨"com/example/deathwatch/deathwatch/AppendOnlyList", "size", "()I"⟩ : MethodName) = true := plainFor_of_name (by first | (simp [plainName, overriddenIn]; done) | decide +kernel)
theorem d5_0 : decode prog_1_method_4_code 0 = .ok (.aload_n 0, 1) := by decide +kernel
theorem d5_1 : decode prog_1_method_4_code 1 = .ok (.getfield 13, 3) := by decide +kernel
theorem d5_4 : decode prog_1_method_4_code 4 = .ok (.ireturn, 1) := by decide +kernel
theorem ef2 (m : MethodId) (x0 : Addr) : entryFrame m #[(.ref x0)] 1 = mkF m 0 #[.val (.ref x0)] [] := by first | (simp [entryFrame, mkF, argsToLocals, Value.category]; done) | rfl
theorem pn2 : plainFor (⟨"com/example/deathwatch/deathwatch/AppendOnlyList", "<init>", "()V"⟩ : MethodName) = true := plainFor_of_name (by first | (simp [plainName, overriddenIn]; done) | decide +kernel)
theorem d2_0 : decode prog_1_method_1_code 0 = .ok (.aload_n 0, 1) := by decide +kernel
theorem d2_1 : decode prog_1_method_1_code 1 = .ok (.invokespecial 1, 3) := by decide +kernel
theorem d2_4 : decode prog_1_method_1_code 4 = .ok (.aload_n 0, 1) := by decide +kernel
theorem d2_5 : decode prog_1_method_1_code 5 = .ok (.bipush 16, 2) := by decide +kernel
theorem d2_7 : decode prog_1_method_1_code 7 = .ok (.anewarray 2, 3) := by decide +kernel
theorem d2_10 : decode prog_1_method_1_code 10 = .ok (.putfield 9, 3) := by decide +kernel
theorem d2_13 : decode prog_1_method_1_code 13 = .ok (.return_, 1) := by decide +kernel
theorem ef6 (m : MethodId) (x0 : Addr) (x1 : Addr) : entryFrame m #[(.ref x0), (.ref x1)] 2 = mkF m 0 #[.val (.ref x0), .val (.ref x1)] [] := by first | (simp [entryFrame, mkF, argsToLocals, Value.category]; done) | rfl
theorem pn6 : plainFor (⟨"com/example/deathwatch/deathwatch/AppendOnlyList", "add", "(Ljava/lang/Object;)V"⟩ : MethodName) = true := plainFor_of_name (by first | (simp [plainName, overriddenIn]; done) | decide +kernel)
theorem d6_0 : decode prog_1_method_2_code 0 = .ok (.aload_n 0, 1) := by decide +kernel
theorem d6_1 : decode prog_1_method_2_code 1 = .ok (.getfield 13, 3) := by decide +kernel
theorem d6_4 : decode prog_1_method_2_code 4 = .ok (.aload_n 0, 1) := by decide +kernel
theorem d6_5 : decode prog_1_method_2_code 5 = .ok (.getfield 9, 3) := by decide +kernel
theorem d6_8 : decode prog_1_method_2_code 8 = .ok (.arraylength, 1) := by decide +kernel
theorem d6_9 : decode prog_1_method_2_code 9 = .ok (.if_icmp .ne 20, 3) := by decide +kernel
theorem d6_29 : decode prog_1_method_2_code 29 = .ok (.aload_n 0, 1) := by decide +kernel
theorem d6_30 : decode prog_1_method_2_code 30 = .ok (.getfield 9, 3) := by decide +kernel
theorem d6_33 : decode prog_1_method_2_code 33 = .ok (.aload_n 0, 1) := by decide +kernel
theorem d6_34 : decode prog_1_method_2_code 34 = .ok (.getfield 13, 3) := by decide +kernel
theorem d6_37 : decode prog_1_method_2_code 37 = .ok (.aload_n 1, 1) := by decide +kernel
theorem d6_38 : decode prog_1_method_2_code 38 = .ok (.aastore, 1) := by decide +kernel
theorem d6_39 : decode prog_1_method_2_code 39 = .ok (.aload_n 0, 1) := by decide +kernel
theorem d6_40 : decode prog_1_method_2_code 40 = .ok (.dup, 1) := by decide +kernel
theorem d6_41 : decode prog_1_method_2_code 41 = .ok (.getfield 13, 3) := by decide +kernel
theorem d6_44 : decode prog_1_method_2_code 44 = .ok (.iconst 1, 1) := by decide +kernel
theorem d6_45 : decode prog_1_method_2_code 45 = .ok (.iadd, 1) := by decide +kernel
theorem d6_46 : decode prog_1_method_2_code 46 = .ok (.putfield 13, 3) := by decide +kernel
theorem d6_49 : decode prog_1_method_2_code 49 = .ok (.return_, 1) := by decide +kernel
theorem ef6n1 (m : MethodId) (x0 : Addr) : entryFrame m #[(.ref x0), .null] 2 = mkF m 0 #[.val (.ref x0), .val .null] [] := by first | (simp [entryFrame, mkF, argsToLocals, Value.category]; done) | rfl
theorem ef0 (m : MethodId) (x0 : Int32) (x1 : Int32) (x2 : Int32) : entryFrame m #[(.int x0), (.int x1), (.int x2)] maxLocals = mkF m 0 #[.val (.int x0), .val (.int x1), .val (.int x2), .unset, .unset, .unset, .unset, .unset, .unset, .unset, .unset] [] := by first | (simp [entryFrame, mkF, argsToLocals, Value.category, maxLocals]; done) | rfl
theorem pn0 : plainFor (⟨"com/example/deathwatch/deathwatch/AppendOnlyListIsEmptyPinLaw", "law", "(III)Z"⟩ : MethodName) = true := plainFor_of_name (by first | (simp [plainName, overriddenIn]; done) | decide +kernel)
theorem pd3 : parseMethodDescriptor "(I)Ljava/lang/Integer;" = some ⟨[.int], some (.object "java/lang/Integer")⟩ := by decide +kernel
theorem pd2 : parseMethodDescriptor "()Z" = some ⟨[], some .boolean⟩ := by decide +kernel
theorem pd0 : parseMethodDescriptor "()I" = some ⟨[], some .int⟩ := by decide +kernel
theorem pd5 : parseMethodDescriptor "(Ljava/lang/Object;)V" = some ⟨[(.object "java/lang/Object")], none⟩ := by decide +kernel

set_option maxRecDepth 65536 in
set_option maxHeartbeats 40000000 in
theorem c_num (l : Launch) (Z : State) (a0 : Array Value) (hw : Hw a0 Z) (o : Addr) (h0 : Heap) (n0 : Nat) (Z0 : n0 ≤ h0.size)  :
    Met l Z (⟨"java/lang/Number", "<init>", "()V"⟩ : MethodName) jdk_18_method_1_code 1 none [] ({ frames := 1, cells := 0, slots := 0, locals := 12 } : Room) #[(.ref o)] h0 n0 (Ret0 (fun h => h0 = h)) := by
  refine Met.intro pn8 (own := "java/lang/Number") rfl (nm := "<init>") rfl (fun m => ef8 m o) ?_
  intro p e s m below meth c C
  refine s_aloadN C d8_0 (pc' := 1) rfl rfl rfl ?_
  refine s_initO C d8_1 (pc' := 4) rfl (w49 hw) (w14 hw) (w15 hw) rfl (by decide) (W := 0) rfl (by decide) ?_
  exact s_ret0 C d8_4 (by decide) (by decide) rfl
set_option maxRecDepth 65536 in
set_option maxHeartbeats 40000000 in
theorem c_int (l : Launch) (Z : State) (a0 : Array Value) (hw : Hw a0 Z) (o : Addr) (x1 : Int32) (h0 : Heap) (n0 : Nat) (Z0 : n0 ≤ h0.size) (E_o : Exa Z h0 o "java/lang/Integer") (g_o : n0 ≤ o) (F_value : Fld Z h0 o "java/lang/Integer" "value" "I" (.int (0 : Int32)))  :
    Met l Z (⟨"java/lang/Integer", "<init>", "(I)V"⟩ : MethodName) jdk_33_method_23_code 2 none [] ({ frames := 2, cells := 0, slots := 0, locals := 24 } : Room) #[(.ref o), (.int x1)] h0 n0 (Ret0 (fun h => Keep h0 h [o] ∧ Exa Z h o "java/lang/Integer" ∧ Fld Z h o "java/lang/Integer" "value" "I" (.int x1))) := by
  refine Met.intro pn7 (own := "java/lang/Integer") rfl (nm := "<init>") rfl (fun m => ef7 m o x1) ?_
  intro p e s m below meth c C
  refine s_aloadN C d7_0 (pc' := 1) rfl rfl rfl ?_
  refine s_callI C d7_1 (pc' := 4) rfl (w43 hw) rfl (w44 hw) (w47 hw) (w48 hw) (by decide) [] [] pd1 rfl rfl (c_num l Z a0 hw o h0 n0 Z0) rfl (W := 0) rfl (by decide) (by decide) (k' := 0) rfl (by decide) (n' := 0) rfl (by decide) (fun _ q1 => ?_)
  obtain rfl := q1
  refine s_aloadN C d7_4 (pc' := 5) rfl rfl rfl ?_
  refine s_iloadN C d7_5 (pc' := 6) rfl rfl ?_
  refine s_putF C d7_6 (pc' := 9) rfl (w50 hw) F_value E_o (Or.inr ⟨(w51 hw), rfl, rfl⟩) (w38 hw) (ty := .int) (by decide) rfl rfl g_o (fun h2 W2 => ?_)
  have F2 := F_value.same W2
  have sz3 : n0 ≤ h2.size := (Nat.le_trans Z0 (Nat.le_of_eq W2.size.symm))
  have Kp4 : Keep h0 h2 [o] := (Keep.refl h0 [o]).wr W2 (Or.inl (List.mem_of_getElem? (i := 0) rfl))
  have Ex5 := (E_o.wr W2)
  exact s_ret0 C d7_9 (by decide) (by decide) ⟨Kp4, Ex5, F2⟩

theorem own_bj {x : Int32} (h1 : ¬ x < (-128 : Int32)) (h2 : ¬ (127 : Int32) < x) {cl : Cell} (hs : cl.slots.size = (256 : Int32).toNatClampNeg) : ¬ (x + 128 < 0 ∨ cl.slots.size ≤ (x + 128).toNatClampNeg) := by
  have k1 : (-128 : Int32).toInt = -128 := by decide
  have k2 : (127 : Int32).toInt = 127 := by decide
  have k3 : (128 : Int32).toInt = 128 := by decide
  have k0 : (0 : Int32).toInt = 0 := by decide
  have k4 : (256 : Int32).toNatClampNeg = 256 := by decide
  have q := c_iadd x 128
  have r := rng32 (x + 128)
  rw [Int32.lt_iff_toInt_lt, k1] at h1
  rw [Int32.lt_iff_toInt_lt, k2] at h2
  rw [k3] at q
  rw [hs, k4, Int32.lt_iff_toInt_lt, k0]
  simp only [Int32.toNatClampNeg]
  omega

set_option maxRecDepth 65536 in
set_option maxHeartbeats 40000000 in
theorem c_vof (l : Launch) (Z : State) (a0 : Array Value) (hw : Hw a0 Z) (x1 : Int32) (ca : Addr) (cl : Cell) (h0 : Heap) (n0 : Nat) (Z0 : n0 ≤ h0.size) (O0 : Old Z n0 h0) (S_hi : Sta Z Z.heap "java/lang/Integer$IntegerCache" "high" "I" (.int 127)) (S_ca : Sta Z Z.heap "java/lang/Integer$IntegerCache" "cache" "[Ljava/lang/Integer;" (.ref ca)) (B : Bxs Z ca cl "java/lang/Integer" "I" 256 (fun j => .int (j - 128))) :
    Met l Z (⟨"java/lang/Integer", "valueOf", "(I)Ljava/lang/Integer;"⟩ : MethodName) jdk_33_method_22_code 1 (some (.object "java/lang/Integer")) [] ({ frames := 3, cells := 1, slots := 1, locals := 40 } : Room) #[(.int x1)] h0 n0 (RetV (fun z h => ∃ b : Addr, z = .ref b ∧ Keep h0 h [] ∧ Exa Z h b "java/lang/Integer")) := by
  refine Met.intro pn1 (own := "java/lang/Integer") rfl (nm := "valueOf") rfl (fun m => ef1 m x1) ?_
  intro p e s m below meth c C
  refine s_iloadN C d1_0 (pc' := 1) rfl rfl ?_
  refine s_bipush C d1_1 (pc' := 3) rfl (-128 : Int32) rfl ?_
  refine s_icmp_lt C d1_3 (pc' := 6) rfl (pcY := 23) rfl (fun c1 => ?_) (fun c1 => ?_)
  · skip
    refine s_new C d1_23 (pc' := 26) rfl (w37 hw) (w38 hw) (w2 hw) (k' := 1) rfl (by decide) (n' := 1) rfl (by decide) (fun h2 a2 E2 g2 A2 D2 => ?_)
    have gn3 : n0 ≤ a2 := by rw [g2]; exact Z0
    have bs4 : h0.size ≤ a2 := by rw [g2]; exact (Keep.refl h0 []).1
    have sz5 : n0 ≤ h2.size := (Nat.le_trans Z0 E2.1)
    have Kp6 : Keep h0 h2 [] := (Keep.refl h0 []).ext E2
    have Od7 : Old Z n0 h2 := O0.ext E2
    have F2_value : Fld Z h2 a2 "java/lang/Integer" "value" "I" (.int (0 : Int32)) := D2 (Or.inr (w51 hw)) (ty := .int) (by decide)
    refine s_dup C d1_26 (pc' := 27) rfl rfl ?_
    refine s_iloadN C d1_27 (pc' := 28) rfl rfl ?_
    refine s_callI C d1_28 (pc' := 31) rfl (w39 hw) rfl (w40 hw) (w2 hw) (w42 hw) (by decide) [(.int x1)] [(.ref a2)] pd4 rfl rfl (c_int l Z a0 hw a2 x1 h2 n0 sz5 A2 gn3 F2_value ) rfl (W := 1) rfl (by decide) (by decide) (k' := 1) rfl (by decide) (n' := 1) rfl (by decide) (fun h8 q8 => ?_)
    obtain ⟨K8, E8, F8_value⟩ := q8
    have sz9 : n0 ≤ h8.size := (Nat.le_trans sz5 K8.1)
    have Kp10 : Keep h0 h8 [] := Kp6.trans K8 (allS (Or.inr bs4) all0)
    have Od11 : Old Z n0 h8 := Od7.keep K8 (allS gn3 all0)
    exact s_retA C rfl rfl rfl d1_31 (by decide) (by decide) ⟨a2, rfl, Kp10, E8⟩
  · skip
    refine s_iloadN C d1_6 (pc' := 7) rfl rfl ?_
    refine s_getS C d1_7 (pc' := 10) rfl (w4 hw) (S_hi.ext O0.2) ?_
    refine s_icmp_gt C d1_10 (pc' := 13) rfl (pcY := 23) rfl (fun c12 => ?_) (fun c12 => ?_)
    · skip
      refine s_new C d1_23 (pc' := 26) rfl (w37 hw) (w38 hw) (w2 hw) (k' := 1) rfl (by decide) (n' := 1) rfl (by decide) (fun h13 a13 E13 g13 A13 D13 => ?_)
      have gn14 : n0 ≤ a13 := by rw [g13]; exact Z0
      have bs15 : h0.size ≤ a13 := by rw [g13]; exact (Keep.refl h0 []).1
      have sz16 : n0 ≤ h13.size := (Nat.le_trans Z0 E13.1)
      have Kp17 : Keep h0 h13 [] := (Keep.refl h0 []).ext E13
      have Od18 : Old Z n0 h13 := O0.ext E13
      have F13_value : Fld Z h13 a13 "java/lang/Integer" "value" "I" (.int (0 : Int32)) := D13 (Or.inr (w51 hw)) (ty := .int) (by decide)
      refine s_dup C d1_26 (pc' := 27) rfl rfl ?_
      refine s_iloadN C d1_27 (pc' := 28) rfl rfl ?_
      refine s_callI C d1_28 (pc' := 31) rfl (w39 hw) rfl (w40 hw) (w2 hw) (w42 hw) (by decide) [(.int x1)] [(.ref a13)] pd4 rfl rfl (c_int l Z a0 hw a13 x1 h13 n0 sz16 A13 gn14 F13_value ) rfl (W := 1) rfl (by decide) (by decide) (k' := 1) rfl (by decide) (n' := 1) rfl (by decide) (fun h19 q19 => ?_)
      obtain ⟨K19, E19, F19_value⟩ := q19
      have sz20 : n0 ≤ h19.size := (Nat.le_trans sz16 K19.1)
      have Kp21 : Keep h0 h19 [] := Kp17.trans K19 (allS (Or.inr bs15) all0)
      have Od22 : Old Z n0 h19 := Od18.keep K19 (allS gn14 all0)
      exact s_retA C rfl rfl rfl d1_31 (by decide) (by decide) ⟨a13, rfl, Kp21, E19⟩
    · skip
      refine s_getS C d1_13 (pc' := 16) rfl (w6 hw) (S_ca.ext O0.2) ?_
      refine s_iloadN C d1_16 (pc' := 17) rfl rfl ?_
      refine s_sipush C d1_17 (pc' := 20) rfl (128 : Int32) rfl ?_
      refine s_iadd C d1_20 (pc' := 21) rfl ?_
      have hj := own_bj c1 c12 B.2.1
      obtain ⟨bx, hbx, Ebx, -⟩ := B.2.2.2 _ hj
      refine s_aaloadC C rfl d1_21 (pc' := 22) rfl (B.1.ext O0.2) hj hbx ?_
      exact s_retA C rfl rfl rfl d1_22 (by decide) (by decide) ⟨bx, rfl, (Keep.refl h0 []), (Ebx.ext O0.2)⟩
def f_emp  (w_size : Int32) : Int32 := if w_size = (0 : Int32) then (1 : Int32) else (0 : Int32)
set_option maxRecDepth 65536 in
set_option maxHeartbeats 40000000 in
theorem c_emp (l : Launch) (Z : State) (a0 : Array Value) (hw : Hw a0 Z) (o : Addr)  (w_size : Int32) (h0 : Heap) (n0 : Nat) (Z0 : n0 ≤ h0.size) (E_o : Exa Z h0 o "com/example/deathwatch/deathwatch/AppendOnlyList") (F_size : Fld Z h0 o "com/example/deathwatch/deathwatch/AppendOnlyList" "size" "I" (.int w_size))  :
    Met l Z (⟨"com/example/deathwatch/deathwatch/AppendOnlyList", "isEmpty", "()Z"⟩ : MethodName) prog_1_method_3_code 1 (some .boolean) [] ({ frames := 0, cells := 0, slots := 0, locals := 0 } : Room) #[(.ref o)] h0 n0 (RetI (fun z h => z = f_emp  w_size ∧ h0 = h)) := by
  refine Met.intro pn4 (own := "com/example/deathwatch/deathwatch/AppendOnlyList") rfl (nm := "isEmpty") rfl (fun m => ef4 m o) ?_
  intro p e s m below meth c C
  refine s_aloadN C d4_0 (pc' := 1) rfl rfl rfl ?_
  refine s_getF C d4_1 (pc' := 4) rfl (w25 hw) F_size ?_
  refine s_if_ne C d4_4 (pc' := 7) rfl (pcY := 11) rfl (fun c1 => ?_) (fun c1 => ?_)
  · skip
    refine s_iconst C d4_11 (pc' := 12) rfl (0 : Int32) rfl ?_
    exact s_retN C (by simp) d4_12 (by decide) (by decide) (by have e : f_emp  w_size = (0 : Int32) := (by unfold f_emp; rw [if_neg c1]); exact ⟨e.symm, rfl⟩)
  · skip
    refine s_iconst C d4_7 (pc' := 8) rfl (1 : Int32) rfl ?_
    refine s_goto C d4_8 (pc' := 12) rfl ?_
    exact s_retN C (by simp) d4_12 (by decide) (by decide) (by have e : f_emp  w_size = (1 : Int32) := (by unfold f_emp; rw [if_pos c1]); exact ⟨e.symm, rfl⟩)
def f_siz  (w_size : Int32) : Int32 := w_size
set_option maxRecDepth 65536 in
set_option maxHeartbeats 40000000 in
theorem c_siz (l : Launch) (Z : State) (a0 : Array Value) (hw : Hw a0 Z) (o : Addr)  (w_size : Int32) (h0 : Heap) (n0 : Nat) (Z0 : n0 ≤ h0.size) (E_o : Exa Z h0 o "com/example/deathwatch/deathwatch/AppendOnlyList") (F_size : Fld Z h0 o "com/example/deathwatch/deathwatch/AppendOnlyList" "size" "I" (.int w_size))  :
    Met l Z (⟨"com/example/deathwatch/deathwatch/AppendOnlyList", "size", "()I"⟩ : MethodName) prog_1_method_4_code 1 (some .int) [] ({ frames := 0, cells := 0, slots := 0, locals := 0 } : Room) #[(.ref o)] h0 n0 (RetI (fun z h => z = f_siz  w_size ∧ h0 = h)) := by
  refine Met.intro pn5 (own := "com/example/deathwatch/deathwatch/AppendOnlyList") rfl (nm := "size") rfl (fun m => ef5 m o) ?_
  intro p e s m below meth c C
  refine s_aloadN C d5_0 (pc' := 1) rfl rfl rfl ?_
  refine s_getF C d5_1 (pc' := 4) rfl (w25 hw) F_size ?_
  exact s_retI C d5_4 (by decide) (by decide) (by have e : f_siz  w_size = w_size := rfl; exact ⟨e.symm, rfl⟩)
set_option maxRecDepth 65536 in
set_option maxHeartbeats 40000000 in
theorem c_list (l : Launch) (Z : State) (a0 : Array Value) (hw : Hw a0 Z) (o : Addr) (h0 : Heap) (n0 : Nat) (Z0 : n0 ≤ h0.size) (E_o : Exa Z h0 o "com/example/deathwatch/deathwatch/AppendOnlyList") (g_o : n0 ≤ o) (F_e : Fld Z h0 o "com/example/deathwatch/deathwatch/AppendOnlyList" "elements" "[Ljava/lang/Object;" .null) (F_s : Fld Z h0 o "com/example/deathwatch/deathwatch/AppendOnlyList" "size" "I" (.int 0)) :
    Met l Z (⟨"com/example/deathwatch/deathwatch/AppendOnlyList", "<init>", "()V"⟩ : MethodName) prog_1_method_1_code 1 none [] ({ frames := 1, cells := 1, slots := 16, locals := 12 } : Room) #[(.ref o)] h0 n0 (Ret0 (fun h => ∃ a : Addr, Keep h0 h [o] ∧ Exa Z h o "com/example/deathwatch/deathwatch/AppendOnlyList" ∧ Fld Z h o "com/example/deathwatch/deathwatch/AppendOnlyList" "elements" "[Ljava/lang/Object;" (.ref a) ∧ Fld Z h o "com/example/deathwatch/deathwatch/AppendOnlyList" "size" "I" (.int 0) ∧ Av Z h a (.object "java/lang/Object") [.null, .null, .null, .null, .null, .null, .null, .null, .null, .null, .null, .null, .null, .null, .null, .null] ∧ OvA Z h a "java/lang/Object" ∧ h0.size ≤ a)) := by
  refine Met.intro pn2 (own := "com/example/deathwatch/deathwatch/AppendOnlyList") rfl (nm := "<init>") rfl (fun m => ef2 m o) ?_
  intro p e s m below meth c C
  refine s_aloadN C d2_0 (pc' := 1) rfl rfl rfl ?_
  refine s_initO C d2_1 (pc' := 4) rfl (w13 hw) (w14 hw) (w15 hw) rfl (by decide) (W := 0) rfl (by decide) ?_
  refine s_aloadN C d2_4 (pc' := 5) rfl rfl rfl ?_
  refine s_bipush C d2_5 (pc' := 7) rfl (16 : Int32) rfl ?_
  refine s_newref C (cap := 16) d2_7 (pc' := 10) rfl (w16 hw) (w17 hw) (by decide) (by decide) (by decide) (k' := 1) rfl (by decide) (n' := 16) rfl (by decide) [.null, .null, .null, .null, .null, .null, .null, .null, .null, .null, .null, .null, .null, .null, .null, .null] rfl (fun h1 a1 cA1 E1 g1 A1 Ra1 Ov1 => ?_)
  have ne2 : o ≠ a1 := Nat.ne_of_lt (by rw [g1]; exact E_o.lt)
  have gn3 : n0 ≤ a1 := by rw [g1]; exact Z0
  have bs4 : h0.size ≤ a1 := by rw [g1]; exact (Keep.refl h0 [o]).1
  have sz5 : n0 ≤ h1.size := (Nat.le_trans Z0 E1.1)
  have Kp6 : Keep h0 h1 [o] := (Keep.refl h0 [o]).ext E1
  have Oa1 : OvA Z h1 a1 "java/lang/Object" := ⟨_, Ra1, Ov1⟩
  have Fx7 := (F_e.ext E1)
  have Ex8 := (E_o.ext E1)
  refine s_putF C d2_10 (pc' := 13) rfl (w18 hw) Fx7 Ex8 (Or.inl (w19 hw)) (w8 hw) (ty := (.array (.object "java/lang/Object"))) (by decide) rfl rfl g_o (fun h9 W9 => ?_)
  have F9 := Fx7.same W9
  have sz10 : n0 ≤ h9.size := (Nat.le_trans sz5 (Nat.le_of_eq W9.size.symm))
  have Kp11 : Keep h0 h9 [o] := Kp6.wr W9 (Or.inl (List.mem_of_getElem? (i := 0) rfl))
  have Ex12 := (Ex8.wr W9)
  have Fx13 := ((F_s.ext E1).other W9 (Or.inr (slot_ne (Or.inl (w26 hw)) (Or.inl (w19 hw)) (by decide) (t := .int) (t' := (.array (.object "java/lang/Object"))) (by decide) (by decide))))
  have Vx14 := (A1.other W9 (Ne.symm ne2))
  have Ox15 := (Oa1.keep (Keep.of_wr W9))
  exact s_ret0 C d2_13 (by decide) (by decide) ⟨a1, Kp11, Ex12, F9, Fx13, Vx14, Ox15, bs4⟩
set_option maxRecDepth 65536 in
set_option maxHeartbeats 40000000 in
theorem c_add0 (l : Launch) (Z : State) (a0 : Array Value) (hw : Hw a0 Z) (o a y : Addr) (h0 : Heap) (n0 : Nat) (Z0 : n0 ≤ h0.size) (E_o : Exa Z h0 o "com/example/deathwatch/deathwatch/AppendOnlyList") (g_o : n0 ≤ o) (g_a : n0 ≤ a) (hne : o ≠ a) (F_e : Fld Z h0 o "com/example/deathwatch/deathwatch/AppendOnlyList" "elements" "[Ljava/lang/Object;" (.ref a)) (F_s : Fld Z h0 o "com/example/deathwatch/deathwatch/AppendOnlyList" "size" "I" (.int 0)) (V_a : Av Z h0 a (.object "java/lang/Object") [.null, .null, .null, .null, .null, .null, .null, .null, .null, .null, .null, .null, .null, .null, .null, .null]) (O_a : OvA Z h0 a "java/lang/Object") (I_y : Ins Z h0 y "java/lang/Object" true) :
    Met l Z (⟨"com/example/deathwatch/deathwatch/AppendOnlyList", "add", "(Ljava/lang/Object;)V"⟩ : MethodName) prog_1_method_2_code 2 none [] ({ frames := 0, cells := 0, slots := 0, locals := 0 } : Room) #[(.ref o), (.ref y)] h0 n0 (Ret0 (fun h => Keep h0 h [o, a] ∧ Exa Z h o "com/example/deathwatch/deathwatch/AppendOnlyList" ∧ Fld Z h o "com/example/deathwatch/deathwatch/AppendOnlyList" "elements" "[Ljava/lang/Object;" (.ref a) ∧ Fld Z h o "com/example/deathwatch/deathwatch/AppendOnlyList" "size" "I" (.int 1) ∧ Av Z h a (.object "java/lang/Object") [(.ref y), .null, .null, .null, .null, .null, .null, .null, .null, .null, .null, .null, .null, .null, .null, .null] ∧ OvA Z h a "java/lang/Object")) := by
  refine Met.intro pn6 (own := "com/example/deathwatch/deathwatch/AppendOnlyList") rfl (nm := "add") rfl (fun m => ef6 m o y) ?_
  intro p e s m below meth c C
  refine s_aloadN C d6_0 (pc' := 1) rfl rfl rfl ?_
  refine s_getF C d6_1 (pc' := 4) rfl (w25 hw) F_s ?_
  refine s_aloadN C d6_4 (pc' := 5) rfl rfl rfl ?_
  refine s_getF C d6_5 (pc' := 8) rfl (w18 hw) F_e ?_
  refine s_length C d6_8 (pc' := 9) rfl V_a (16 : Int32) rfl ?_
  refine s_icmp_ne C d6_9 (pc' := 12) rfl (pcY := 29) rfl (fun c1 => ?_) (fun hc => by exfalso; revert hc; decide)
  refine s_aloadN C d6_29 (pc' := 30) rfl rfl rfl ?_
  refine s_getF C d6_30 (pc' := 33) rfl (w18 hw) F_e ?_
  refine s_aloadN C d6_33 (pc' := 34) rfl rfl rfl ?_
  refine s_getF C d6_34 (pc' := 37) rfl (w25 hw) F_s ?_
  refine s_aloadN C d6_37 (pc' := 38) rfl rfl rfl ?_
  refine s_aastore C rfl d6_38 (pc' := 39) rfl V_a (O_a.sto I_y) rfl 0 (by decide) (Nat.le_of_ble_eq_true rfl) g_a [(.ref y), .null, .null, .null, .null, .null, .null, .null, .null, .null, .null, .null, .null, .null, .null, .null] rfl (fun h2 W2 A2 => ?_)
  have sz3 : n0 ≤ h2.size := (Nat.le_trans Z0 (Nat.le_of_eq W2.size.symm))
  have Kp4 : Keep h0 h2 [o, a] := (Keep.refl h0 [o, a]).wr W2 (Or.inl (List.mem_of_getElem? (i := 1) rfl))
  refine s_aloadN C d6_39 (pc' := 40) rfl rfl rfl ?_
  refine s_dup C d6_40 (pc' := 41) rfl rfl ?_
  have Fx5 := (F_s.other W2 (Or.inl hne))
  refine s_getF C d6_41 (pc' := 44) rfl (w25 hw) Fx5 ?_
  refine s_iconst C d6_44 (pc' := 45) rfl (1 : Int32) rfl ?_
  refine s_iadd C d6_45 (pc' := 46) rfl ?_
  refine s_foldI C (y := (1 : Int32)) (by decide) ?_
  have Ex6 := (E_o.wr W2)
  refine s_putF C d6_46 (pc' := 49) rfl (w25 hw) Fx5 Ex6 (Or.inl (w26 hw)) (w8 hw) (ty := .int) (by decide) rfl rfl g_o (fun h7 W7 => ?_)
  have F7 := Fx5.same W7
  have sz8 : n0 ≤ h7.size := (Nat.le_trans sz3 (Nat.le_of_eq W7.size.symm))
  have Kp9 : Keep h0 h7 [o, a] := Kp4.wr W7 (Or.inl (List.mem_of_getElem? (i := 0) rfl))
  have Ex10 := (Ex6.wr W7)
  have Fx11 := ((F_e.other W2 (Or.inl hne)).other W7 (Or.inr (slot_ne (Or.inl (w19 hw)) (Or.inl (w26 hw)) (by decide) (t := (.array (.object "java/lang/Object"))) (t' := .int) (by decide) (by decide))))
  have Vx12 := (A2.other W7 (Ne.symm hne))
  have Ox13 := ((O_a.keep (Keep.of_wr W2)).keep (Keep.of_wr W7))
  exact s_ret0 C d6_49 (by decide) (by decide) ⟨Kp9, Ex10, Fx11, F7, Vx12, Ox13⟩
set_option maxRecDepth 65536 in
set_option maxHeartbeats 40000000 in
theorem c_add1 (l : Launch) (Z : State) (a0 : Array Value) (hw : Hw a0 Z) (o a y : Addr) (e0 : Value) (h0 : Heap) (n0 : Nat) (Z0 : n0 ≤ h0.size) (E_o : Exa Z h0 o "com/example/deathwatch/deathwatch/AppendOnlyList") (g_o : n0 ≤ o) (g_a : n0 ≤ a) (hne : o ≠ a) (F_e : Fld Z h0 o "com/example/deathwatch/deathwatch/AppendOnlyList" "elements" "[Ljava/lang/Object;" (.ref a)) (F_s : Fld Z h0 o "com/example/deathwatch/deathwatch/AppendOnlyList" "size" "I" (.int 1)) (V_a : Av Z h0 a (.object "java/lang/Object") [e0, .null, .null, .null, .null, .null, .null, .null, .null, .null, .null, .null, .null, .null, .null, .null]) (O_a : OvA Z h0 a "java/lang/Object") (I_y : Ins Z h0 y "java/lang/Object" true) :
    Met l Z (⟨"com/example/deathwatch/deathwatch/AppendOnlyList", "add", "(Ljava/lang/Object;)V"⟩ : MethodName) prog_1_method_2_code 2 none [] ({ frames := 0, cells := 0, slots := 0, locals := 0 } : Room) #[(.ref o), (.ref y)] h0 n0 (Ret0 (fun h => Keep h0 h [o, a] ∧ Exa Z h o "com/example/deathwatch/deathwatch/AppendOnlyList" ∧ Fld Z h o "com/example/deathwatch/deathwatch/AppendOnlyList" "elements" "[Ljava/lang/Object;" (.ref a) ∧ Fld Z h o "com/example/deathwatch/deathwatch/AppendOnlyList" "size" "I" (.int 2) ∧ Av Z h a (.object "java/lang/Object") [e0, (.ref y), .null, .null, .null, .null, .null, .null, .null, .null, .null, .null, .null, .null, .null, .null] ∧ OvA Z h a "java/lang/Object")) := by
  refine Met.intro pn6 (own := "com/example/deathwatch/deathwatch/AppendOnlyList") rfl (nm := "add") rfl (fun m => ef6 m o y) ?_
  intro p e s m below meth c C
  refine s_aloadN C d6_0 (pc' := 1) rfl rfl rfl ?_
  refine s_getF C d6_1 (pc' := 4) rfl (w25 hw) F_s ?_
  refine s_aloadN C d6_4 (pc' := 5) rfl rfl rfl ?_
  refine s_getF C d6_5 (pc' := 8) rfl (w18 hw) F_e ?_
  refine s_length C d6_8 (pc' := 9) rfl V_a (16 : Int32) rfl ?_
  refine s_icmp_ne C d6_9 (pc' := 12) rfl (pcY := 29) rfl (fun c1 => ?_) (fun hc => by exfalso; revert hc; decide)
  refine s_aloadN C d6_29 (pc' := 30) rfl rfl rfl ?_
  refine s_getF C d6_30 (pc' := 33) rfl (w18 hw) F_e ?_
  refine s_aloadN C d6_33 (pc' := 34) rfl rfl rfl ?_
  refine s_getF C d6_34 (pc' := 37) rfl (w25 hw) F_s ?_
  refine s_aloadN C d6_37 (pc' := 38) rfl rfl rfl ?_
  refine s_aastore C rfl d6_38 (pc' := 39) rfl V_a (O_a.sto I_y) rfl 1 (by decide) (Nat.le_of_ble_eq_true rfl) g_a [e0, (.ref y), .null, .null, .null, .null, .null, .null, .null, .null, .null, .null, .null, .null, .null, .null] rfl (fun h2 W2 A2 => ?_)
  have sz3 : n0 ≤ h2.size := (Nat.le_trans Z0 (Nat.le_of_eq W2.size.symm))
  have Kp4 : Keep h0 h2 [o, a] := (Keep.refl h0 [o, a]).wr W2 (Or.inl (List.mem_of_getElem? (i := 1) rfl))
  refine s_aloadN C d6_39 (pc' := 40) rfl rfl rfl ?_
  refine s_dup C d6_40 (pc' := 41) rfl rfl ?_
  have Fx5 := (F_s.other W2 (Or.inl hne))
  refine s_getF C d6_41 (pc' := 44) rfl (w25 hw) Fx5 ?_
  refine s_iconst C d6_44 (pc' := 45) rfl (1 : Int32) rfl ?_
  refine s_iadd C d6_45 (pc' := 46) rfl ?_
  refine s_foldI C (y := (2 : Int32)) (by decide) ?_
  have Ex6 := (E_o.wr W2)
  refine s_putF C d6_46 (pc' := 49) rfl (w25 hw) Fx5 Ex6 (Or.inl (w26 hw)) (w8 hw) (ty := .int) (by decide) rfl rfl g_o (fun h7 W7 => ?_)
  have F7 := Fx5.same W7
  have sz8 : n0 ≤ h7.size := (Nat.le_trans sz3 (Nat.le_of_eq W7.size.symm))
  have Kp9 : Keep h0 h7 [o, a] := Kp4.wr W7 (Or.inl (List.mem_of_getElem? (i := 0) rfl))
  have Ex10 := (Ex6.wr W7)
  have Fx11 := ((F_e.other W2 (Or.inl hne)).other W7 (Or.inr (slot_ne (Or.inl (w19 hw)) (Or.inl (w26 hw)) (by decide) (t := (.array (.object "java/lang/Object"))) (t' := .int) (by decide) (by decide))))
  have Vx12 := (A2.other W7 (Ne.symm hne))
  have Ox13 := ((O_a.keep (Keep.of_wr W2)).keep (Keep.of_wr W7))
  exact s_ret0 C d6_49 (by decide) (by decide) ⟨Kp9, Ex10, Fx11, F7, Vx12, Ox13⟩
set_option maxRecDepth 65536 in
set_option maxHeartbeats 40000000 in
theorem c_add2 (l : Launch) (Z : State) (a0 : Array Value) (hw : Hw a0 Z) (o a y : Addr) (e0 e1 : Value) (h0 : Heap) (n0 : Nat) (Z0 : n0 ≤ h0.size) (E_o : Exa Z h0 o "com/example/deathwatch/deathwatch/AppendOnlyList") (g_o : n0 ≤ o) (g_a : n0 ≤ a) (hne : o ≠ a) (F_e : Fld Z h0 o "com/example/deathwatch/deathwatch/AppendOnlyList" "elements" "[Ljava/lang/Object;" (.ref a)) (F_s : Fld Z h0 o "com/example/deathwatch/deathwatch/AppendOnlyList" "size" "I" (.int 2)) (V_a : Av Z h0 a (.object "java/lang/Object") [e0, e1, .null, .null, .null, .null, .null, .null, .null, .null, .null, .null, .null, .null, .null, .null]) (O_a : OvA Z h0 a "java/lang/Object") (I_y : Ins Z h0 y "java/lang/Object" true) :
    Met l Z (⟨"com/example/deathwatch/deathwatch/AppendOnlyList", "add", "(Ljava/lang/Object;)V"⟩ : MethodName) prog_1_method_2_code 2 none [] ({ frames := 0, cells := 0, slots := 0, locals := 0 } : Room) #[(.ref o), (.ref y)] h0 n0 (Ret0 (fun h => Keep h0 h [o, a] ∧ Exa Z h o "com/example/deathwatch/deathwatch/AppendOnlyList" ∧ Fld Z h o "com/example/deathwatch/deathwatch/AppendOnlyList" "elements" "[Ljava/lang/Object;" (.ref a) ∧ Fld Z h o "com/example/deathwatch/deathwatch/AppendOnlyList" "size" "I" (.int 3) ∧ Av Z h a (.object "java/lang/Object") [e0, e1, (.ref y), .null, .null, .null, .null, .null, .null, .null, .null, .null, .null, .null, .null, .null] ∧ OvA Z h a "java/lang/Object")) := by
  refine Met.intro pn6 (own := "com/example/deathwatch/deathwatch/AppendOnlyList") rfl (nm := "add") rfl (fun m => ef6 m o y) ?_
  intro p e s m below meth c C
  refine s_aloadN C d6_0 (pc' := 1) rfl rfl rfl ?_
  refine s_getF C d6_1 (pc' := 4) rfl (w25 hw) F_s ?_
  refine s_aloadN C d6_4 (pc' := 5) rfl rfl rfl ?_
  refine s_getF C d6_5 (pc' := 8) rfl (w18 hw) F_e ?_
  refine s_length C d6_8 (pc' := 9) rfl V_a (16 : Int32) rfl ?_
  refine s_icmp_ne C d6_9 (pc' := 12) rfl (pcY := 29) rfl (fun c1 => ?_) (fun hc => by exfalso; revert hc; decide)
  refine s_aloadN C d6_29 (pc' := 30) rfl rfl rfl ?_
  refine s_getF C d6_30 (pc' := 33) rfl (w18 hw) F_e ?_
  refine s_aloadN C d6_33 (pc' := 34) rfl rfl rfl ?_
  refine s_getF C d6_34 (pc' := 37) rfl (w25 hw) F_s ?_
  refine s_aloadN C d6_37 (pc' := 38) rfl rfl rfl ?_
  refine s_aastore C rfl d6_38 (pc' := 39) rfl V_a (O_a.sto I_y) rfl 2 (by decide) (Nat.le_of_ble_eq_true rfl) g_a [e0, e1, (.ref y), .null, .null, .null, .null, .null, .null, .null, .null, .null, .null, .null, .null, .null] rfl (fun h2 W2 A2 => ?_)
  have sz3 : n0 ≤ h2.size := (Nat.le_trans Z0 (Nat.le_of_eq W2.size.symm))
  have Kp4 : Keep h0 h2 [o, a] := (Keep.refl h0 [o, a]).wr W2 (Or.inl (List.mem_of_getElem? (i := 1) rfl))
  refine s_aloadN C d6_39 (pc' := 40) rfl rfl rfl ?_
  refine s_dup C d6_40 (pc' := 41) rfl rfl ?_
  have Fx5 := (F_s.other W2 (Or.inl hne))
  refine s_getF C d6_41 (pc' := 44) rfl (w25 hw) Fx5 ?_
  refine s_iconst C d6_44 (pc' := 45) rfl (1 : Int32) rfl ?_
  refine s_iadd C d6_45 (pc' := 46) rfl ?_
  refine s_foldI C (y := (3 : Int32)) (by decide) ?_
  have Ex6 := (E_o.wr W2)
  refine s_putF C d6_46 (pc' := 49) rfl (w25 hw) Fx5 Ex6 (Or.inl (w26 hw)) (w8 hw) (ty := .int) (by decide) rfl rfl g_o (fun h7 W7 => ?_)
  have F7 := Fx5.same W7
  have sz8 : n0 ≤ h7.size := (Nat.le_trans sz3 (Nat.le_of_eq W7.size.symm))
  have Kp9 : Keep h0 h7 [o, a] := Kp4.wr W7 (Or.inl (List.mem_of_getElem? (i := 0) rfl))
  have Ex10 := (Ex6.wr W7)
  have Fx11 := ((F_e.other W2 (Or.inl hne)).other W7 (Or.inr (slot_ne (Or.inl (w19 hw)) (Or.inl (w26 hw)) (by decide) (t := (.array (.object "java/lang/Object"))) (t' := .int) (by decide) (by decide))))
  have Vx12 := (A2.other W7 (Ne.symm hne))
  have Ox13 := ((O_a.keep (Keep.of_wr W2)).keep (Keep.of_wr W7))
  exact s_ret0 C d6_49 (by decide) (by decide) ⟨Kp9, Ex10, Fx11, F7, Vx12, Ox13⟩
set_option maxRecDepth 65536 in
set_option maxHeartbeats 40000000 in
theorem c_add0n (l : Launch) (Z : State) (a0 : Array Value) (hw : Hw a0 Z) (o a : Addr) (h0 : Heap) (n0 : Nat) (Z0 : n0 ≤ h0.size) (E_o : Exa Z h0 o "com/example/deathwatch/deathwatch/AppendOnlyList") (g_o : n0 ≤ o) (g_a : n0 ≤ a) (hne : o ≠ a) (F_e : Fld Z h0 o "com/example/deathwatch/deathwatch/AppendOnlyList" "elements" "[Ljava/lang/Object;" (.ref a)) (F_s : Fld Z h0 o "com/example/deathwatch/deathwatch/AppendOnlyList" "size" "I" (.int 0)) (V_a : Av Z h0 a (.object "java/lang/Object") [.null, .null, .null, .null, .null, .null, .null, .null, .null, .null, .null, .null, .null, .null, .null, .null]) (O_a : OvA Z h0 a "java/lang/Object") :
    Met l Z (⟨"com/example/deathwatch/deathwatch/AppendOnlyList", "add", "(Ljava/lang/Object;)V"⟩ : MethodName) prog_1_method_2_code 2 none [] ({ frames := 0, cells := 0, slots := 0, locals := 0 } : Room) #[(.ref o), .null] h0 n0 (Ret0 (fun h => Keep h0 h [o, a] ∧ Exa Z h o "com/example/deathwatch/deathwatch/AppendOnlyList" ∧ Fld Z h o "com/example/deathwatch/deathwatch/AppendOnlyList" "elements" "[Ljava/lang/Object;" (.ref a) ∧ Fld Z h o "com/example/deathwatch/deathwatch/AppendOnlyList" "size" "I" (.int 1) ∧ Av Z h a (.object "java/lang/Object") [.null, .null, .null, .null, .null, .null, .null, .null, .null, .null, .null, .null, .null, .null, .null, .null] ∧ OvA Z h a "java/lang/Object")) := by
  refine Met.intro pn6 (own := "com/example/deathwatch/deathwatch/AppendOnlyList") rfl (nm := "add") rfl (fun m => ef6n1 m o) ?_
  intro p e s m below meth c C
  refine s_aloadN C d6_0 (pc' := 1) rfl rfl rfl ?_
  refine s_getF C d6_1 (pc' := 4) rfl (w25 hw) F_s ?_
  refine s_aloadN C d6_4 (pc' := 5) rfl rfl rfl ?_
  refine s_getF C d6_5 (pc' := 8) rfl (w18 hw) F_e ?_
  refine s_length C d6_8 (pc' := 9) rfl V_a (16 : Int32) rfl ?_
  refine s_icmp_ne C d6_9 (pc' := 12) rfl (pcY := 29) rfl (fun c1 => ?_) (fun hc => by exfalso; revert hc; decide)
  refine s_aloadN C d6_29 (pc' := 30) rfl rfl rfl ?_
  refine s_getF C d6_30 (pc' := 33) rfl (w18 hw) F_e ?_
  refine s_aloadN C d6_33 (pc' := 34) rfl rfl rfl ?_
  refine s_getF C d6_34 (pc' := 37) rfl (w25 hw) F_s ?_
  refine s_aloadN C d6_37 (pc' := 38) rfl rfl rfl ?_
  refine s_aastore C rfl d6_38 (pc' := 39) rfl V_a (Or.inl rfl) rfl 0 (by decide) (Nat.le_of_ble_eq_true rfl) g_a [.null, .null, .null, .null, .null, .null, .null, .null, .null, .null, .null, .null, .null, .null, .null, .null] rfl (fun h2 W2 A2 => ?_)
  have sz3 : n0 ≤ h2.size := (Nat.le_trans Z0 (Nat.le_of_eq W2.size.symm))
  have Kp4 : Keep h0 h2 [o, a] := (Keep.refl h0 [o, a]).wr W2 (Or.inl (List.mem_of_getElem? (i := 1) rfl))
  refine s_aloadN C d6_39 (pc' := 40) rfl rfl rfl ?_
  refine s_dup C d6_40 (pc' := 41) rfl rfl ?_
  have Fx5 := (F_s.other W2 (Or.inl hne))
  refine s_getF C d6_41 (pc' := 44) rfl (w25 hw) Fx5 ?_
  refine s_iconst C d6_44 (pc' := 45) rfl (1 : Int32) rfl ?_
  refine s_iadd C d6_45 (pc' := 46) rfl ?_
  refine s_foldI C (y := (1 : Int32)) (by decide) ?_
  have Ex6 := (E_o.wr W2)
  refine s_putF C d6_46 (pc' := 49) rfl (w25 hw) Fx5 Ex6 (Or.inl (w26 hw)) (w8 hw) (ty := .int) (by decide) rfl rfl g_o (fun h7 W7 => ?_)
  have F7 := Fx5.same W7
  have sz8 : n0 ≤ h7.size := (Nat.le_trans sz3 (Nat.le_of_eq W7.size.symm))
  have Kp9 : Keep h0 h7 [o, a] := Kp4.wr W7 (Or.inl (List.mem_of_getElem? (i := 0) rfl))
  have Ex10 := (Ex6.wr W7)
  have Fx11 := ((F_e.other W2 (Or.inl hne)).other W7 (Or.inr (slot_ne (Or.inl (w19 hw)) (Or.inl (w26 hw)) (by decide) (t := (.array (.object "java/lang/Object"))) (t' := .int) (by decide) (by decide))))
  have Vx12 := (A2.other W7 (Ne.symm hne))
  have Ox13 := ((O_a.keep (Keep.of_wr W2)).keep (Keep.of_wr W7))
  exact s_ret0 C d6_49 (by decide) (by decide) ⟨Kp9, Ex10, Fx11, F7, Vx12, Ox13⟩

theorem own_k (x : Int32) : (x &&& 3) = 0 ∨ (x &&& 3) = 1 ∨ (x &&& 3) = 2 ∨ (x &&& 3) = 3 := by
  have e : (x &&& 3).toInt = x.toInt % (2 ^ 2 : Nat) := c_mask x 3 2 (by decide) (by decide)
  simp only [← Int32.toInt_inj, show (0 : Int32).toInt = 0 from by decide, show (1 : Int32).toInt = 1 from by decide, show (2 : Int32).toInt = 2 from by decide, show (3 : Int32).toInt = 3 from by decide]
  omega

theorem st_ref {args : Array Value} {s : State} {C f d : String} {ty : FieldType} (g : (Jvm.Cond.arrayOf (Jvm.Term.static C f d) ty).value args s none s [] = some true) (hi : (Jvm.Cond.initializedFor C f d).before args s = true ∨ ((Jvm.Cond.initialized C).before args s = true ∧ (Jvm.Cond.laysStatic C f d).before args s = true)) : ∃ b cl, Sta s s.heap C f d (.ref b) ∧ Arr s s.heap b cl ty ∧ ∀ idx, (Jvm.Term.static C f d).eval args s none idx s = some (.ref b) := by
  obtain ⟨b, eb⟩ := arr_v g
  obtain ⟨cl, A⟩ := Arr.start eb g
  exact ⟨b, cl, Sta.start eb hi, A, fun idx => by simpa [Jvm.Term.eval] using eb⟩
theorem st_len {args : Array Value} {s : State} {t : Term} {ty : FieldType} {b : Addr} {cl : Cell} {n : Int32} (A : Arr s s.heap b cl ty) (eb : ∀ idx, t.eval args s none idx s = some (.ref b)) (g : (Jvm.Cond.eq (Jvm.Term.length t) (Jvm.Term.int n)).value args s none s [] = some true) : cl.slots.size < 2 ^ 31 ∧ cl.slots.size.toInt32 = n := by
  have e := eqv_i (Term.int_eval n) g
  obtain ⟨b', c', h1, h2, h3, h4⟩ := Jvm.Lib.length_spec e
  obtain rfl : b = b' := Value.ref.inj (Option.some.inj ((eb []).symm.trans h1))
  obtain rfl : cl = c' := Option.some.inj ((A.fin (Vm.Alike.refl _)).symm.trans h2)
  exact ⟨h3, (Value.int.inj h4).symm⟩
theorem st_size {cl : Cell} {n : Int32} (h : cl.slots.size < 2 ^ 31 ∧ cl.slots.size.toInt32 = n) : cl.slots.size = n.toNatClampNeg := by rw [← h.2]; exact (len32 h.1).1.symm
theorem st_el {args : Array Value} {s : State} {t : Term} {ty : FieldType} {b : Addr} {cl : Cell} {j v : Int32} (A : Arr s s.heap b cl ty) (eb : ∀ idx, t.eval args s none idx s = some (.ref b)) (hj : ¬ j < 0) (g : (Jvm.Cond.eq (Jvm.Term.elem t (Jvm.Term.int j)) (Jvm.Term.int v)).value args s none s [] = some true) : cl.slots[j.toNatClampNeg]? = some (.int v) := by
  have e := eqv_i (Term.int_eval v) g
  rw [elem_f (eb []) (Term.int_eval j) (A.fin (Vm.Alike.refl _)) hj] at e
  exact e
theorem st_elL {args : Array Value} {s : State} {t : Term} {ty : FieldType} {b : Addr} {cl : Cell} {j : Int32} {v : Int64} (A : Arr s s.heap b cl ty) (eb : ∀ idx, t.eval args s none idx s = some (.ref b)) (hj : ¬ j < 0) (g : (Jvm.Cond.eq (Jvm.Term.elem t (Jvm.Term.int j)) (Jvm.Term.long v)).value args s none s [] = some true) : cl.slots[j.toNatClampNeg]? = some (.long v) := by
  have e := eqv_l (y := v) (by simp [Jvm.Term.eval]) g
  rw [elem_f (eb []) (Term.int_eval j) (A.fin (Vm.Alike.refl _)) hj] at e
  exact e
theorem st_elR {args : Array Value} {s : State} {t t2 : Term} {ty : FieldType} {b y : Addr} {cl : Cell} {j : Int32} (A : Arr s s.heap b cl ty) (eb : ∀ idx, t.eval args s none idx s = some (.ref b)) (hj : ¬ j < 0) (e2 : t2.eval args s none [] s = some (.ref y)) (g : (Jvm.Cond.eq (Jvm.Term.elem t (Jvm.Term.int j)) t2).value args s none s [] = some true) : cl.slots[j.toNatClampNeg]? = some (.ref y) := by
  obtain ⟨x, y', h1, h2, -, k2⟩ := cmp_v (Or.inl g)
  obtain rfl : Value.ref y = y' := Option.some.inj (e2.symm.trans h2)
  have q := gotT (eq_R h1 h2 k2.2 rfl) g
  subst q
  rw [elem_f (eb []) (Term.int_eval j) (A.fin (Vm.Alike.refl _)) hj] at h1
  exact h1
theorem av_of {Z : State} {h : Heap} {b : Addr} {cl : Cell} {ty : FieldType} {vs : List Value} (A : Arr Z h b cl ty) (hs : cl.slots.size = vs.length) (hl : vs.length < 2 ^ 31) (he : ∀ i, i < vs.length → cl.slots[i]? = vs[i]?) (hf : ∀ v ∈ vs, fits ty v = true) : Av Z h b ty vs := by
  refine ⟨cl, A, ?_, hl, hf⟩
  apply Array.ext_getElem?
  intro i
  by_cases hi : i < vs.length
  · rw [he i hi]; simp
  · rw [Array.getElem?_eq_none (by omega), Array.getElem?_eq_none (by simpa using hi)]

theorem own_rest {args : Array Value} {s : State} (hw : Hw args s) (hsets : ∀ c ∈ jdkStatics_1, c.before args s = true) : ∃ ca cl, Sta s s.heap "java/lang/Integer$IntegerCache" "high" "I" (.int 127) ∧ Sta s s.heap "java/lang/Integer$IntegerCache" "cache" "[Ljava/lang/Integer;" (.ref ca) ∧ Bxs s ca cl "java/lang/Integer" "I" 256 (fun j => .int (j - 128)) := by
  have l0 := hsets _ (List.mem_of_getElem? (i := 0) rfl)
  have i0 := hsets _ (List.mem_of_getElem? (i := 1) rfl)
  have l1 := hsets _ (List.mem_of_getElem? (i := 2) rfl)
  have v0 := Cond.before_iff.mp (hsets _ (List.mem_of_getElem? (i := 3) rfl))
  have n1 := Cond.before_iff.mp (hsets _ (List.mem_of_getElem? (i := 4) rfl))
  have n2 := Cond.before_iff.mp (hsets _ (List.mem_of_getElem? (i := 6) rfl))
  have n3 := Cond.before_iff.mp (hsets _ (List.mem_of_getElem? (i := 7) rfl))
  have e0 := eqv_i (Term.int_eval 127) v0
  obtain ⟨ca, cl, S, A, eb⟩ := st_ref n1 (Or.inr ⟨(w5 hw), l1⟩)
  have hl := st_len A eb n2
  refine ⟨ca, cl, Sta.start e0 (Or.inl i0), S, Bxs.start eb A hl.1 hl.2 (by decide) n3 (fun X j hj g => ?_)⟩
  exact eqv_i (Term.sub_int (idx_at hj) (Term.int_eval 128)) g

set_option maxRecDepth 65536 in
set_option maxHeartbeats 40000000 in
theorem law (l : Launch) (Z : State) (a0 : Array Value) (hw : Hw a0 Z) (x1 x2 x3 : Int32) (ca : Addr) (cl : Cell) (h0 : Heap) (n0 : Nat) (Z0 : n0 ≤ h0.size) (O0 : Old Z n0 h0) (S_hi : Sta Z Z.heap "java/lang/Integer$IntegerCache" "high" "I" (.int 127)) (S_ca : Sta Z Z.heap "java/lang/Integer$IntegerCache" "cache" "[Ljava/lang/Integer;" (.ref ca)) (B : Bxs Z ca cl "java/lang/Integer" "I" 256 (fun j => .int (j - 128))) :
    Met l Z x code maxLocals ret tables_1 room_1 #[(.int x1), (.int x2), (.int x3)] h0 n0 (RetI (fun z h => z = 1)) := by
  refine Met.intro pn0 (own := "com/example/deathwatch/deathwatch/AppendOnlyListIsEmptyPinLaw") rfl (nm := "law") rfl (fun m => ef0 m x1 x2 x3) ?_
  intro p e s m below meth c C
  refine s_iloadN C at_0 (pc' := 1) rfl rfl ?_
  refine s_iconst C at_1 (pc' := 2) rfl (3 : Int32) rfl ?_
  refine s_iand C at_2 (pc' := 3) rfl ?_
  obtain ⟨kk, hkk⟩ : ∃ y, y = (x1 &&& (3 : Int32)) := ⟨_, rfl⟩
  rw [← hkk]
  refine s_istoreNP C at_3 (pc' := 4) rfl #[.val (.int x1), .val (.int x2), .val (.int x3), .val (.int kk), .unset, .unset, .unset, .unset, .unset, .unset, .unset] rfl ?_
  refine s_iloadN C at_4 (pc' := 5) rfl rfl ?_
  refine s_iconst C at_5 (pc' := 6) rfl (1 : Int32) rfl ?_
  refine s_iand C at_6 (pc' := 7) rfl ?_
  refine s_if_eq C at_7 (pc' := 10) rfl (pcY := 14) rfl (fun c1 => ?_) (fun c1 => ?_)
  · skip
    refine s_iconst C at_14 (pc' := 15) rfl (0 : Int32) rfl ?_
    refine s_istoreP C at_15 (pc' := 17) rfl #[.val (.int x1), .val (.int x2), .val (.int x3), .val (.int kk), .val (.int (0 : Int32)), .unset, .unset, .unset, .unset, .unset, .unset] rfl ?_
    refine s_iload C at_17 (pc' := 19) rfl rfl ?_
    refine s_if_eq C at_19 (pc' := 22) rfl (pcY := 26) rfl (fun c2 => ?_) (fun hc => by exfalso; revert hc; decide)
    refine s_iloadN C at_26 (pc' := 27) rfl rfl ?_
    refine s_callSA C at_27 (pc' := 30) rfl (w0 hw) (w1 hw) (w2 hw) (w3 hw) (by decide) [(.int x2)] [] pd3 rfl rfl (c_vof l Z a0 hw x2 ca cl h0 n0 Z0 O0 S_hi S_ca B) rfl (W := 0) rfl (by decide) (by decide) (k' := 1) rfl (by decide) (n' := 1) rfl (by decide) (fun _ h3 q3 => ?_)
    obtain ⟨r3, rfl, K3, X3⟩ := q3
    have sz4 : n0 ≤ h3.size := (Nat.le_trans Z0 K3.1)
    have Od5 : Old Z n0 h3 := O0.keep K3 all0
    refine s_astore C at_30 (pc' := 32) rfl rfl #[.val (.int x1), .val (.int x2), .val (.int x3), .val (.int kk), .val (.int (0 : Int32)), .val (.ref r3), .unset, .unset, .unset, .unset, .unset] rfl ?_
    refine s_iloadN C at_32 (pc' := 33) rfl rfl ?_
    refine s_callSA C at_33 (pc' := 36) rfl (w0 hw) (w1 hw) (w2 hw) (w3 hw) (by decide) [(.int x3)] [] pd3 rfl rfl (c_vof l Z a0 hw x3 ca cl h3 n0 sz4 Od5 S_hi S_ca B) rfl (W := 0) rfl (by decide) (by decide) (k' := 2) rfl (by decide) (n' := 2) rfl (by decide) (fun _ h6 q6 => ?_)
    obtain ⟨r6, rfl, K6, X6⟩ := q6
    have sz7 : n0 ≤ h6.size := (Nat.le_trans sz4 K6.1)
    have Od8 : Old Z n0 h6 := Od5.keep K6 all0
    refine s_astore C at_36 (pc' := 38) rfl rfl #[.val (.int x1), .val (.int x2), .val (.int x3), .val (.int kk), .val (.int (0 : Int32)), .val (.ref r3), .val (.ref r6), .unset, .unset, .unset, .unset] rfl ?_
    refine s_iloadN C at_38 (pc' := 39) rfl rfl ?_
    refine s_iloadN C at_39 (pc' := 40) rfl rfl ?_
    refine s_ixor C at_40 (pc' := 41) rfl ?_
    refine s_callSA C at_41 (pc' := 44) rfl (w0 hw) (w1 hw) (w2 hw) (w3 hw) (by decide) [(.int (x2 ^^^ x3))] [] pd3 rfl rfl (c_vof l Z a0 hw (x2 ^^^ x3) ca cl h6 n0 sz7 Od8 S_hi S_ca B) rfl (W := 0) rfl (by decide) (by decide) (k' := 3) rfl (by decide) (n' := 3) rfl (by decide) (fun _ h9 q9 => ?_)
    obtain ⟨r9, rfl, K9, X9⟩ := q9
    have sz10 : n0 ≤ h9.size := (Nat.le_trans sz7 K9.1)
    have Od11 : Old Z n0 h9 := Od8.keep K9 all0
    refine s_astore C at_44 (pc' := 46) rfl rfl #[.val (.int x1), .val (.int x2), .val (.int x3), .val (.int kk), .val (.int (0 : Int32)), .val (.ref r3), .val (.ref r6), .val (.ref r9), .unset, .unset, .unset] rfl ?_
    refine s_new C at_46 (pc' := 49) rfl (w7 hw) (w8 hw) (w9 hw) (k' := 4) rfl (by decide) (n' := 5) rfl (by decide) (fun h12 a12 E12 g12 A12 D12 => ?_)
    have Ex13 := ((X3.keep K6).keep K9)
    have ne14 : r3 ≠ a12 := Nat.ne_of_lt (by rw [g12]; exact Ex13.lt)
    have Ex15 := (X6.keep K9)
    have ne16 : r6 ≠ a12 := Nat.ne_of_lt (by rw [g12]; exact Ex15.lt)
    have ne17 : r9 ≠ a12 := Nat.ne_of_lt (by rw [g12]; exact X9.lt)
    have gn18 : n0 ≤ a12 := by rw [g12]; exact sz10
    have sz19 : n0 ≤ h12.size := (Nat.le_trans sz10 E12.1)
    have Od20 : Old Z n0 h12 := Od11.ext E12
    have F12_elements : Fld Z h12 a12 "com/example/deathwatch/deathwatch/AppendOnlyList" "elements" "[Ljava/lang/Object;" .null := D12 (Or.inl (w19 hw)) (ty := (.array (.object "java/lang/Object"))) (by decide)
    have F12_size : Fld Z h12 a12 "com/example/deathwatch/deathwatch/AppendOnlyList" "size" "I" (.int (0 : Int32)) := D12 (Or.inl (w26 hw)) (ty := .int) (by decide)
    refine s_dup C at_49 (pc' := 50) rfl rfl ?_
    refine s_callI C at_50 (pc' := 53) rfl (w10 hw) rfl (w11 hw) (w9 hw) (w12 hw) (by decide) [] [(.ref a12)] pd1 rfl rfl (c_list l Z a0 hw a12 h12 n0 sz19 A12 gn18 F12_elements F12_size) rfl (W := 1) rfl (by decide) (by decide) (k' := 5) rfl (by decide) (n' := 21) rfl (by decide) (fun h21 q21 => ?_)
    obtain ⟨ar21, K21, E21, Fe21, Fs21, V21, O21, s21⟩ := q21
    have gn21 : n0 ≤ ar21 := Nat.le_trans sz19 s21
    have ne21 : a12 ≠ ar21 := Nat.ne_of_lt (Nat.lt_of_lt_of_le A12.lt s21)
    have sz22 : n0 ≤ h21.size := (Nat.le_trans sz19 K21.1)
    have Od23 : Old Z n0 h21 := Od20.keep K21 (allS gn18 all0)
    refine s_astore C at_53 (pc' := 55) rfl rfl #[.val (.int x1), .val (.int x2), .val (.int x3), .val (.int kk), .val (.int (0 : Int32)), .val (.ref r3), .val (.ref r6), .val (.ref r9), .val (.ref a12), .unset, .unset] rfl ?_
    refine s_aload C at_55 (pc' := 57) rfl rfl rfl ?_
    refine s_callVI C at_57 (pc' := 60) rfl (w20 hw) (w21 hw) (notFace_of_selects (args := #[]) (mvT C.2.1 (w23 hw))) (w23 hw) (w22 hw) (w9 hw) (w24 hw) (by decide) E21 [] [] pd2 rfl rfl (c_emp l Z a0 hw a12 (0 : Int32) h21 n0 sz22 E21 Fs21) rfl (W := 0) rfl (by decide) (by decide) (k' := 5) rfl (by decide) (n' := 21) rfl (by decide) (fun _ _ q24 => ?_)
    obtain ⟨rfl, rfl⟩ := q24
    refine s_foldI C (y := (1 : Int32)) (by decide) ?_
    refine s_istoreP C at_60 (pc' := 62) rfl #[.val (.int x1), .val (.int x2), .val (.int x3), .val (.int kk), .val (.int (0 : Int32)), .val (.ref r3), .val (.ref r6), .val (.ref r9), .val (.ref a12), .val (.int (1 : Int32)), .unset] rfl ?_
    rcases own_k x1 with q | q | q | q
    · obtain rfl : kk = 0 := hkk.trans q
      refine s_iloadN C at_62 (pc' := 63) rfl rfl ?_
      refine s_iconst C at_63 (pc' := 64) rfl (1 : Int32) rfl ?_
      refine s_icmp_lt C at_64 (pc' := 67) rfl (pcY := 94) rfl (fun c25 => ?_) (fun hc => by exfalso; revert hc; decide)
      refine s_iloadN C at_94 (pc' := 95) rfl rfl ?_
      refine s_iconst C at_95 (pc' := 96) rfl (2 : Int32) rfl ?_
      refine s_icmp_lt C at_96 (pc' := 99) rfl (pcY := 126) rfl (fun c26 => ?_) (fun hc => by exfalso; revert hc; decide)
      refine s_iloadN C at_126 (pc' := 127) rfl rfl ?_
      refine s_iconst C at_127 (pc' := 128) rfl (3 : Int32) rfl ?_
      refine s_icmp_lt C at_128 (pc' := 131) rfl (pcY := 158) rfl (fun c27 => ?_) (fun hc => by exfalso; revert hc; decide)
      refine s_aload C at_158 (pc' := 160) rfl rfl rfl ?_
      refine s_callVI C at_160 (pc' := 163) rfl (w20 hw) (w21 hw) (notFace_of_selects (args := #[]) (mvT C.2.1 (w23 hw))) (w23 hw) (w22 hw) (w9 hw) (w24 hw) (by decide) E21 [] [] pd2 rfl rfl (c_emp l Z a0 hw a12 (0 : Int32) h21 n0 sz22 E21 Fs21) rfl (W := 0) rfl (by decide) (by decide) (k' := 5) rfl (by decide) (n' := 21) rfl (by decide) (fun _ _ q28 => ?_)
      obtain ⟨rfl, rfl⟩ := q28
      refine s_foldI C (y := (1 : Int32)) (by decide) ?_
      refine s_istoreP C at_163 (pc' := 165) rfl #[.val (.int x1), .val (.int x2), .val (.int x3), .val (.int (0 : Int32)), .val (.int (0 : Int32)), .val (.ref r3), .val (.ref r6), .val (.ref r9), .val (.ref a12), .val (.int (1 : Int32)), .val (.int (1 : Int32))] rfl ?_
      refine s_iload C at_165 (pc' := 167) rfl rfl ?_
      refine s_if_eq C at_167 (pc' := 170) rfl (pcY := 206) rfl (fun hc => by exfalso; revert hc; decide) (fun c29 => ?_)
      refine s_iload C at_170 (pc' := 172) rfl rfl ?_
      refine s_iloadN C at_172 (pc' := 173) rfl rfl ?_
      refine s_if_ne C at_173 (pc' := 176) rfl (pcY := 180) rfl (fun hc => by exfalso; revert hc; decide) (fun c30 => ?_)
      refine s_iconst C at_176 (pc' := 177) rfl (1 : Int32) rfl ?_
      refine s_goto C at_177 (pc' := 181) rfl ?_
      refine s_icmp_ne C at_181 (pc' := 184) rfl (pcY := 206) rfl (fun hc => by exfalso; revert hc; decide) (fun c31 => ?_)
      refine s_aload C at_184 (pc' := 186) rfl rfl rfl ?_
      refine s_callVI C at_186 (pc' := 189) rfl (w27 hw) (w28 hw) (notFace_of_selects (args := #[]) (mvT C.2.1 (w30 hw))) (w30 hw) (w29 hw) (w9 hw) (w31 hw) (by decide) E21 [] [] pd0 rfl rfl (c_siz l Z a0 hw a12 (0 : Int32) h21 n0 sz22 E21 Fs21) rfl (W := 0) rfl (by decide) (by decide) (k' := 5) rfl (by decide) (n' := 21) rfl (by decide) (fun _ _ q32 => ?_)
      obtain ⟨rfl, rfl⟩ := q32
      refine s_foldI C (y := (0 : Int32)) (by decide) ?_
      refine s_if_ne C at_189 (pc' := 192) rfl (pcY := 196) rfl (fun hc => by exfalso; revert hc; decide) (fun c33 => ?_)
      refine s_iconst C at_192 (pc' := 193) rfl (1 : Int32) rfl ?_
      refine s_goto C at_193 (pc' := 197) rfl ?_
      refine s_iload C at_197 (pc' := 199) rfl rfl ?_
      refine s_icmp_ne C at_199 (pc' := 202) rfl (pcY := 206) rfl (fun hc => by exfalso; revert hc; decide) (fun c34 => ?_)
      refine s_iconst C at_202 (pc' := 203) rfl (1 : Int32) rfl ?_
      refine s_goto C at_203 (pc' := 207) rfl ?_
      exact s_retN C (by simp) at_207 (by decide) (by decide) rfl
    · obtain rfl : kk = 1 := hkk.trans q
      refine s_iloadN C at_62 (pc' := 63) rfl rfl ?_
      refine s_iconst C at_63 (pc' := 64) rfl (1 : Int32) rfl ?_
      refine s_icmp_lt C at_64 (pc' := 67) rfl (pcY := 94) rfl (fun hc => by exfalso; revert hc; decide) (fun c35 => ?_)
      refine s_aload C at_67 (pc' := 69) rfl rfl rfl ?_
      refine s_aload C at_69 (pc' := 71) rfl rfl rfl ?_
      have Ex37 := ((Ex13.ext E12).keep K21)
      refine s_callV0 C at_71 (pc' := 74) rfl (w32 hw) (w33 hw) (notFace_of_selects (args := #[]) (mvT C.2.1 (w35 hw))) (w35 hw) (w34 hw) (w9 hw) (w36 hw) (by decide) E21 [(.ref r3)] [] pd5 rfl rfl (c_add0 l Z a0 hw a12 ar21 r3  h21 n0 sz22 E21 gn18 gn21 ne21 Fe21 Fs21 V21 O21 (Ins.of_exa Ex37 (w52 hw))) rfl (W := 0) rfl (by decide) (by decide) (k' := 5) rfl (by decide) (n' := 21) rfl (by decide) (fun h36 q36 => ?_)
      obtain ⟨K36, E36, Fe36, Fs36, V36, O36⟩ := q36
      have sz38 : n0 ≤ h36.size := (Nat.le_trans sz22 K36.1)
      have Od39 : Old Z n0 h36 := Od23.keep K36 (allS gn18 (allS gn21 all0))
      refine s_iload C at_74 (pc' := 76) rfl rfl ?_
      refine s_if_eq C at_76 (pc' := 79) rfl (pcY := 91) rfl (fun hc => by exfalso; revert hc; decide) (fun c40 => ?_)
      refine s_aload C at_79 (pc' := 81) rfl rfl rfl ?_
      refine s_callVI C at_81 (pc' := 84) rfl (w20 hw) (w21 hw) (notFace_of_selects (args := #[]) (mvT C.2.1 (w23 hw))) (w23 hw) (w22 hw) (w9 hw) (w24 hw) (by decide) E36 [] [] pd2 rfl rfl (c_emp l Z a0 hw a12 (1 : Int32) h36 n0 sz38 E36 Fs36) rfl (W := 0) rfl (by decide) (by decide) (k' := 5) rfl (by decide) (n' := 21) rfl (by decide) (fun _ _ q41 => ?_)
      obtain ⟨rfl, rfl⟩ := q41
      refine s_foldI C (y := (0 : Int32)) (by decide) ?_
      refine s_if_ne C at_84 (pc' := 87) rfl (pcY := 91) rfl (fun hc => by exfalso; revert hc; decide) (fun c42 => ?_)
      refine s_iconst C at_87 (pc' := 88) rfl (1 : Int32) rfl ?_
      refine s_goto C at_88 (pc' := 92) rfl ?_
      refine s_istoreP C at_92 (pc' := 94) rfl #[.val (.int x1), .val (.int x2), .val (.int x3), .val (.int (1 : Int32)), .val (.int (0 : Int32)), .val (.ref r3), .val (.ref r6), .val (.ref r9), .val (.ref a12), .val (.int (1 : Int32)), .unset] rfl ?_
      refine s_iloadN C at_94 (pc' := 95) rfl rfl ?_
      refine s_iconst C at_95 (pc' := 96) rfl (2 : Int32) rfl ?_
      refine s_icmp_lt C at_96 (pc' := 99) rfl (pcY := 126) rfl (fun c43 => ?_) (fun hc => by exfalso; revert hc; decide)
      refine s_iloadN C at_126 (pc' := 127) rfl rfl ?_
      refine s_iconst C at_127 (pc' := 128) rfl (3 : Int32) rfl ?_
      refine s_icmp_lt C at_128 (pc' := 131) rfl (pcY := 158) rfl (fun c44 => ?_) (fun hc => by exfalso; revert hc; decide)
      refine s_aload C at_158 (pc' := 160) rfl rfl rfl ?_
      refine s_callVI C at_160 (pc' := 163) rfl (w20 hw) (w21 hw) (notFace_of_selects (args := #[]) (mvT C.2.1 (w23 hw))) (w23 hw) (w22 hw) (w9 hw) (w24 hw) (by decide) E36 [] [] pd2 rfl rfl (c_emp l Z a0 hw a12 (1 : Int32) h36 n0 sz38 E36 Fs36) rfl (W := 0) rfl (by decide) (by decide) (k' := 5) rfl (by decide) (n' := 21) rfl (by decide) (fun _ _ q45 => ?_)
      obtain ⟨rfl, rfl⟩ := q45
      refine s_foldI C (y := (0 : Int32)) (by decide) ?_
      refine s_istoreP C at_163 (pc' := 165) rfl #[.val (.int x1), .val (.int x2), .val (.int x3), .val (.int (1 : Int32)), .val (.int (0 : Int32)), .val (.ref r3), .val (.ref r6), .val (.ref r9), .val (.ref a12), .val (.int (1 : Int32)), .val (.int (0 : Int32))] rfl ?_
      refine s_iload C at_165 (pc' := 167) rfl rfl ?_
      refine s_if_eq C at_167 (pc' := 170) rfl (pcY := 206) rfl (fun hc => by exfalso; revert hc; decide) (fun c46 => ?_)
      refine s_iload C at_170 (pc' := 172) rfl rfl ?_
      refine s_iloadN C at_172 (pc' := 173) rfl rfl ?_
      refine s_if_ne C at_173 (pc' := 176) rfl (pcY := 180) rfl (fun c47 => ?_) (fun hc => by exfalso; revert hc; decide)
      refine s_iconst C at_180 (pc' := 181) rfl (0 : Int32) rfl ?_
      refine s_icmp_ne C at_181 (pc' := 184) rfl (pcY := 206) rfl (fun hc => by exfalso; revert hc; decide) (fun c48 => ?_)
      refine s_aload C at_184 (pc' := 186) rfl rfl rfl ?_
      refine s_callVI C at_186 (pc' := 189) rfl (w27 hw) (w28 hw) (notFace_of_selects (args := #[]) (mvT C.2.1 (w30 hw))) (w30 hw) (w29 hw) (w9 hw) (w31 hw) (by decide) E36 [] [] pd0 rfl rfl (c_siz l Z a0 hw a12 (1 : Int32) h36 n0 sz38 E36 Fs36) rfl (W := 0) rfl (by decide) (by decide) (k' := 5) rfl (by decide) (n' := 21) rfl (by decide) (fun _ _ q49 => ?_)
      obtain ⟨rfl, rfl⟩ := q49
      refine s_foldI C (y := (1 : Int32)) (by decide) ?_
      refine s_if_ne C at_189 (pc' := 192) rfl (pcY := 196) rfl (fun c50 => ?_) (fun hc => by exfalso; revert hc; decide)
      refine s_iconst C at_196 (pc' := 197) rfl (0 : Int32) rfl ?_
      refine s_iload C at_197 (pc' := 199) rfl rfl ?_
      refine s_icmp_ne C at_199 (pc' := 202) rfl (pcY := 206) rfl (fun hc => by exfalso; revert hc; decide) (fun c51 => ?_)
      refine s_iconst C at_202 (pc' := 203) rfl (1 : Int32) rfl ?_
      refine s_goto C at_203 (pc' := 207) rfl ?_
      exact s_retN C (by simp) at_207 (by decide) (by decide) rfl
    · obtain rfl : kk = 2 := hkk.trans q
      refine s_iloadN C at_62 (pc' := 63) rfl rfl ?_
      refine s_iconst C at_63 (pc' := 64) rfl (1 : Int32) rfl ?_
      refine s_icmp_lt C at_64 (pc' := 67) rfl (pcY := 94) rfl (fun hc => by exfalso; revert hc; decide) (fun c52 => ?_)
      refine s_aload C at_67 (pc' := 69) rfl rfl rfl ?_
      refine s_aload C at_69 (pc' := 71) rfl rfl rfl ?_
      have Ex54 := ((Ex13.ext E12).keep K21)
      refine s_callV0 C at_71 (pc' := 74) rfl (w32 hw) (w33 hw) (notFace_of_selects (args := #[]) (mvT C.2.1 (w35 hw))) (w35 hw) (w34 hw) (w9 hw) (w36 hw) (by decide) E21 [(.ref r3)] [] pd5 rfl rfl (c_add0 l Z a0 hw a12 ar21 r3  h21 n0 sz22 E21 gn18 gn21 ne21 Fe21 Fs21 V21 O21 (Ins.of_exa Ex54 (w52 hw))) rfl (W := 0) rfl (by decide) (by decide) (k' := 5) rfl (by decide) (n' := 21) rfl (by decide) (fun h53 q53 => ?_)
      obtain ⟨K53, E53, Fe53, Fs53, V53, O53⟩ := q53
      have sz55 : n0 ≤ h53.size := (Nat.le_trans sz22 K53.1)
      have Od56 : Old Z n0 h53 := Od23.keep K53 (allS gn18 (allS gn21 all0))
      refine s_iload C at_74 (pc' := 76) rfl rfl ?_
      refine s_if_eq C at_76 (pc' := 79) rfl (pcY := 91) rfl (fun hc => by exfalso; revert hc; decide) (fun c57 => ?_)
      refine s_aload C at_79 (pc' := 81) rfl rfl rfl ?_
      refine s_callVI C at_81 (pc' := 84) rfl (w20 hw) (w21 hw) (notFace_of_selects (args := #[]) (mvT C.2.1 (w23 hw))) (w23 hw) (w22 hw) (w9 hw) (w24 hw) (by decide) E53 [] [] pd2 rfl rfl (c_emp l Z a0 hw a12 (1 : Int32) h53 n0 sz55 E53 Fs53) rfl (W := 0) rfl (by decide) (by decide) (k' := 5) rfl (by decide) (n' := 21) rfl (by decide) (fun _ _ q58 => ?_)
      obtain ⟨rfl, rfl⟩ := q58
      refine s_foldI C (y := (0 : Int32)) (by decide) ?_
      refine s_if_ne C at_84 (pc' := 87) rfl (pcY := 91) rfl (fun hc => by exfalso; revert hc; decide) (fun c59 => ?_)
      refine s_iconst C at_87 (pc' := 88) rfl (1 : Int32) rfl ?_
      refine s_goto C at_88 (pc' := 92) rfl ?_
      refine s_istoreP C at_92 (pc' := 94) rfl #[.val (.int x1), .val (.int x2), .val (.int x3), .val (.int (2 : Int32)), .val (.int (0 : Int32)), .val (.ref r3), .val (.ref r6), .val (.ref r9), .val (.ref a12), .val (.int (1 : Int32)), .unset] rfl ?_
      refine s_iloadN C at_94 (pc' := 95) rfl rfl ?_
      refine s_iconst C at_95 (pc' := 96) rfl (2 : Int32) rfl ?_
      refine s_icmp_lt C at_96 (pc' := 99) rfl (pcY := 126) rfl (fun hc => by exfalso; revert hc; decide) (fun c60 => ?_)
      refine s_aload C at_99 (pc' := 101) rfl rfl rfl ?_
      refine s_aload C at_101 (pc' := 103) rfl rfl rfl ?_
      have Ex62 := (((Ex15.ext E12).keep K21).keep K53)
      refine s_callV0 C at_103 (pc' := 106) rfl (w32 hw) (w33 hw) (notFace_of_selects (args := #[]) (mvT C.2.1 (w35 hw))) (w35 hw) (w34 hw) (w9 hw) (w36 hw) (by decide) E53 [(.ref r6)] [] pd5 rfl rfl (c_add1 l Z a0 hw a12 ar21 r6 (.ref r3) h53 n0 sz55 E53 gn18 gn21 ne21 Fe53 Fs53 V53 O53 (Ins.of_exa Ex62 (w52 hw))) rfl (W := 0) rfl (by decide) (by decide) (k' := 5) rfl (by decide) (n' := 21) rfl (by decide) (fun h61 q61 => ?_)
      obtain ⟨K61, E61, Fe61, Fs61, V61, O61⟩ := q61
      have sz63 : n0 ≤ h61.size := (Nat.le_trans sz55 K61.1)
      have Od64 : Old Z n0 h61 := Od56.keep K61 (allS gn18 (allS gn21 all0))
      refine s_iload C at_106 (pc' := 108) rfl rfl ?_
      refine s_if_eq C at_108 (pc' := 111) rfl (pcY := 123) rfl (fun hc => by exfalso; revert hc; decide) (fun c65 => ?_)
      refine s_aload C at_111 (pc' := 113) rfl rfl rfl ?_
      refine s_callVI C at_113 (pc' := 116) rfl (w20 hw) (w21 hw) (notFace_of_selects (args := #[]) (mvT C.2.1 (w23 hw))) (w23 hw) (w22 hw) (w9 hw) (w24 hw) (by decide) E61 [] [] pd2 rfl rfl (c_emp l Z a0 hw a12 (2 : Int32) h61 n0 sz63 E61 Fs61) rfl (W := 0) rfl (by decide) (by decide) (k' := 5) rfl (by decide) (n' := 21) rfl (by decide) (fun _ _ q66 => ?_)
      obtain ⟨rfl, rfl⟩ := q66
      refine s_foldI C (y := (0 : Int32)) (by decide) ?_
      refine s_if_ne C at_116 (pc' := 119) rfl (pcY := 123) rfl (fun hc => by exfalso; revert hc; decide) (fun c67 => ?_)
      refine s_iconst C at_119 (pc' := 120) rfl (1 : Int32) rfl ?_
      refine s_goto C at_120 (pc' := 124) rfl ?_
      refine s_istoreP C at_124 (pc' := 126) rfl #[.val (.int x1), .val (.int x2), .val (.int x3), .val (.int (2 : Int32)), .val (.int (0 : Int32)), .val (.ref r3), .val (.ref r6), .val (.ref r9), .val (.ref a12), .val (.int (1 : Int32)), .unset] rfl ?_
      refine s_iloadN C at_126 (pc' := 127) rfl rfl ?_
      refine s_iconst C at_127 (pc' := 128) rfl (3 : Int32) rfl ?_
      refine s_icmp_lt C at_128 (pc' := 131) rfl (pcY := 158) rfl (fun c68 => ?_) (fun hc => by exfalso; revert hc; decide)
      refine s_aload C at_158 (pc' := 160) rfl rfl rfl ?_
      refine s_callVI C at_160 (pc' := 163) rfl (w20 hw) (w21 hw) (notFace_of_selects (args := #[]) (mvT C.2.1 (w23 hw))) (w23 hw) (w22 hw) (w9 hw) (w24 hw) (by decide) E61 [] [] pd2 rfl rfl (c_emp l Z a0 hw a12 (2 : Int32) h61 n0 sz63 E61 Fs61) rfl (W := 0) rfl (by decide) (by decide) (k' := 5) rfl (by decide) (n' := 21) rfl (by decide) (fun _ _ q69 => ?_)
      obtain ⟨rfl, rfl⟩ := q69
      refine s_foldI C (y := (0 : Int32)) (by decide) ?_
      refine s_istoreP C at_163 (pc' := 165) rfl #[.val (.int x1), .val (.int x2), .val (.int x3), .val (.int (2 : Int32)), .val (.int (0 : Int32)), .val (.ref r3), .val (.ref r6), .val (.ref r9), .val (.ref a12), .val (.int (1 : Int32)), .val (.int (0 : Int32))] rfl ?_
      refine s_iload C at_165 (pc' := 167) rfl rfl ?_
      refine s_if_eq C at_167 (pc' := 170) rfl (pcY := 206) rfl (fun hc => by exfalso; revert hc; decide) (fun c70 => ?_)
      refine s_iload C at_170 (pc' := 172) rfl rfl ?_
      refine s_iloadN C at_172 (pc' := 173) rfl rfl ?_
      refine s_if_ne C at_173 (pc' := 176) rfl (pcY := 180) rfl (fun c71 => ?_) (fun hc => by exfalso; revert hc; decide)
      refine s_iconst C at_180 (pc' := 181) rfl (0 : Int32) rfl ?_
      refine s_icmp_ne C at_181 (pc' := 184) rfl (pcY := 206) rfl (fun hc => by exfalso; revert hc; decide) (fun c72 => ?_)
      refine s_aload C at_184 (pc' := 186) rfl rfl rfl ?_
      refine s_callVI C at_186 (pc' := 189) rfl (w27 hw) (w28 hw) (notFace_of_selects (args := #[]) (mvT C.2.1 (w30 hw))) (w30 hw) (w29 hw) (w9 hw) (w31 hw) (by decide) E61 [] [] pd0 rfl rfl (c_siz l Z a0 hw a12 (2 : Int32) h61 n0 sz63 E61 Fs61) rfl (W := 0) rfl (by decide) (by decide) (k' := 5) rfl (by decide) (n' := 21) rfl (by decide) (fun _ _ q73 => ?_)
      obtain ⟨rfl, rfl⟩ := q73
      refine s_foldI C (y := (2 : Int32)) (by decide) ?_
      refine s_if_ne C at_189 (pc' := 192) rfl (pcY := 196) rfl (fun c74 => ?_) (fun hc => by exfalso; revert hc; decide)
      refine s_iconst C at_196 (pc' := 197) rfl (0 : Int32) rfl ?_
      refine s_iload C at_197 (pc' := 199) rfl rfl ?_
      refine s_icmp_ne C at_199 (pc' := 202) rfl (pcY := 206) rfl (fun hc => by exfalso; revert hc; decide) (fun c75 => ?_)
      refine s_iconst C at_202 (pc' := 203) rfl (1 : Int32) rfl ?_
      refine s_goto C at_203 (pc' := 207) rfl ?_
      exact s_retN C (by simp) at_207 (by decide) (by decide) rfl
    · obtain rfl : kk = 3 := hkk.trans q
      refine s_iloadN C at_62 (pc' := 63) rfl rfl ?_
      refine s_iconst C at_63 (pc' := 64) rfl (1 : Int32) rfl ?_
      refine s_icmp_lt C at_64 (pc' := 67) rfl (pcY := 94) rfl (fun hc => by exfalso; revert hc; decide) (fun c76 => ?_)
      refine s_aload C at_67 (pc' := 69) rfl rfl rfl ?_
      refine s_aload C at_69 (pc' := 71) rfl rfl rfl ?_
      have Ex78 := ((Ex13.ext E12).keep K21)
      refine s_callV0 C at_71 (pc' := 74) rfl (w32 hw) (w33 hw) (notFace_of_selects (args := #[]) (mvT C.2.1 (w35 hw))) (w35 hw) (w34 hw) (w9 hw) (w36 hw) (by decide) E21 [(.ref r3)] [] pd5 rfl rfl (c_add0 l Z a0 hw a12 ar21 r3  h21 n0 sz22 E21 gn18 gn21 ne21 Fe21 Fs21 V21 O21 (Ins.of_exa Ex78 (w52 hw))) rfl (W := 0) rfl (by decide) (by decide) (k' := 5) rfl (by decide) (n' := 21) rfl (by decide) (fun h77 q77 => ?_)
      obtain ⟨K77, E77, Fe77, Fs77, V77, O77⟩ := q77
      have sz79 : n0 ≤ h77.size := (Nat.le_trans sz22 K77.1)
      have Od80 : Old Z n0 h77 := Od23.keep K77 (allS gn18 (allS gn21 all0))
      refine s_iload C at_74 (pc' := 76) rfl rfl ?_
      refine s_if_eq C at_76 (pc' := 79) rfl (pcY := 91) rfl (fun hc => by exfalso; revert hc; decide) (fun c81 => ?_)
      refine s_aload C at_79 (pc' := 81) rfl rfl rfl ?_
      refine s_callVI C at_81 (pc' := 84) rfl (w20 hw) (w21 hw) (notFace_of_selects (args := #[]) (mvT C.2.1 (w23 hw))) (w23 hw) (w22 hw) (w9 hw) (w24 hw) (by decide) E77 [] [] pd2 rfl rfl (c_emp l Z a0 hw a12 (1 : Int32) h77 n0 sz79 E77 Fs77) rfl (W := 0) rfl (by decide) (by decide) (k' := 5) rfl (by decide) (n' := 21) rfl (by decide) (fun _ _ q82 => ?_)
      obtain ⟨rfl, rfl⟩ := q82
      refine s_foldI C (y := (0 : Int32)) (by decide) ?_
      refine s_if_ne C at_84 (pc' := 87) rfl (pcY := 91) rfl (fun hc => by exfalso; revert hc; decide) (fun c83 => ?_)
      refine s_iconst C at_87 (pc' := 88) rfl (1 : Int32) rfl ?_
      refine s_goto C at_88 (pc' := 92) rfl ?_
      refine s_istoreP C at_92 (pc' := 94) rfl #[.val (.int x1), .val (.int x2), .val (.int x3), .val (.int (3 : Int32)), .val (.int (0 : Int32)), .val (.ref r3), .val (.ref r6), .val (.ref r9), .val (.ref a12), .val (.int (1 : Int32)), .unset] rfl ?_
      refine s_iloadN C at_94 (pc' := 95) rfl rfl ?_
      refine s_iconst C at_95 (pc' := 96) rfl (2 : Int32) rfl ?_
      refine s_icmp_lt C at_96 (pc' := 99) rfl (pcY := 126) rfl (fun hc => by exfalso; revert hc; decide) (fun c84 => ?_)
      refine s_aload C at_99 (pc' := 101) rfl rfl rfl ?_
      refine s_aload C at_101 (pc' := 103) rfl rfl rfl ?_
      have Ex86 := (((Ex15.ext E12).keep K21).keep K77)
      refine s_callV0 C at_103 (pc' := 106) rfl (w32 hw) (w33 hw) (notFace_of_selects (args := #[]) (mvT C.2.1 (w35 hw))) (w35 hw) (w34 hw) (w9 hw) (w36 hw) (by decide) E77 [(.ref r6)] [] pd5 rfl rfl (c_add1 l Z a0 hw a12 ar21 r6 (.ref r3) h77 n0 sz79 E77 gn18 gn21 ne21 Fe77 Fs77 V77 O77 (Ins.of_exa Ex86 (w52 hw))) rfl (W := 0) rfl (by decide) (by decide) (k' := 5) rfl (by decide) (n' := 21) rfl (by decide) (fun h85 q85 => ?_)
      obtain ⟨K85, E85, Fe85, Fs85, V85, O85⟩ := q85
      have sz87 : n0 ≤ h85.size := (Nat.le_trans sz79 K85.1)
      have Od88 : Old Z n0 h85 := Od80.keep K85 (allS gn18 (allS gn21 all0))
      refine s_iload C at_106 (pc' := 108) rfl rfl ?_
      refine s_if_eq C at_108 (pc' := 111) rfl (pcY := 123) rfl (fun hc => by exfalso; revert hc; decide) (fun c89 => ?_)
      refine s_aload C at_111 (pc' := 113) rfl rfl rfl ?_
      refine s_callVI C at_113 (pc' := 116) rfl (w20 hw) (w21 hw) (notFace_of_selects (args := #[]) (mvT C.2.1 (w23 hw))) (w23 hw) (w22 hw) (w9 hw) (w24 hw) (by decide) E85 [] [] pd2 rfl rfl (c_emp l Z a0 hw a12 (2 : Int32) h85 n0 sz87 E85 Fs85) rfl (W := 0) rfl (by decide) (by decide) (k' := 5) rfl (by decide) (n' := 21) rfl (by decide) (fun _ _ q90 => ?_)
      obtain ⟨rfl, rfl⟩ := q90
      refine s_foldI C (y := (0 : Int32)) (by decide) ?_
      refine s_if_ne C at_116 (pc' := 119) rfl (pcY := 123) rfl (fun hc => by exfalso; revert hc; decide) (fun c91 => ?_)
      refine s_iconst C at_119 (pc' := 120) rfl (1 : Int32) rfl ?_
      refine s_goto C at_120 (pc' := 124) rfl ?_
      refine s_istoreP C at_124 (pc' := 126) rfl #[.val (.int x1), .val (.int x2), .val (.int x3), .val (.int (3 : Int32)), .val (.int (0 : Int32)), .val (.ref r3), .val (.ref r6), .val (.ref r9), .val (.ref a12), .val (.int (1 : Int32)), .unset] rfl ?_
      refine s_iloadN C at_126 (pc' := 127) rfl rfl ?_
      refine s_iconst C at_127 (pc' := 128) rfl (3 : Int32) rfl ?_
      refine s_icmp_lt C at_128 (pc' := 131) rfl (pcY := 158) rfl (fun hc => by exfalso; revert hc; decide) (fun c92 => ?_)
      refine s_aload C at_131 (pc' := 133) rfl rfl rfl ?_
      refine s_aload C at_133 (pc' := 135) rfl rfl rfl ?_
      have Ex94 := ((((X9.ext E12).keep K21).keep K77).keep K85)
      refine s_callV0 C at_135 (pc' := 138) rfl (w32 hw) (w33 hw) (notFace_of_selects (args := #[]) (mvT C.2.1 (w35 hw))) (w35 hw) (w34 hw) (w9 hw) (w36 hw) (by decide) E85 [(.ref r9)] [] pd5 rfl rfl (c_add2 l Z a0 hw a12 ar21 r9 (.ref r3) (.ref r6) h85 n0 sz87 E85 gn18 gn21 ne21 Fe85 Fs85 V85 O85 (Ins.of_exa Ex94 (w52 hw))) rfl (W := 0) rfl (by decide) (by decide) (k' := 5) rfl (by decide) (n' := 21) rfl (by decide) (fun h93 q93 => ?_)
      obtain ⟨K93, E93, Fe93, Fs93, V93, O93⟩ := q93
      have sz95 : n0 ≤ h93.size := (Nat.le_trans sz87 K93.1)
      have Od96 : Old Z n0 h93 := Od88.keep K93 (allS gn18 (allS gn21 all0))
      refine s_iload C at_138 (pc' := 140) rfl rfl ?_
      refine s_if_eq C at_140 (pc' := 143) rfl (pcY := 155) rfl (fun hc => by exfalso; revert hc; decide) (fun c97 => ?_)
      refine s_aload C at_143 (pc' := 145) rfl rfl rfl ?_
      refine s_callVI C at_145 (pc' := 148) rfl (w20 hw) (w21 hw) (notFace_of_selects (args := #[]) (mvT C.2.1 (w23 hw))) (w23 hw) (w22 hw) (w9 hw) (w24 hw) (by decide) E93 [] [] pd2 rfl rfl (c_emp l Z a0 hw a12 (3 : Int32) h93 n0 sz95 E93 Fs93) rfl (W := 0) rfl (by decide) (by decide) (k' := 5) rfl (by decide) (n' := 21) rfl (by decide) (fun _ _ q98 => ?_)
      obtain ⟨rfl, rfl⟩ := q98
      refine s_foldI C (y := (0 : Int32)) (by decide) ?_
      refine s_if_ne C at_148 (pc' := 151) rfl (pcY := 155) rfl (fun hc => by exfalso; revert hc; decide) (fun c99 => ?_)
      refine s_iconst C at_151 (pc' := 152) rfl (1 : Int32) rfl ?_
      refine s_goto C at_152 (pc' := 156) rfl ?_
      refine s_istoreP C at_156 (pc' := 158) rfl #[.val (.int x1), .val (.int x2), .val (.int x3), .val (.int (3 : Int32)), .val (.int (0 : Int32)), .val (.ref r3), .val (.ref r6), .val (.ref r9), .val (.ref a12), .val (.int (1 : Int32)), .unset] rfl ?_
      refine s_aload C at_158 (pc' := 160) rfl rfl rfl ?_
      refine s_callVI C at_160 (pc' := 163) rfl (w20 hw) (w21 hw) (notFace_of_selects (args := #[]) (mvT C.2.1 (w23 hw))) (w23 hw) (w22 hw) (w9 hw) (w24 hw) (by decide) E93 [] [] pd2 rfl rfl (c_emp l Z a0 hw a12 (3 : Int32) h93 n0 sz95 E93 Fs93) rfl (W := 0) rfl (by decide) (by decide) (k' := 5) rfl (by decide) (n' := 21) rfl (by decide) (fun _ _ q100 => ?_)
      obtain ⟨rfl, rfl⟩ := q100
      refine s_foldI C (y := (0 : Int32)) (by decide) ?_
      refine s_istoreP C at_163 (pc' := 165) rfl #[.val (.int x1), .val (.int x2), .val (.int x3), .val (.int (3 : Int32)), .val (.int (0 : Int32)), .val (.ref r3), .val (.ref r6), .val (.ref r9), .val (.ref a12), .val (.int (1 : Int32)), .val (.int (0 : Int32))] rfl ?_
      refine s_iload C at_165 (pc' := 167) rfl rfl ?_
      refine s_if_eq C at_167 (pc' := 170) rfl (pcY := 206) rfl (fun hc => by exfalso; revert hc; decide) (fun c101 => ?_)
      refine s_iload C at_170 (pc' := 172) rfl rfl ?_
      refine s_iloadN C at_172 (pc' := 173) rfl rfl ?_
      refine s_if_ne C at_173 (pc' := 176) rfl (pcY := 180) rfl (fun c102 => ?_) (fun hc => by exfalso; revert hc; decide)
      refine s_iconst C at_180 (pc' := 181) rfl (0 : Int32) rfl ?_
      refine s_icmp_ne C at_181 (pc' := 184) rfl (pcY := 206) rfl (fun hc => by exfalso; revert hc; decide) (fun c103 => ?_)
      refine s_aload C at_184 (pc' := 186) rfl rfl rfl ?_
      refine s_callVI C at_186 (pc' := 189) rfl (w27 hw) (w28 hw) (notFace_of_selects (args := #[]) (mvT C.2.1 (w30 hw))) (w30 hw) (w29 hw) (w9 hw) (w31 hw) (by decide) E93 [] [] pd0 rfl rfl (c_siz l Z a0 hw a12 (3 : Int32) h93 n0 sz95 E93 Fs93) rfl (W := 0) rfl (by decide) (by decide) (k' := 5) rfl (by decide) (n' := 21) rfl (by decide) (fun _ _ q104 => ?_)
      obtain ⟨rfl, rfl⟩ := q104
      refine s_foldI C (y := (3 : Int32)) (by decide) ?_
      refine s_if_ne C at_189 (pc' := 192) rfl (pcY := 196) rfl (fun c105 => ?_) (fun hc => by exfalso; revert hc; decide)
      refine s_iconst C at_196 (pc' := 197) rfl (0 : Int32) rfl ?_
      refine s_iload C at_197 (pc' := 199) rfl rfl ?_
      refine s_icmp_ne C at_199 (pc' := 202) rfl (pcY := 206) rfl (fun hc => by exfalso; revert hc; decide) (fun c106 => ?_)
      refine s_iconst C at_202 (pc' := 203) rfl (1 : Int32) rfl ?_
      refine s_goto C at_203 (pc' := 207) rfl ?_
      exact s_retN C (by simp) at_207 (by decide) (by decide) rfl
  · skip
    refine s_iconst C at_10 (pc' := 11) rfl (1 : Int32) rfl ?_
    refine s_goto C at_11 (pc' := 15) rfl ?_
    refine s_istoreP C at_15 (pc' := 17) rfl #[.val (.int x1), .val (.int x2), .val (.int x3), .val (.int kk), .val (.int (1 : Int32)), .unset, .unset, .unset, .unset, .unset, .unset] rfl ?_
    refine s_iload C at_17 (pc' := 19) rfl rfl ?_
    refine s_if_eq C at_19 (pc' := 22) rfl (pcY := 26) rfl (fun hc => by exfalso; revert hc; decide) (fun c107 => ?_)
    refine s_null C at_22 (pc' := 23) rfl ?_
    refine s_goto C at_23 (pc' := 30) rfl ?_
    refine s_astore C at_30 (pc' := 32) rfl rfl #[.val (.int x1), .val (.int x2), .val (.int x3), .val (.int kk), .val (.int (1 : Int32)), .val .null, .unset, .unset, .unset, .unset, .unset] rfl ?_
    refine s_iloadN C at_32 (pc' := 33) rfl rfl ?_
    refine s_callSA C at_33 (pc' := 36) rfl (w0 hw) (w1 hw) (w2 hw) (w3 hw) (by decide) [(.int x3)] [] pd3 rfl rfl (c_vof l Z a0 hw x3 ca cl h0 n0 Z0 O0 S_hi S_ca B) rfl (W := 0) rfl (by decide) (by decide) (k' := 1) rfl (by decide) (n' := 1) rfl (by decide) (fun _ h108 q108 => ?_)
    obtain ⟨r108, rfl, K108, X108⟩ := q108
    have sz109 : n0 ≤ h108.size := (Nat.le_trans Z0 K108.1)
    have Od110 : Old Z n0 h108 := O0.keep K108 all0
    refine s_astore C at_36 (pc' := 38) rfl rfl #[.val (.int x1), .val (.int x2), .val (.int x3), .val (.int kk), .val (.int (1 : Int32)), .val .null, .val (.ref r108), .unset, .unset, .unset, .unset] rfl ?_
    refine s_iloadN C at_38 (pc' := 39) rfl rfl ?_
    refine s_iloadN C at_39 (pc' := 40) rfl rfl ?_
    refine s_ixor C at_40 (pc' := 41) rfl ?_
    refine s_callSA C at_41 (pc' := 44) rfl (w0 hw) (w1 hw) (w2 hw) (w3 hw) (by decide) [(.int (x2 ^^^ x3))] [] pd3 rfl rfl (c_vof l Z a0 hw (x2 ^^^ x3) ca cl h108 n0 sz109 Od110 S_hi S_ca B) rfl (W := 0) rfl (by decide) (by decide) (k' := 2) rfl (by decide) (n' := 2) rfl (by decide) (fun _ h111 q111 => ?_)
    obtain ⟨r111, rfl, K111, X111⟩ := q111
    have sz112 : n0 ≤ h111.size := (Nat.le_trans sz109 K111.1)
    have Od113 : Old Z n0 h111 := Od110.keep K111 all0
    refine s_astore C at_44 (pc' := 46) rfl rfl #[.val (.int x1), .val (.int x2), .val (.int x3), .val (.int kk), .val (.int (1 : Int32)), .val .null, .val (.ref r108), .val (.ref r111), .unset, .unset, .unset] rfl ?_
    refine s_new C at_46 (pc' := 49) rfl (w7 hw) (w8 hw) (w9 hw) (k' := 3) rfl (by decide) (n' := 4) rfl (by decide) (fun h114 a114 E114 g114 A114 D114 => ?_)
    have Ex115 := (X108.keep K111)
    have ne116 : r108 ≠ a114 := Nat.ne_of_lt (by rw [g114]; exact Ex115.lt)
    have ne117 : r111 ≠ a114 := Nat.ne_of_lt (by rw [g114]; exact X111.lt)
    have gn118 : n0 ≤ a114 := by rw [g114]; exact sz112
    have sz119 : n0 ≤ h114.size := (Nat.le_trans sz112 E114.1)
    have Od120 : Old Z n0 h114 := Od113.ext E114
    have F114_elements : Fld Z h114 a114 "com/example/deathwatch/deathwatch/AppendOnlyList" "elements" "[Ljava/lang/Object;" .null := D114 (Or.inl (w19 hw)) (ty := (.array (.object "java/lang/Object"))) (by decide)
    have F114_size : Fld Z h114 a114 "com/example/deathwatch/deathwatch/AppendOnlyList" "size" "I" (.int (0 : Int32)) := D114 (Or.inl (w26 hw)) (ty := .int) (by decide)
    refine s_dup C at_49 (pc' := 50) rfl rfl ?_
    refine s_callI C at_50 (pc' := 53) rfl (w10 hw) rfl (w11 hw) (w9 hw) (w12 hw) (by decide) [] [(.ref a114)] pd1 rfl rfl (c_list l Z a0 hw a114 h114 n0 sz119 A114 gn118 F114_elements F114_size) rfl (W := 1) rfl (by decide) (by decide) (k' := 4) rfl (by decide) (n' := 20) rfl (by decide) (fun h121 q121 => ?_)
    obtain ⟨ar121, K121, E121, Fe121, Fs121, V121, O121, s121⟩ := q121
    have gn121 : n0 ≤ ar121 := Nat.le_trans sz119 s121
    have ne121 : a114 ≠ ar121 := Nat.ne_of_lt (Nat.lt_of_lt_of_le A114.lt s121)
    have sz122 : n0 ≤ h121.size := (Nat.le_trans sz119 K121.1)
    have Od123 : Old Z n0 h121 := Od120.keep K121 (allS gn118 all0)
    refine s_astore C at_53 (pc' := 55) rfl rfl #[.val (.int x1), .val (.int x2), .val (.int x3), .val (.int kk), .val (.int (1 : Int32)), .val .null, .val (.ref r108), .val (.ref r111), .val (.ref a114), .unset, .unset] rfl ?_
    refine s_aload C at_55 (pc' := 57) rfl rfl rfl ?_
    refine s_callVI C at_57 (pc' := 60) rfl (w20 hw) (w21 hw) (notFace_of_selects (args := #[]) (mvT C.2.1 (w23 hw))) (w23 hw) (w22 hw) (w9 hw) (w24 hw) (by decide) E121 [] [] pd2 rfl rfl (c_emp l Z a0 hw a114 (0 : Int32) h121 n0 sz122 E121 Fs121) rfl (W := 0) rfl (by decide) (by decide) (k' := 4) rfl (by decide) (n' := 20) rfl (by decide) (fun _ _ q124 => ?_)
    obtain ⟨rfl, rfl⟩ := q124
    refine s_foldI C (y := (1 : Int32)) (by decide) ?_
    refine s_istoreP C at_60 (pc' := 62) rfl #[.val (.int x1), .val (.int x2), .val (.int x3), .val (.int kk), .val (.int (1 : Int32)), .val .null, .val (.ref r108), .val (.ref r111), .val (.ref a114), .val (.int (1 : Int32)), .unset] rfl ?_
    rcases own_k x1 with q | q | q | q
    · obtain rfl : kk = 0 := hkk.trans q
      refine s_iloadN C at_62 (pc' := 63) rfl rfl ?_
      refine s_iconst C at_63 (pc' := 64) rfl (1 : Int32) rfl ?_
      refine s_icmp_lt C at_64 (pc' := 67) rfl (pcY := 94) rfl (fun c125 => ?_) (fun hc => by exfalso; revert hc; decide)
      refine s_iloadN C at_94 (pc' := 95) rfl rfl ?_
      refine s_iconst C at_95 (pc' := 96) rfl (2 : Int32) rfl ?_
      refine s_icmp_lt C at_96 (pc' := 99) rfl (pcY := 126) rfl (fun c126 => ?_) (fun hc => by exfalso; revert hc; decide)
      refine s_iloadN C at_126 (pc' := 127) rfl rfl ?_
      refine s_iconst C at_127 (pc' := 128) rfl (3 : Int32) rfl ?_
      refine s_icmp_lt C at_128 (pc' := 131) rfl (pcY := 158) rfl (fun c127 => ?_) (fun hc => by exfalso; revert hc; decide)
      refine s_aload C at_158 (pc' := 160) rfl rfl rfl ?_
      refine s_callVI C at_160 (pc' := 163) rfl (w20 hw) (w21 hw) (notFace_of_selects (args := #[]) (mvT C.2.1 (w23 hw))) (w23 hw) (w22 hw) (w9 hw) (w24 hw) (by decide) E121 [] [] pd2 rfl rfl (c_emp l Z a0 hw a114 (0 : Int32) h121 n0 sz122 E121 Fs121) rfl (W := 0) rfl (by decide) (by decide) (k' := 4) rfl (by decide) (n' := 20) rfl (by decide) (fun _ _ q128 => ?_)
      obtain ⟨rfl, rfl⟩ := q128
      refine s_foldI C (y := (1 : Int32)) (by decide) ?_
      refine s_istoreP C at_163 (pc' := 165) rfl #[.val (.int x1), .val (.int x2), .val (.int x3), .val (.int (0 : Int32)), .val (.int (1 : Int32)), .val .null, .val (.ref r108), .val (.ref r111), .val (.ref a114), .val (.int (1 : Int32)), .val (.int (1 : Int32))] rfl ?_
      refine s_iload C at_165 (pc' := 167) rfl rfl ?_
      refine s_if_eq C at_167 (pc' := 170) rfl (pcY := 206) rfl (fun hc => by exfalso; revert hc; decide) (fun c129 => ?_)
      refine s_iload C at_170 (pc' := 172) rfl rfl ?_
      refine s_iloadN C at_172 (pc' := 173) rfl rfl ?_
      refine s_if_ne C at_173 (pc' := 176) rfl (pcY := 180) rfl (fun hc => by exfalso; revert hc; decide) (fun c130 => ?_)
      refine s_iconst C at_176 (pc' := 177) rfl (1 : Int32) rfl ?_
      refine s_goto C at_177 (pc' := 181) rfl ?_
      refine s_icmp_ne C at_181 (pc' := 184) rfl (pcY := 206) rfl (fun hc => by exfalso; revert hc; decide) (fun c131 => ?_)
      refine s_aload C at_184 (pc' := 186) rfl rfl rfl ?_
      refine s_callVI C at_186 (pc' := 189) rfl (w27 hw) (w28 hw) (notFace_of_selects (args := #[]) (mvT C.2.1 (w30 hw))) (w30 hw) (w29 hw) (w9 hw) (w31 hw) (by decide) E121 [] [] pd0 rfl rfl (c_siz l Z a0 hw a114 (0 : Int32) h121 n0 sz122 E121 Fs121) rfl (W := 0) rfl (by decide) (by decide) (k' := 4) rfl (by decide) (n' := 20) rfl (by decide) (fun _ _ q132 => ?_)
      obtain ⟨rfl, rfl⟩ := q132
      refine s_foldI C (y := (0 : Int32)) (by decide) ?_
      refine s_if_ne C at_189 (pc' := 192) rfl (pcY := 196) rfl (fun hc => by exfalso; revert hc; decide) (fun c133 => ?_)
      refine s_iconst C at_192 (pc' := 193) rfl (1 : Int32) rfl ?_
      refine s_goto C at_193 (pc' := 197) rfl ?_
      refine s_iload C at_197 (pc' := 199) rfl rfl ?_
      refine s_icmp_ne C at_199 (pc' := 202) rfl (pcY := 206) rfl (fun hc => by exfalso; revert hc; decide) (fun c134 => ?_)
      refine s_iconst C at_202 (pc' := 203) rfl (1 : Int32) rfl ?_
      refine s_goto C at_203 (pc' := 207) rfl ?_
      exact s_retN C (by simp) at_207 (by decide) (by decide) rfl
    · obtain rfl : kk = 1 := hkk.trans q
      refine s_iloadN C at_62 (pc' := 63) rfl rfl ?_
      refine s_iconst C at_63 (pc' := 64) rfl (1 : Int32) rfl ?_
      refine s_icmp_lt C at_64 (pc' := 67) rfl (pcY := 94) rfl (fun hc => by exfalso; revert hc; decide) (fun c135 => ?_)
      refine s_aload C at_67 (pc' := 69) rfl rfl rfl ?_
      refine s_aload C at_69 (pc' := 71) rfl rfl rfl ?_
      refine s_callV0 C at_71 (pc' := 74) rfl (w32 hw) (w33 hw) (notFace_of_selects (args := #[]) (mvT C.2.1 (w35 hw))) (w35 hw) (w34 hw) (w9 hw) (w36 hw) (by decide) E121 [.null] [] pd5 rfl rfl (c_add0n l Z a0 hw a114 ar121  h121 n0 sz122 E121 gn118 gn121 ne121 Fe121 Fs121 V121 O121) rfl (W := 0) rfl (by decide) (by decide) (k' := 4) rfl (by decide) (n' := 20) rfl (by decide) (fun h136 q136 => ?_)
      obtain ⟨K136, E136, Fe136, Fs136, V136, O136⟩ := q136
      have sz137 : n0 ≤ h136.size := (Nat.le_trans sz122 K136.1)
      have Od138 : Old Z n0 h136 := Od123.keep K136 (allS gn118 (allS gn121 all0))
      refine s_iload C at_74 (pc' := 76) rfl rfl ?_
      refine s_if_eq C at_76 (pc' := 79) rfl (pcY := 91) rfl (fun hc => by exfalso; revert hc; decide) (fun c139 => ?_)
      refine s_aload C at_79 (pc' := 81) rfl rfl rfl ?_
      refine s_callVI C at_81 (pc' := 84) rfl (w20 hw) (w21 hw) (notFace_of_selects (args := #[]) (mvT C.2.1 (w23 hw))) (w23 hw) (w22 hw) (w9 hw) (w24 hw) (by decide) E136 [] [] pd2 rfl rfl (c_emp l Z a0 hw a114 (1 : Int32) h136 n0 sz137 E136 Fs136) rfl (W := 0) rfl (by decide) (by decide) (k' := 4) rfl (by decide) (n' := 20) rfl (by decide) (fun _ _ q140 => ?_)
      obtain ⟨rfl, rfl⟩ := q140
      refine s_foldI C (y := (0 : Int32)) (by decide) ?_
      refine s_if_ne C at_84 (pc' := 87) rfl (pcY := 91) rfl (fun hc => by exfalso; revert hc; decide) (fun c141 => ?_)
      refine s_iconst C at_87 (pc' := 88) rfl (1 : Int32) rfl ?_
      refine s_goto C at_88 (pc' := 92) rfl ?_
      refine s_istoreP C at_92 (pc' := 94) rfl #[.val (.int x1), .val (.int x2), .val (.int x3), .val (.int (1 : Int32)), .val (.int (1 : Int32)), .val .null, .val (.ref r108), .val (.ref r111), .val (.ref a114), .val (.int (1 : Int32)), .unset] rfl ?_
      refine s_iloadN C at_94 (pc' := 95) rfl rfl ?_
      refine s_iconst C at_95 (pc' := 96) rfl (2 : Int32) rfl ?_
      refine s_icmp_lt C at_96 (pc' := 99) rfl (pcY := 126) rfl (fun c142 => ?_) (fun hc => by exfalso; revert hc; decide)
      refine s_iloadN C at_126 (pc' := 127) rfl rfl ?_
      refine s_iconst C at_127 (pc' := 128) rfl (3 : Int32) rfl ?_
      refine s_icmp_lt C at_128 (pc' := 131) rfl (pcY := 158) rfl (fun c143 => ?_) (fun hc => by exfalso; revert hc; decide)
      refine s_aload C at_158 (pc' := 160) rfl rfl rfl ?_
      refine s_callVI C at_160 (pc' := 163) rfl (w20 hw) (w21 hw) (notFace_of_selects (args := #[]) (mvT C.2.1 (w23 hw))) (w23 hw) (w22 hw) (w9 hw) (w24 hw) (by decide) E136 [] [] pd2 rfl rfl (c_emp l Z a0 hw a114 (1 : Int32) h136 n0 sz137 E136 Fs136) rfl (W := 0) rfl (by decide) (by decide) (k' := 4) rfl (by decide) (n' := 20) rfl (by decide) (fun _ _ q144 => ?_)
      obtain ⟨rfl, rfl⟩ := q144
      refine s_foldI C (y := (0 : Int32)) (by decide) ?_
      refine s_istoreP C at_163 (pc' := 165) rfl #[.val (.int x1), .val (.int x2), .val (.int x3), .val (.int (1 : Int32)), .val (.int (1 : Int32)), .val .null, .val (.ref r108), .val (.ref r111), .val (.ref a114), .val (.int (1 : Int32)), .val (.int (0 : Int32))] rfl ?_
      refine s_iload C at_165 (pc' := 167) rfl rfl ?_
      refine s_if_eq C at_167 (pc' := 170) rfl (pcY := 206) rfl (fun hc => by exfalso; revert hc; decide) (fun c145 => ?_)
      refine s_iload C at_170 (pc' := 172) rfl rfl ?_
      refine s_iloadN C at_172 (pc' := 173) rfl rfl ?_
      refine s_if_ne C at_173 (pc' := 176) rfl (pcY := 180) rfl (fun c146 => ?_) (fun hc => by exfalso; revert hc; decide)
      refine s_iconst C at_180 (pc' := 181) rfl (0 : Int32) rfl ?_
      refine s_icmp_ne C at_181 (pc' := 184) rfl (pcY := 206) rfl (fun hc => by exfalso; revert hc; decide) (fun c147 => ?_)
      refine s_aload C at_184 (pc' := 186) rfl rfl rfl ?_
      refine s_callVI C at_186 (pc' := 189) rfl (w27 hw) (w28 hw) (notFace_of_selects (args := #[]) (mvT C.2.1 (w30 hw))) (w30 hw) (w29 hw) (w9 hw) (w31 hw) (by decide) E136 [] [] pd0 rfl rfl (c_siz l Z a0 hw a114 (1 : Int32) h136 n0 sz137 E136 Fs136) rfl (W := 0) rfl (by decide) (by decide) (k' := 4) rfl (by decide) (n' := 20) rfl (by decide) (fun _ _ q148 => ?_)
      obtain ⟨rfl, rfl⟩ := q148
      refine s_foldI C (y := (1 : Int32)) (by decide) ?_
      refine s_if_ne C at_189 (pc' := 192) rfl (pcY := 196) rfl (fun c149 => ?_) (fun hc => by exfalso; revert hc; decide)
      refine s_iconst C at_196 (pc' := 197) rfl (0 : Int32) rfl ?_
      refine s_iload C at_197 (pc' := 199) rfl rfl ?_
      refine s_icmp_ne C at_199 (pc' := 202) rfl (pcY := 206) rfl (fun hc => by exfalso; revert hc; decide) (fun c150 => ?_)
      refine s_iconst C at_202 (pc' := 203) rfl (1 : Int32) rfl ?_
      refine s_goto C at_203 (pc' := 207) rfl ?_
      exact s_retN C (by simp) at_207 (by decide) (by decide) rfl
    · obtain rfl : kk = 2 := hkk.trans q
      refine s_iloadN C at_62 (pc' := 63) rfl rfl ?_
      refine s_iconst C at_63 (pc' := 64) rfl (1 : Int32) rfl ?_
      refine s_icmp_lt C at_64 (pc' := 67) rfl (pcY := 94) rfl (fun hc => by exfalso; revert hc; decide) (fun c151 => ?_)
      refine s_aload C at_67 (pc' := 69) rfl rfl rfl ?_
      refine s_aload C at_69 (pc' := 71) rfl rfl rfl ?_
      refine s_callV0 C at_71 (pc' := 74) rfl (w32 hw) (w33 hw) (notFace_of_selects (args := #[]) (mvT C.2.1 (w35 hw))) (w35 hw) (w34 hw) (w9 hw) (w36 hw) (by decide) E121 [.null] [] pd5 rfl rfl (c_add0n l Z a0 hw a114 ar121  h121 n0 sz122 E121 gn118 gn121 ne121 Fe121 Fs121 V121 O121) rfl (W := 0) rfl (by decide) (by decide) (k' := 4) rfl (by decide) (n' := 20) rfl (by decide) (fun h152 q152 => ?_)
      obtain ⟨K152, E152, Fe152, Fs152, V152, O152⟩ := q152
      have sz153 : n0 ≤ h152.size := (Nat.le_trans sz122 K152.1)
      have Od154 : Old Z n0 h152 := Od123.keep K152 (allS gn118 (allS gn121 all0))
      refine s_iload C at_74 (pc' := 76) rfl rfl ?_
      refine s_if_eq C at_76 (pc' := 79) rfl (pcY := 91) rfl (fun hc => by exfalso; revert hc; decide) (fun c155 => ?_)
      refine s_aload C at_79 (pc' := 81) rfl rfl rfl ?_
      refine s_callVI C at_81 (pc' := 84) rfl (w20 hw) (w21 hw) (notFace_of_selects (args := #[]) (mvT C.2.1 (w23 hw))) (w23 hw) (w22 hw) (w9 hw) (w24 hw) (by decide) E152 [] [] pd2 rfl rfl (c_emp l Z a0 hw a114 (1 : Int32) h152 n0 sz153 E152 Fs152) rfl (W := 0) rfl (by decide) (by decide) (k' := 4) rfl (by decide) (n' := 20) rfl (by decide) (fun _ _ q156 => ?_)
      obtain ⟨rfl, rfl⟩ := q156
      refine s_foldI C (y := (0 : Int32)) (by decide) ?_
      refine s_if_ne C at_84 (pc' := 87) rfl (pcY := 91) rfl (fun hc => by exfalso; revert hc; decide) (fun c157 => ?_)
      refine s_iconst C at_87 (pc' := 88) rfl (1 : Int32) rfl ?_
      refine s_goto C at_88 (pc' := 92) rfl ?_
      refine s_istoreP C at_92 (pc' := 94) rfl #[.val (.int x1), .val (.int x2), .val (.int x3), .val (.int (2 : Int32)), .val (.int (1 : Int32)), .val .null, .val (.ref r108), .val (.ref r111), .val (.ref a114), .val (.int (1 : Int32)), .unset] rfl ?_
      refine s_iloadN C at_94 (pc' := 95) rfl rfl ?_
      refine s_iconst C at_95 (pc' := 96) rfl (2 : Int32) rfl ?_
      refine s_icmp_lt C at_96 (pc' := 99) rfl (pcY := 126) rfl (fun hc => by exfalso; revert hc; decide) (fun c158 => ?_)
      refine s_aload C at_99 (pc' := 101) rfl rfl rfl ?_
      refine s_aload C at_101 (pc' := 103) rfl rfl rfl ?_
      have Ex160 := (((Ex115.ext E114).keep K121).keep K152)
      refine s_callV0 C at_103 (pc' := 106) rfl (w32 hw) (w33 hw) (notFace_of_selects (args := #[]) (mvT C.2.1 (w35 hw))) (w35 hw) (w34 hw) (w9 hw) (w36 hw) (by decide) E152 [(.ref r108)] [] pd5 rfl rfl (c_add1 l Z a0 hw a114 ar121 r108 .null h152 n0 sz153 E152 gn118 gn121 ne121 Fe152 Fs152 V152 O152 (Ins.of_exa Ex160 (w52 hw))) rfl (W := 0) rfl (by decide) (by decide) (k' := 4) rfl (by decide) (n' := 20) rfl (by decide) (fun h159 q159 => ?_)
      obtain ⟨K159, E159, Fe159, Fs159, V159, O159⟩ := q159
      have sz161 : n0 ≤ h159.size := (Nat.le_trans sz153 K159.1)
      have Od162 : Old Z n0 h159 := Od154.keep K159 (allS gn118 (allS gn121 all0))
      refine s_iload C at_106 (pc' := 108) rfl rfl ?_
      refine s_if_eq C at_108 (pc' := 111) rfl (pcY := 123) rfl (fun hc => by exfalso; revert hc; decide) (fun c163 => ?_)
      refine s_aload C at_111 (pc' := 113) rfl rfl rfl ?_
      refine s_callVI C at_113 (pc' := 116) rfl (w20 hw) (w21 hw) (notFace_of_selects (args := #[]) (mvT C.2.1 (w23 hw))) (w23 hw) (w22 hw) (w9 hw) (w24 hw) (by decide) E159 [] [] pd2 rfl rfl (c_emp l Z a0 hw a114 (2 : Int32) h159 n0 sz161 E159 Fs159) rfl (W := 0) rfl (by decide) (by decide) (k' := 4) rfl (by decide) (n' := 20) rfl (by decide) (fun _ _ q164 => ?_)
      obtain ⟨rfl, rfl⟩ := q164
      refine s_foldI C (y := (0 : Int32)) (by decide) ?_
      refine s_if_ne C at_116 (pc' := 119) rfl (pcY := 123) rfl (fun hc => by exfalso; revert hc; decide) (fun c165 => ?_)
      refine s_iconst C at_119 (pc' := 120) rfl (1 : Int32) rfl ?_
      refine s_goto C at_120 (pc' := 124) rfl ?_
      refine s_istoreP C at_124 (pc' := 126) rfl #[.val (.int x1), .val (.int x2), .val (.int x3), .val (.int (2 : Int32)), .val (.int (1 : Int32)), .val .null, .val (.ref r108), .val (.ref r111), .val (.ref a114), .val (.int (1 : Int32)), .unset] rfl ?_
      refine s_iloadN C at_126 (pc' := 127) rfl rfl ?_
      refine s_iconst C at_127 (pc' := 128) rfl (3 : Int32) rfl ?_
      refine s_icmp_lt C at_128 (pc' := 131) rfl (pcY := 158) rfl (fun c166 => ?_) (fun hc => by exfalso; revert hc; decide)
      refine s_aload C at_158 (pc' := 160) rfl rfl rfl ?_
      refine s_callVI C at_160 (pc' := 163) rfl (w20 hw) (w21 hw) (notFace_of_selects (args := #[]) (mvT C.2.1 (w23 hw))) (w23 hw) (w22 hw) (w9 hw) (w24 hw) (by decide) E159 [] [] pd2 rfl rfl (c_emp l Z a0 hw a114 (2 : Int32) h159 n0 sz161 E159 Fs159) rfl (W := 0) rfl (by decide) (by decide) (k' := 4) rfl (by decide) (n' := 20) rfl (by decide) (fun _ _ q167 => ?_)
      obtain ⟨rfl, rfl⟩ := q167
      refine s_foldI C (y := (0 : Int32)) (by decide) ?_
      refine s_istoreP C at_163 (pc' := 165) rfl #[.val (.int x1), .val (.int x2), .val (.int x3), .val (.int (2 : Int32)), .val (.int (1 : Int32)), .val .null, .val (.ref r108), .val (.ref r111), .val (.ref a114), .val (.int (1 : Int32)), .val (.int (0 : Int32))] rfl ?_
      refine s_iload C at_165 (pc' := 167) rfl rfl ?_
      refine s_if_eq C at_167 (pc' := 170) rfl (pcY := 206) rfl (fun hc => by exfalso; revert hc; decide) (fun c168 => ?_)
      refine s_iload C at_170 (pc' := 172) rfl rfl ?_
      refine s_iloadN C at_172 (pc' := 173) rfl rfl ?_
      refine s_if_ne C at_173 (pc' := 176) rfl (pcY := 180) rfl (fun c169 => ?_) (fun hc => by exfalso; revert hc; decide)
      refine s_iconst C at_180 (pc' := 181) rfl (0 : Int32) rfl ?_
      refine s_icmp_ne C at_181 (pc' := 184) rfl (pcY := 206) rfl (fun hc => by exfalso; revert hc; decide) (fun c170 => ?_)
      refine s_aload C at_184 (pc' := 186) rfl rfl rfl ?_
      refine s_callVI C at_186 (pc' := 189) rfl (w27 hw) (w28 hw) (notFace_of_selects (args := #[]) (mvT C.2.1 (w30 hw))) (w30 hw) (w29 hw) (w9 hw) (w31 hw) (by decide) E159 [] [] pd0 rfl rfl (c_siz l Z a0 hw a114 (2 : Int32) h159 n0 sz161 E159 Fs159) rfl (W := 0) rfl (by decide) (by decide) (k' := 4) rfl (by decide) (n' := 20) rfl (by decide) (fun _ _ q171 => ?_)
      obtain ⟨rfl, rfl⟩ := q171
      refine s_foldI C (y := (2 : Int32)) (by decide) ?_
      refine s_if_ne C at_189 (pc' := 192) rfl (pcY := 196) rfl (fun c172 => ?_) (fun hc => by exfalso; revert hc; decide)
      refine s_iconst C at_196 (pc' := 197) rfl (0 : Int32) rfl ?_
      refine s_iload C at_197 (pc' := 199) rfl rfl ?_
      refine s_icmp_ne C at_199 (pc' := 202) rfl (pcY := 206) rfl (fun hc => by exfalso; revert hc; decide) (fun c173 => ?_)
      refine s_iconst C at_202 (pc' := 203) rfl (1 : Int32) rfl ?_
      refine s_goto C at_203 (pc' := 207) rfl ?_
      exact s_retN C (by simp) at_207 (by decide) (by decide) rfl
    · obtain rfl : kk = 3 := hkk.trans q
      refine s_iloadN C at_62 (pc' := 63) rfl rfl ?_
      refine s_iconst C at_63 (pc' := 64) rfl (1 : Int32) rfl ?_
      refine s_icmp_lt C at_64 (pc' := 67) rfl (pcY := 94) rfl (fun hc => by exfalso; revert hc; decide) (fun c174 => ?_)
      refine s_aload C at_67 (pc' := 69) rfl rfl rfl ?_
      refine s_aload C at_69 (pc' := 71) rfl rfl rfl ?_
      refine s_callV0 C at_71 (pc' := 74) rfl (w32 hw) (w33 hw) (notFace_of_selects (args := #[]) (mvT C.2.1 (w35 hw))) (w35 hw) (w34 hw) (w9 hw) (w36 hw) (by decide) E121 [.null] [] pd5 rfl rfl (c_add0n l Z a0 hw a114 ar121  h121 n0 sz122 E121 gn118 gn121 ne121 Fe121 Fs121 V121 O121) rfl (W := 0) rfl (by decide) (by decide) (k' := 4) rfl (by decide) (n' := 20) rfl (by decide) (fun h175 q175 => ?_)
      obtain ⟨K175, E175, Fe175, Fs175, V175, O175⟩ := q175
      have sz176 : n0 ≤ h175.size := (Nat.le_trans sz122 K175.1)
      have Od177 : Old Z n0 h175 := Od123.keep K175 (allS gn118 (allS gn121 all0))
      refine s_iload C at_74 (pc' := 76) rfl rfl ?_
      refine s_if_eq C at_76 (pc' := 79) rfl (pcY := 91) rfl (fun hc => by exfalso; revert hc; decide) (fun c178 => ?_)
      refine s_aload C at_79 (pc' := 81) rfl rfl rfl ?_
      refine s_callVI C at_81 (pc' := 84) rfl (w20 hw) (w21 hw) (notFace_of_selects (args := #[]) (mvT C.2.1 (w23 hw))) (w23 hw) (w22 hw) (w9 hw) (w24 hw) (by decide) E175 [] [] pd2 rfl rfl (c_emp l Z a0 hw a114 (1 : Int32) h175 n0 sz176 E175 Fs175) rfl (W := 0) rfl (by decide) (by decide) (k' := 4) rfl (by decide) (n' := 20) rfl (by decide) (fun _ _ q179 => ?_)
      obtain ⟨rfl, rfl⟩ := q179
      refine s_foldI C (y := (0 : Int32)) (by decide) ?_
      refine s_if_ne C at_84 (pc' := 87) rfl (pcY := 91) rfl (fun hc => by exfalso; revert hc; decide) (fun c180 => ?_)
      refine s_iconst C at_87 (pc' := 88) rfl (1 : Int32) rfl ?_
      refine s_goto C at_88 (pc' := 92) rfl ?_
      refine s_istoreP C at_92 (pc' := 94) rfl #[.val (.int x1), .val (.int x2), .val (.int x3), .val (.int (3 : Int32)), .val (.int (1 : Int32)), .val .null, .val (.ref r108), .val (.ref r111), .val (.ref a114), .val (.int (1 : Int32)), .unset] rfl ?_
      refine s_iloadN C at_94 (pc' := 95) rfl rfl ?_
      refine s_iconst C at_95 (pc' := 96) rfl (2 : Int32) rfl ?_
      refine s_icmp_lt C at_96 (pc' := 99) rfl (pcY := 126) rfl (fun hc => by exfalso; revert hc; decide) (fun c181 => ?_)
      refine s_aload C at_99 (pc' := 101) rfl rfl rfl ?_
      refine s_aload C at_101 (pc' := 103) rfl rfl rfl ?_
      have Ex183 := (((Ex115.ext E114).keep K121).keep K175)
      refine s_callV0 C at_103 (pc' := 106) rfl (w32 hw) (w33 hw) (notFace_of_selects (args := #[]) (mvT C.2.1 (w35 hw))) (w35 hw) (w34 hw) (w9 hw) (w36 hw) (by decide) E175 [(.ref r108)] [] pd5 rfl rfl (c_add1 l Z a0 hw a114 ar121 r108 .null h175 n0 sz176 E175 gn118 gn121 ne121 Fe175 Fs175 V175 O175 (Ins.of_exa Ex183 (w52 hw))) rfl (W := 0) rfl (by decide) (by decide) (k' := 4) rfl (by decide) (n' := 20) rfl (by decide) (fun h182 q182 => ?_)
      obtain ⟨K182, E182, Fe182, Fs182, V182, O182⟩ := q182
      have sz184 : n0 ≤ h182.size := (Nat.le_trans sz176 K182.1)
      have Od185 : Old Z n0 h182 := Od177.keep K182 (allS gn118 (allS gn121 all0))
      refine s_iload C at_106 (pc' := 108) rfl rfl ?_
      refine s_if_eq C at_108 (pc' := 111) rfl (pcY := 123) rfl (fun hc => by exfalso; revert hc; decide) (fun c186 => ?_)
      refine s_aload C at_111 (pc' := 113) rfl rfl rfl ?_
      refine s_callVI C at_113 (pc' := 116) rfl (w20 hw) (w21 hw) (notFace_of_selects (args := #[]) (mvT C.2.1 (w23 hw))) (w23 hw) (w22 hw) (w9 hw) (w24 hw) (by decide) E182 [] [] pd2 rfl rfl (c_emp l Z a0 hw a114 (2 : Int32) h182 n0 sz184 E182 Fs182) rfl (W := 0) rfl (by decide) (by decide) (k' := 4) rfl (by decide) (n' := 20) rfl (by decide) (fun _ _ q187 => ?_)
      obtain ⟨rfl, rfl⟩ := q187
      refine s_foldI C (y := (0 : Int32)) (by decide) ?_
      refine s_if_ne C at_116 (pc' := 119) rfl (pcY := 123) rfl (fun hc => by exfalso; revert hc; decide) (fun c188 => ?_)
      refine s_iconst C at_119 (pc' := 120) rfl (1 : Int32) rfl ?_
      refine s_goto C at_120 (pc' := 124) rfl ?_
      refine s_istoreP C at_124 (pc' := 126) rfl #[.val (.int x1), .val (.int x2), .val (.int x3), .val (.int (3 : Int32)), .val (.int (1 : Int32)), .val .null, .val (.ref r108), .val (.ref r111), .val (.ref a114), .val (.int (1 : Int32)), .unset] rfl ?_
      refine s_iloadN C at_126 (pc' := 127) rfl rfl ?_
      refine s_iconst C at_127 (pc' := 128) rfl (3 : Int32) rfl ?_
      refine s_icmp_lt C at_128 (pc' := 131) rfl (pcY := 158) rfl (fun hc => by exfalso; revert hc; decide) (fun c189 => ?_)
      refine s_aload C at_131 (pc' := 133) rfl rfl rfl ?_
      refine s_aload C at_133 (pc' := 135) rfl rfl rfl ?_
      have Ex191 := ((((X111.ext E114).keep K121).keep K175).keep K182)
      refine s_callV0 C at_135 (pc' := 138) rfl (w32 hw) (w33 hw) (notFace_of_selects (args := #[]) (mvT C.2.1 (w35 hw))) (w35 hw) (w34 hw) (w9 hw) (w36 hw) (by decide) E182 [(.ref r111)] [] pd5 rfl rfl (c_add2 l Z a0 hw a114 ar121 r111 .null (.ref r108) h182 n0 sz184 E182 gn118 gn121 ne121 Fe182 Fs182 V182 O182 (Ins.of_exa Ex191 (w52 hw))) rfl (W := 0) rfl (by decide) (by decide) (k' := 4) rfl (by decide) (n' := 20) rfl (by decide) (fun h190 q190 => ?_)
      obtain ⟨K190, E190, Fe190, Fs190, V190, O190⟩ := q190
      have sz192 : n0 ≤ h190.size := (Nat.le_trans sz184 K190.1)
      have Od193 : Old Z n0 h190 := Od185.keep K190 (allS gn118 (allS gn121 all0))
      refine s_iload C at_138 (pc' := 140) rfl rfl ?_
      refine s_if_eq C at_140 (pc' := 143) rfl (pcY := 155) rfl (fun hc => by exfalso; revert hc; decide) (fun c194 => ?_)
      refine s_aload C at_143 (pc' := 145) rfl rfl rfl ?_
      refine s_callVI C at_145 (pc' := 148) rfl (w20 hw) (w21 hw) (notFace_of_selects (args := #[]) (mvT C.2.1 (w23 hw))) (w23 hw) (w22 hw) (w9 hw) (w24 hw) (by decide) E190 [] [] pd2 rfl rfl (c_emp l Z a0 hw a114 (3 : Int32) h190 n0 sz192 E190 Fs190) rfl (W := 0) rfl (by decide) (by decide) (k' := 4) rfl (by decide) (n' := 20) rfl (by decide) (fun _ _ q195 => ?_)
      obtain ⟨rfl, rfl⟩ := q195
      refine s_foldI C (y := (0 : Int32)) (by decide) ?_
      refine s_if_ne C at_148 (pc' := 151) rfl (pcY := 155) rfl (fun hc => by exfalso; revert hc; decide) (fun c196 => ?_)
      refine s_iconst C at_151 (pc' := 152) rfl (1 : Int32) rfl ?_
      refine s_goto C at_152 (pc' := 156) rfl ?_
      refine s_istoreP C at_156 (pc' := 158) rfl #[.val (.int x1), .val (.int x2), .val (.int x3), .val (.int (3 : Int32)), .val (.int (1 : Int32)), .val .null, .val (.ref r108), .val (.ref r111), .val (.ref a114), .val (.int (1 : Int32)), .unset] rfl ?_
      refine s_aload C at_158 (pc' := 160) rfl rfl rfl ?_
      refine s_callVI C at_160 (pc' := 163) rfl (w20 hw) (w21 hw) (notFace_of_selects (args := #[]) (mvT C.2.1 (w23 hw))) (w23 hw) (w22 hw) (w9 hw) (w24 hw) (by decide) E190 [] [] pd2 rfl rfl (c_emp l Z a0 hw a114 (3 : Int32) h190 n0 sz192 E190 Fs190) rfl (W := 0) rfl (by decide) (by decide) (k' := 4) rfl (by decide) (n' := 20) rfl (by decide) (fun _ _ q197 => ?_)
      obtain ⟨rfl, rfl⟩ := q197
      refine s_foldI C (y := (0 : Int32)) (by decide) ?_
      refine s_istoreP C at_163 (pc' := 165) rfl #[.val (.int x1), .val (.int x2), .val (.int x3), .val (.int (3 : Int32)), .val (.int (1 : Int32)), .val .null, .val (.ref r108), .val (.ref r111), .val (.ref a114), .val (.int (1 : Int32)), .val (.int (0 : Int32))] rfl ?_
      refine s_iload C at_165 (pc' := 167) rfl rfl ?_
      refine s_if_eq C at_167 (pc' := 170) rfl (pcY := 206) rfl (fun hc => by exfalso; revert hc; decide) (fun c198 => ?_)
      refine s_iload C at_170 (pc' := 172) rfl rfl ?_
      refine s_iloadN C at_172 (pc' := 173) rfl rfl ?_
      refine s_if_ne C at_173 (pc' := 176) rfl (pcY := 180) rfl (fun c199 => ?_) (fun hc => by exfalso; revert hc; decide)
      refine s_iconst C at_180 (pc' := 181) rfl (0 : Int32) rfl ?_
      refine s_icmp_ne C at_181 (pc' := 184) rfl (pcY := 206) rfl (fun hc => by exfalso; revert hc; decide) (fun c200 => ?_)
      refine s_aload C at_184 (pc' := 186) rfl rfl rfl ?_
      refine s_callVI C at_186 (pc' := 189) rfl (w27 hw) (w28 hw) (notFace_of_selects (args := #[]) (mvT C.2.1 (w30 hw))) (w30 hw) (w29 hw) (w9 hw) (w31 hw) (by decide) E190 [] [] pd0 rfl rfl (c_siz l Z a0 hw a114 (3 : Int32) h190 n0 sz192 E190 Fs190) rfl (W := 0) rfl (by decide) (by decide) (k' := 4) rfl (by decide) (n' := 20) rfl (by decide) (fun _ _ q201 => ?_)
      obtain ⟨rfl, rfl⟩ := q201
      refine s_foldI C (y := (3 : Int32)) (by decide) ?_
      refine s_if_ne C at_189 (pc' := 192) rfl (pcY := 196) rfl (fun c202 => ?_) (fun hc => by exfalso; revert hc; decide)
      refine s_iconst C at_196 (pc' := 197) rfl (0 : Int32) rfl ?_
      refine s_iload C at_197 (pc' := 199) rfl rfl ?_
      refine s_icmp_ne C at_199 (pc' := 202) rfl (pcY := 206) rfl (fun hc => by exfalso; revert hc; decide) (fun c203 => ?_)
      refine s_iconst C at_202 (pc' := 203) rfl (1 : Int32) rfl ?_
      refine s_goto C at_203 (pc' := 207) rfl ?_
      exact s_retN C (by simp) at_207 (by decide) (by decide) rfl
end Own
end Jvm.Pilot.@@N@@
namespace Jvm.Pilot.@@N@@
open Jvm Jvm.ClassFile Sem Op Lib Jvm.Free Jvm.Stand Jvm.LawKit Jvm.RoadKit Bundle Own Jvm.Pilot.@@N@@.Jvm.D
set_option maxRecDepth 65536 in
set_option maxHeartbeats 40000000 in
theorem comes_1 {Post : Tables → Env → Array Value → State → Outcome → State → Prop} (hpost : ∀ tb e args s v u, (limb_1_1.after args s (.returned v) u = true ∧ limb_1_2.after args s (.returned v) u = true ∧ True) → FrameEnd s (.returned v) u (Jvm.fieldLocs frame_1_writes args s ++ Jvm.arrayLocs frame_1_arrays args s ++ Jvm.staticLocs frame_1_statics s) 24 128 → Post tb e args s (.returned v) u) :
    ArmFor flags0 classFile x code maxLocals ret World_1 tables_1 room_1 Calls_1 rest_1 Pre_1 Post := by
  intro l hfl _ _ p e ha hc hk s m args below hf hA hF happ hP
  obtain ⟨hcalls, hrest, hpre⟩ := hP
  obtain ⟨-, -, -, hnamed, -, -, -, hat⟩ := (Spec.applies_iff hf).mp happ
  obtain ⟨hg, hn⟩ := and_e (Cond.before_iff.mp (show (Jvm.Cond.and given_1 narrow_1).before args s = true from hpre))
  obtain ⟨g1, g2⟩ := and_e hg
  obtain ⟨g3, g4⟩ := and_e g2
  obtain ⟨g5, g6⟩ := and_e g4
  obtain ⟨w0, w1, w2, rfl⟩ : ∃ w0 w1 w2 : Value, args = #[w0, w1, w2] := by
    have hs : args.size = 3 := by simpa [Cond.value, given_1] using g1
    obtain ⟨L⟩ := args
    match L, hs with
    | [w0, w1, w2], _ => exact ⟨w0, w1, w2, rfl⟩
  have hw := fun d (hd : d ∈ tables_1) => atoms_spec (ws := Jvm.Cond.code x code maxLocals ret :: tables_1) hat d (List.mem_cons_of_mem _ hd)
  have hfit : Fit s := fun {y c} hc i hi => by
    obtain ⟨ha, rfl⟩ := Array.getElem?_eq_some_iff.mp hc
    have q := List.all_eq_true.mp ((Array.all_eq_true_iff_forall_mem.mp hF) _ (Array.getElem_mem ha)) i (List.mem_range.mpr hi)
    simpa [Array.getElem?_eq_getElem hi] using q
  obtain ⟨hsets, hown0⟩ := atoms_of _ (rest_1_c_eq ▸ (show rest_1_c.before _ s = true from hrest))
  have hr0 := Cond.before_iff.mp hown0
  obtain ⟨i0, ei0⟩ := is_v g3
  obtain rfl : w0 = (.int i0) := Option.some.inj ei0
  obtain ⟨i1, ei1⟩ := is_v g5
  obtain rfl : w1 = (.int i1) := Option.some.inj ei1
  obtain ⟨i2, ei2⟩ := is_v g6
  obtain rfl : w2 = (.int i2) := Option.some.inj ei2
  obtain ⟨ca, cl, T1, T2, T3⟩ := own_rest hw hsets
  obtain ⟨n, o, h1, h2, h3, _, L, rfl, ⟨⟨_, rfl, rfl⟩, N⟩, hq⟩ := law l s _ hw i0 i1 i2 ca cl s.heap s.heap.size (Nat.le_refl _) (Old.start s) T1 T2 T3 p e ha hc hk s m _ below hf ((Spec.applies_iff_loose hf).mp happ).1 ⟨rfl, State.Warmed39.refl s, rfl⟩ trivial
  refine ⟨n, _, h1, h2, h3, hpost _ _ _ _ _ _ ⟨Cond.after_iff.mpr rfl, Cond.after_iff.mpr (eq_i res_at (Term.int_eval (1)) rfl), trivial⟩ ⟨hq.1, hq.2.1, (hq.2.2.sift fun y hy => Or.inr (N y hy)).mono (by decide) (by decide)⟩⟩
theorem main_1_1 : Claimed_1_1 := comes_1 fun _ _ _ _ _ _ h hF => ⟨h.1, hF⟩
theorem main_1_2 : Claimed_1_2 := comes_1 fun _ _ _ _ _ _ h hF => ⟨h.2.1, hF⟩
end Jvm.Pilot.@@N@@
namespace Jvm.Pilot.@@N@@
open Jvm Jvm.ClassFile Sem Op Lib Jvm.Free Jvm.Stand Jvm.Pilot.@@N@@.Jvm.D
/-! MADE BY PROGRAM (witnessworld.py) out of the Statement's table words and the real class files: 17 classes; the members and pool entries that the words name. The judged class is class 1, her method 1. -/
namespace start1
open Jvm.ClassFile
def u (s : String) : CpInfo := .utf8 (stringToUtf16 s)
/-- a pool by its gaps: so many unusable entries, then the entry; so many at the end -/
def gap : Nat → List CpInfo → List CpInfo
  | 0, r => r
  | n + 1, r => .unusable :: gap n r
def poolList (es : List (Nat × CpInfo)) (last : Nat) : List CpInfo := es.foldr (fun e r => gap e.1 (e.2 :: r)) (gap last [])
def pool (es : List (Nat × CpInfo)) (last : Nat) : Array CpInfo := ⟨poolList es last⟩
def fileOf (pool : Array CpInfo) (this : Nat) (attrs : Array Attribute := #[]) (ms : Array MethodInfo := #[]) (fl : Nat := 33) (sup : Nat := 0) (ifs : Array Nat := #[]) (fds : Array FieldInfo := #[]) : ClassFile where
  minorVersion := 0
  majorVersion := 65
  constantPool := pool
  accessFlags := fl
  thisClass := this
  superClass := sup
  interfaces := ifs
  fields := fds
  methods := ms
  attributes := attrs
def plain (name : String) (sup : Option ClassId) : Class where
  name := name
  kind := .ordinary
  loader := none
  accessFlags := 33
  super := sup
  interfaces := #[]
  cf := none
  fields := #[]
  methods := #[]
  instanceTypes := #[]
  staticTypes := #[]
  resolved := #[]
  callSites := []
  init := .initialized
  statics := none
  mirror := none

def pool0 : Array CpInfo := pool [(5, u "<init>"), (0, u "()V"), (1, .class_ 10), (1, u "java/lang/Object")] 113

def k0c0 : Code := { maxStack := 0, maxLocals := 1, code := object_method_1_code, exceptionTable := #[], attributes := #[] }
def k0m0 : Method := { name := "<init>", desc := "()V", sig := { parameters := [], returnType := none }, accessFlags := 1, code := some k0c0 }
/-- java/lang/Object -/
def k0 : Class := { plain "java/lang/Object" none with
  accessFlags := 33
  interfaces := #[]
  cf := some (fileOf pool0 8 #[] #[{ accessFlags := 1, nameIndex := 5, descriptorIndex := 6, attributes := #[] }] 33 0 #[] #[])
  fields := #[]
  methods := #[k0m0]
  instanceTypes := #[]
  staticTypes := #[]
  resolved := Array.replicate 124 none
  statics := none }

def pool1 : Array CpInfo := pool [(2, .class_ 4), (0, .nameAndType 5 6), (0, u "java/lang/Object"), (0, u "<init>"), (0, u "()V"), (0, .methodref 8 9), (0, .class_ 10), (0, .nameAndType 11 12), (0, u "java/lang/Integer"), (0, u "valueOf"), (0, u "(I)Ljava/lang/Integer;"), (0, .class_ 14), (0, u "com/example/deathwatch/deathwatch/AppendOnlyList"), (0, .methodref 13 3), (0, .methodref 13 17), (0, .nameAndType 18 19), (0, u "isEmpty"), (0, u "()Z"), (0, .methodref 13 21), (0, .nameAndType 22 23), (0, u "add"), (0, u "(Ljava/lang/Object;)V"), (0, .methodref 13 25), (0, .nameAndType 26 27), (0, u "size"), (0, u "()I"), (0, .class_ 29), (0, u "com/example/deathwatch/deathwatch/AppendOnlyListIsEmptyPinLaw"), (2, u "law"), (0, u "(III)Z")] 3

def k1m0 : Method := { name := "<init>", desc := "()V", sig := { parameters := [], returnType := none }, accessFlags := 2, code := none }
def k1c1 : Code := { maxStack := 2, maxLocals := 11, code := code, exceptionTable := #[], attributes := #[] }
def k1m1 : Method := { name := "law", desc := "(III)Z", sig := { parameters := [.int, .int, .int], returnType := some .boolean }, accessFlags := 9, code := some k1c1 }
/-- com/example/deathwatch/deathwatch/AppendOnlyListIsEmptyPinLaw -/
def k1 : Class := { plain "com/example/deathwatch/deathwatch/AppendOnlyListIsEmptyPinLaw" (some 0) with
  accessFlags := 49
  interfaces := #[]
  cf := some (fileOf pool1 28 #[] #[{ accessFlags := 2, nameIndex := 5, descriptorIndex := 6, attributes := #[] }, { accessFlags := 9, nameIndex := 32, descriptorIndex := 33, attributes := #[] }] 49 2 #[] #[])
  fields := #[]
  methods := #[k1m0, k1m1]
  instanceTypes := #[]
  staticTypes := #[]
  resolved := Array.replicate 37 none
  statics := none }

def pool2 : Array CpInfo := pool [(1, .class_ 2), (0, u "java/io/Serializable"), (0, .class_ 4), (0, u "java/lang/Object")] 2

/-- java/io/Serializable -/
def k2 : Class := { plain "java/io/Serializable" (some 0) with
  accessFlags := 1537
  interfaces := #[]
  cf := some (fileOf pool2 1 #[] #[] 1537 3 #[] #[])
  fields := #[]
  methods := #[]
  instanceTypes := #[]
  staticTypes := #[]
  resolved := Array.replicate 7 none
  statics := none }

def pool3 : Array CpInfo := pool [(1, .methodref 2 3), (0, .class_ 4), (0, .nameAndType 5 6), (0, u "java/lang/Object"), (0, u "<init>"), (0, u "()V"), (1, .class_ 10), (1, u "java/lang/Number"), (2, .class_ 14), (0, u "java/io/Serializable"), (0, u "serialVersionUID"), (0, u "J")] 20

def k3c0 : Code := { maxStack := 1, maxLocals := 1, code := jdk_18_method_1_code, exceptionTable := #[], attributes := #[] }
def k3m0 : Method := { name := "<init>", desc := "()V", sig := { parameters := [], returnType := none }, accessFlags := 1, code := some k3c0 }
/-- java/lang/Number -/
def k3 : Class := { plain "java/lang/Number" (some 0) with
  accessFlags := 1057
  interfaces := #[2]
  cf := some (fileOf pool3 8 #[] #[{ accessFlags := 1, nameIndex := 5, descriptorIndex := 6, attributes := #[] }] 1057 2 #[13] #[{ accessFlags := 26, nameIndex := 15, descriptorIndex := 16, attributes := #[] }])
  fields := #[{ name := "serialVersionUID", type := .long, accessFlags := 26, slot := 0, constantValue := 0 }]
  methods := #[k3m0]
  instanceTypes := #[]
  staticTypes := #[.long]
  resolved := Array.replicate 37 none
  statics := none }

def pool4 : Array CpInfo := pool [(1, .class_ 2), (0, u "java/lang/Comparable"), (0, .class_ 4), (0, u "java/lang/Object")] 7

/-- java/lang/Comparable -/
def k4 : Class := { plain "java/lang/Comparable" (some 0) with
  accessFlags := 1537
  interfaces := #[]
  cf := some (fileOf pool4 1 #[] #[] 1537 3 #[] #[])
  fields := #[]
  methods := #[]
  instanceTypes := #[]
  staticTypes := #[]
  resolved := Array.replicate 12 none
  statics := none }

def pool5 : Array CpInfo := pool [(1, .class_ 2), (0, u "java/lang/constant/Constable"), (0, .class_ 4), (0, u "java/lang/Object")] 6

/-- java/lang/constant/Constable -/
def k5 : Class := { plain "java/lang/constant/Constable" (some 0) with
  accessFlags := 1537
  interfaces := #[]
  cf := some (fileOf pool5 1 #[] #[] 1537 3 #[] #[])
  fields := #[]
  methods := #[]
  instanceTypes := #[]
  staticTypes := #[]
  resolved := Array.replicate 11 none
  statics := none }

def pool6 : Array CpInfo := pool [(1, .class_ 2), (0, u "java/lang/constant/ConstantDesc"), (0, .class_ 4), (0, u "java/lang/Object")] 32

/-- java/lang/constant/ConstantDesc -/
def k6 : Class := { plain "java/lang/constant/ConstantDesc" (some 0) with
  accessFlags := 1537
  interfaces := #[]
  cf := some (fileOf pool6 1 #[] #[] 1537 3 #[] #[])
  fields := #[]
  methods := #[]
  instanceTypes := #[]
  staticTypes := #[]
  resolved := Array.replicate 37 none
  statics := none }

def pool7 : Array CpInfo := pool [(1, .class_ 2), (0, u "java/lang/Integer"), (16, u "digits"), (0, u "[C"), (46, u "<init>"), (17, u "DigitOnes"), (0, u "[B"), (2, u "DigitTens"), (10, .nameAndType 67 101), (0, u "()V"), (85, u "valueOf"), (0, u "(I)Ljava/lang/Integer;"), (0, .class_ 190), (0, u "java/lang/Integer$IntegerCache"), (0, .fieldref 189 192), (0, .nameAndType 193 194), (0, u "high"), (0, u "I"), (0, .fieldref 189 196), (0, .nameAndType 197 198), (0, u "cache"), (0, u "[Ljava/lang/Integer;"), (0, .methodref 1 200), (0, .nameAndType 67 201), (0, u "(I)V"), (0, .methodref 203 100), (0, .class_ 204), (0, u "java/lang/Number"), (0, .fieldref 1 206), (0, .nameAndType 207 194), (0, u "value"), (94, u "TYPE"), (0, u "Ljava/lang/Class;"), (0, .class_ 305), (0, u "java/lang/Comparable"), (0, .class_ 307), (0, u "java/lang/constant/Constable"), (0, .class_ 309), (0, u "java/lang/constant/ConstantDesc"), (0, u "MIN_VALUE"), (1, u "MAX_VALUE"), (3, u "SIZE"), (1, u "BYTES"), (1, u "serialVersionUID"), (0, u "J")] 131

def k7c0 : Code := { maxStack := 3, maxLocals := 1, code := jdk_33_method_22_code, exceptionTable := #[], attributes := #[] }
def k7m0 : Method := { name := "valueOf", desc := "(I)Ljava/lang/Integer;", sig := { parameters := [.int], returnType := some (.object "java/lang/Integer") }, accessFlags := 9, code := some k7c0 }
def k7c1 : Code := { maxStack := 2, maxLocals := 2, code := jdk_33_method_23_code, exceptionTable := #[], attributes := #[] }
def k7m1 : Method := { name := "<init>", desc := "(I)V", sig := { parameters := [.int], returnType := none }, accessFlags := 1, code := some k7c1 }
/-- java/lang/Integer -/
def k7 : Class := { plain "java/lang/Integer" (some 3) with
  accessFlags := 49
  interfaces := #[4, 5, 6]
  cf := some (fileOf pool7 1 #[.nestMembers #[189]] #[{ accessFlags := 9, nameIndex := 187, descriptorIndex := 188, attributes := #[] }, { accessFlags := 1, nameIndex := 67, descriptorIndex := 201, attributes := #[] }] 49 203 #[304, 306, 308] #[{ accessFlags := 25, nameIndex := 310, descriptorIndex := 194, attributes := #[] }, { accessFlags := 25, nameIndex := 312, descriptorIndex := 194, attributes := #[] }, { accessFlags := 25, nameIndex := 302, descriptorIndex := 303, attributes := #[] }, { accessFlags := 24, nameIndex := 19, descriptorIndex := 20, attributes := #[] }, { accessFlags := 24, nameIndex := 89, descriptorIndex := 86, attributes := #[] }, { accessFlags := 24, nameIndex := 85, descriptorIndex := 86, attributes := #[] }, { accessFlags := 18, nameIndex := 207, descriptorIndex := 194, attributes := #[] }, { accessFlags := 25, nameIndex := 316, descriptorIndex := 194, attributes := #[] }, { accessFlags := 25, nameIndex := 318, descriptorIndex := 194, attributes := #[] }, { accessFlags := 26, nameIndex := 320, descriptorIndex := 321, attributes := #[] }])
  fields := #[{ name := "MIN_VALUE", type := .int, accessFlags := 25, slot := 0, constantValue := 0 }, { name := "MAX_VALUE", type := .int, accessFlags := 25, slot := 1, constantValue := 0 }, { name := "TYPE", type := (.object "java/lang/Class"), accessFlags := 25, slot := 2, constantValue := 0 }, { name := "digits", type := (.array .char), accessFlags := 24, slot := 3, constantValue := 0 }, { name := "DigitTens", type := (.array .byte), accessFlags := 24, slot := 4, constantValue := 0 }, { name := "DigitOnes", type := (.array .byte), accessFlags := 24, slot := 5, constantValue := 0 }, { name := "value", type := .int, accessFlags := 18, slot := 0, constantValue := 0 }, { name := "SIZE", type := .int, accessFlags := 25, slot := 6, constantValue := 0 }, { name := "BYTES", type := .int, accessFlags := 25, slot := 7, constantValue := 0 }, { name := "serialVersionUID", type := .long, accessFlags := 26, slot := 8, constantValue := 0 }]
  methods := #[k7m0, k7m1]
  instanceTypes := #[.int]
  staticTypes := #[.int, .int, (.object "java/lang/Class"), (.array .char), (.array .byte), (.array .byte), .int, .int, .long]
  resolved := Array.replicate 453 none
  statics := none }

def pool8 : Array CpInfo := pool [(2, .class_ 4), (1, u "java/lang/Object"), (0, u "<init>"), (0, u "()V"), (0, .class_ 8), (0, u "java/lang/Integer"), (7, .class_ 18), (1, u "java/lang/Integer$IntegerCache"), (0, u "$assertionsDisabled"), (0, u "Z"), (26, u "high"), (0, u "I"), (8, u "archivedCache"), (0, u "[Ljava/lang/Integer;"), (12, u "cache"), (0, u "low")] 27

def k8m0 : Method := { name := "<init>", desc := "()V", sig := { parameters := [], returnType := none }, accessFlags := 2, code := none }
/-- java/lang/Integer$IntegerCache -/
def k8 : Class := { plain "java/lang/Integer$IntegerCache" (some 0) with
  accessFlags := 48
  interfaces := #[]
  cf := some (fileOf pool8 16 #[.nestHost 7] #[{ accessFlags := 2, nameIndex := 5, descriptorIndex := 6, attributes := #[] }] 48 2 #[] #[{ accessFlags := 24, nameIndex := 72, descriptorIndex := 48, attributes := #[] }, { accessFlags := 24, nameIndex := 47, descriptorIndex := 48, attributes := #[] }, { accessFlags := 24, nameIndex := 71, descriptorIndex := 58, attributes := #[] }, { accessFlags := 8, nameIndex := 57, descriptorIndex := 58, attributes := #[] }, { accessFlags := 4120, nameIndex := 19, descriptorIndex := 20, attributes := #[] }])
  fields := #[{ name := "low", type := .int, accessFlags := 24, slot := 0, constantValue := 0 }, { name := "high", type := .int, accessFlags := 24, slot := 1, constantValue := 0 }, { name := "cache", type := (.array (.object "java/lang/Integer")), accessFlags := 24, slot := 2, constantValue := 0 }, { name := "archivedCache", type := (.array (.object "java/lang/Integer")), accessFlags := 8, slot := 3, constantValue := 0 }, { name := "$assertionsDisabled", type := .boolean, accessFlags := 4120, slot := 4, constantValue := 0 }]
  methods := #[k8m0]
  instanceTypes := #[]
  staticTypes := #[.int, .int, (.array (.object "java/lang/Integer")), (.array (.object "java/lang/Integer")), .boolean]
  resolved := Array.replicate 100 none
  statics := some 0 }

def pool9 : Array CpInfo := pool [(1, .methodref 2 3), (0, .class_ 4), (0, .nameAndType 5 6), (0, u "java/lang/Object"), (0, u "<init>"), (0, u "()V"), (0, .class_ 8), (0, u "com/example/deathwatch/deathwatch/AppendOnlyList"), (0, .fieldref 7 10), (0, .nameAndType 11 12), (0, u "elements"), (0, u "[Ljava/lang/Object;"), (0, .fieldref 7 14), (0, .nameAndType 15 16), (0, u "size"), (0, u "I"), (13, .class_ 31), (0, u "com/example/deathwatch/deathwatch/AppendOnlyList$Snapshot"), (3, u "FIRST_CAPACITY"), (4, u "add"), (0, u "(Ljava/lang/Object;)V"), (3, u "isEmpty"), (0, u "()Z"), (0, u "()I")] 12

def k9c0 : Code := { maxStack := 2, maxLocals := 1, code := prog_1_method_1_code, exceptionTable := #[], attributes := #[] }
def k9m0 : Method := { name := "<init>", desc := "()V", sig := { parameters := [], returnType := none }, accessFlags := 0, code := some k9c0 }
def k9c1 : Code := { maxStack := 4, maxLocals := 2, code := prog_1_method_2_code, exceptionTable := #[], attributes := #[] }
def k9m1 : Method := { name := "add", desc := "(Ljava/lang/Object;)V", sig := { parameters := [(.object "java/lang/Object")], returnType := none }, accessFlags := 0, code := some k9c1 }
def k9c2 : Code := { maxStack := 1, maxLocals := 1, code := prog_1_method_3_code, exceptionTable := #[], attributes := #[] }
def k9m2 : Method := { name := "isEmpty", desc := "()Z", sig := { parameters := [], returnType := some .boolean }, accessFlags := 0, code := some k9c2 }
def k9c3 : Code := { maxStack := 1, maxLocals := 1, code := prog_1_method_4_code, exceptionTable := #[], attributes := #[] }
def k9m3 : Method := { name := "size", desc := "()I", sig := { parameters := [], returnType := some .int }, accessFlags := 0, code := some k9c3 }
/-- com/example/deathwatch/deathwatch/AppendOnlyList -/
def k9 : Class := { plain "com/example/deathwatch/deathwatch/AppendOnlyList" (some 0) with
  accessFlags := 48
  interfaces := #[]
  cf := some (fileOf pool9 7 #[.nestMembers #[30]] #[{ accessFlags := 0, nameIndex := 5, descriptorIndex := 6, attributes := #[] }, { accessFlags := 0, nameIndex := 40, descriptorIndex := 41, attributes := #[] }, { accessFlags := 0, nameIndex := 45, descriptorIndex := 46, attributes := #[] }, { accessFlags := 0, nameIndex := 15, descriptorIndex := 47, attributes := #[] }] 48 2 #[] #[{ accessFlags := 26, nameIndex := 35, descriptorIndex := 16, attributes := #[] }, { accessFlags := 2, nameIndex := 11, descriptorIndex := 12, attributes := #[] }, { accessFlags := 2, nameIndex := 15, descriptorIndex := 16, attributes := #[] }])
  fields := #[{ name := "FIRST_CAPACITY", type := .int, accessFlags := 26, slot := 0, constantValue := 0 }, { name := "elements", type := (.array (.object "java/lang/Object")), accessFlags := 2, slot := 0, constantValue := 0 }, { name := "size", type := .int, accessFlags := 2, slot := 1, constantValue := 0 }]
  methods := #[k9m0, k9m1, k9m2, k9m3]
  instanceTypes := #[(.array (.object "java/lang/Object")), .int]
  staticTypes := #[.int]
  resolved := Array.replicate 60 none
  statics := none }

def pool10 : Array CpInfo := pool [(1, u "java/lang/Cloneable"), (0, .class_ 1), (0, u "java/lang/Object"), (0, .class_ 3)] 3

/-- java/lang/Cloneable -/
def k10 : Class := { plain "java/lang/Cloneable" (some 0) with
  accessFlags := 1537
  interfaces := #[]
  cf := some (fileOf pool10 2 #[] #[] 1537 4 #[] #[])
  fields := #[]
  methods := #[]
  instanceTypes := #[]
  staticTypes := #[]
  resolved := Array.replicate 8 none
  statics := none }

/-- the primitive byte -/
def k11 : Class := { plain "byte" none with kind := .primitive 'B', accessFlags := 0x411 }
/-- [B -/
def k12 : Class := { plain "[B" (some 0) with kind := .array 11 .byte, interfaces := #[10, 2], accessFlags := 1041 }

/-- the primitive int -/
def k13 : Class := { plain "int" none with kind := .primitive 'I', accessFlags := 0x411 }
/-- [I -/
def k14 : Class := { plain "[I" (some 0) with kind := .array 13 .int, interfaces := #[10, 2], accessFlags := 1041 }

/-- [Ljava/lang/Integer; -/
def k15 : Class := { plain "[Ljava/lang/Integer;" (some 0) with kind := .array 7 (.object "java/lang/Integer"), interfaces := #[10, 2], accessFlags := 1041 }

/-- [Ljava/lang/Object; -/
def k16 : Class := { plain "[Ljava/lang/Object;" (some 0) with kind := .array 0 (.object "java/lang/Object"), interfaces := #[10, 2], accessFlags := 1041 }

def heap : Heap := #[{ cls := 8, slots := #[.int 0, .int 127, .ref 1, .null, .int 0], vm := .statics 8 },
  { cls := 15, slots := #[.ref 2, .ref 3, .ref 4, .ref 5, .ref 6, .ref 7, .ref 8, .ref 9, .ref 10, .ref 11, .ref 12, .ref 13, .ref 14, .ref 15, .ref 16, .ref 17, .ref 18, .ref 19, .ref 20, .ref 21, .ref 22, .ref 23, .ref 24, .ref 25, .ref 26, .ref 27, .ref 28, .ref 29, .ref 30, .ref 31, .ref 32, .ref 33, .ref 34, .ref 35, .ref 36, .ref 37, .ref 38, .ref 39, .ref 40, .ref 41, .ref 42, .ref 43, .ref 44, .ref 45, .ref 46, .ref 47, .ref 48, .ref 49, .ref 50, .ref 51, .ref 52, .ref 53, .ref 54, .ref 55, .ref 56, .ref 57, .ref 58, .ref 59, .ref 60, .ref 61, .ref 62, .ref 63, .ref 64, .ref 65, .ref 66, .ref 67, .ref 68, .ref 69, .ref 70, .ref 71, .ref 72, .ref 73, .ref 74, .ref 75, .ref 76, .ref 77, .ref 78, .ref 79, .ref 80, .ref 81, .ref 82, .ref 83, .ref 84, .ref 85, .ref 86, .ref 87, .ref 88, .ref 89, .ref 90, .ref 91, .ref 92, .ref 93, .ref 94, .ref 95, .ref 96, .ref 97, .ref 98, .ref 99, .ref 100, .ref 101, .ref 102, .ref 103, .ref 104, .ref 105, .ref 106, .ref 107, .ref 108, .ref 109, .ref 110, .ref 111, .ref 112, .ref 113, .ref 114, .ref 115, .ref 116, .ref 117, .ref 118, .ref 119, .ref 120, .ref 121, .ref 122, .ref 123, .ref 124, .ref 125, .ref 126, .ref 127, .ref 128, .ref 129, .ref 130, .ref 131, .ref 132, .ref 133, .ref 134, .ref 135, .ref 136, .ref 137, .ref 138, .ref 139, .ref 140, .ref 141, .ref 142, .ref 143, .ref 144, .ref 145, .ref 146, .ref 147, .ref 148, .ref 149, .ref 150, .ref 151, .ref 152, .ref 153, .ref 154, .ref 155, .ref 156, .ref 157, .ref 158, .ref 159, .ref 160, .ref 161, .ref 162, .ref 163, .ref 164, .ref 165, .ref 166, .ref 167, .ref 168, .ref 169, .ref 170, .ref 171, .ref 172, .ref 173, .ref 174, .ref 175, .ref 176, .ref 177, .ref 178, .ref 179, .ref 180, .ref 181, .ref 182, .ref 183, .ref 184, .ref 185, .ref 186, .ref 187, .ref 188, .ref 189, .ref 190, .ref 191, .ref 192, .ref 193, .ref 194, .ref 195, .ref 196, .ref 197, .ref 198, .ref 199, .ref 200, .ref 201, .ref 202, .ref 203, .ref 204, .ref 205, .ref 206, .ref 207, .ref 208, .ref 209, .ref 210, .ref 211, .ref 212, .ref 213, .ref 214, .ref 215, .ref 216, .ref 217, .ref 218, .ref 219, .ref 220, .ref 221, .ref 222, .ref 223, .ref 224, .ref 225, .ref 226, .ref 227, .ref 228, .ref 229, .ref 230, .ref 231, .ref 232, .ref 233, .ref 234, .ref 235, .ref 236, .ref 237, .ref 238, .ref 239, .ref 240, .ref 241, .ref 242, .ref 243, .ref 244, .ref 245, .ref 246, .ref 247, .ref 248, .ref 249, .ref 250, .ref 251, .ref 252, .ref 253, .ref 254, .ref 255, .ref 256, .ref 257], vm := .none },
  { cls := 7, slots := #[.int (-128)], vm := .none },
  { cls := 7, slots := #[.int (-127)], vm := .none },
  { cls := 7, slots := #[.int (-126)], vm := .none },
  { cls := 7, slots := #[.int (-125)], vm := .none },
  { cls := 7, slots := #[.int (-124)], vm := .none },
  { cls := 7, slots := #[.int (-123)], vm := .none },
  { cls := 7, slots := #[.int (-122)], vm := .none },
  { cls := 7, slots := #[.int (-121)], vm := .none },
  { cls := 7, slots := #[.int (-120)], vm := .none },
  { cls := 7, slots := #[.int (-119)], vm := .none },
  { cls := 7, slots := #[.int (-118)], vm := .none },
  { cls := 7, slots := #[.int (-117)], vm := .none },
  { cls := 7, slots := #[.int (-116)], vm := .none },
  { cls := 7, slots := #[.int (-115)], vm := .none },
  { cls := 7, slots := #[.int (-114)], vm := .none },
  { cls := 7, slots := #[.int (-113)], vm := .none },
  { cls := 7, slots := #[.int (-112)], vm := .none },
  { cls := 7, slots := #[.int (-111)], vm := .none },
  { cls := 7, slots := #[.int (-110)], vm := .none },
  { cls := 7, slots := #[.int (-109)], vm := .none },
  { cls := 7, slots := #[.int (-108)], vm := .none },
  { cls := 7, slots := #[.int (-107)], vm := .none },
  { cls := 7, slots := #[.int (-106)], vm := .none },
  { cls := 7, slots := #[.int (-105)], vm := .none },
  { cls := 7, slots := #[.int (-104)], vm := .none },
  { cls := 7, slots := #[.int (-103)], vm := .none },
  { cls := 7, slots := #[.int (-102)], vm := .none },
  { cls := 7, slots := #[.int (-101)], vm := .none },
  { cls := 7, slots := #[.int (-100)], vm := .none },
  { cls := 7, slots := #[.int (-99)], vm := .none },
  { cls := 7, slots := #[.int (-98)], vm := .none },
  { cls := 7, slots := #[.int (-97)], vm := .none },
  { cls := 7, slots := #[.int (-96)], vm := .none },
  { cls := 7, slots := #[.int (-95)], vm := .none },
  { cls := 7, slots := #[.int (-94)], vm := .none },
  { cls := 7, slots := #[.int (-93)], vm := .none },
  { cls := 7, slots := #[.int (-92)], vm := .none },
  { cls := 7, slots := #[.int (-91)], vm := .none },
  { cls := 7, slots := #[.int (-90)], vm := .none },
  { cls := 7, slots := #[.int (-89)], vm := .none },
  { cls := 7, slots := #[.int (-88)], vm := .none },
  { cls := 7, slots := #[.int (-87)], vm := .none },
  { cls := 7, slots := #[.int (-86)], vm := .none },
  { cls := 7, slots := #[.int (-85)], vm := .none },
  { cls := 7, slots := #[.int (-84)], vm := .none },
  { cls := 7, slots := #[.int (-83)], vm := .none },
  { cls := 7, slots := #[.int (-82)], vm := .none },
  { cls := 7, slots := #[.int (-81)], vm := .none },
  { cls := 7, slots := #[.int (-80)], vm := .none },
  { cls := 7, slots := #[.int (-79)], vm := .none },
  { cls := 7, slots := #[.int (-78)], vm := .none },
  { cls := 7, slots := #[.int (-77)], vm := .none },
  { cls := 7, slots := #[.int (-76)], vm := .none },
  { cls := 7, slots := #[.int (-75)], vm := .none },
  { cls := 7, slots := #[.int (-74)], vm := .none },
  { cls := 7, slots := #[.int (-73)], vm := .none },
  { cls := 7, slots := #[.int (-72)], vm := .none },
  { cls := 7, slots := #[.int (-71)], vm := .none },
  { cls := 7, slots := #[.int (-70)], vm := .none },
  { cls := 7, slots := #[.int (-69)], vm := .none },
  { cls := 7, slots := #[.int (-68)], vm := .none },
  { cls := 7, slots := #[.int (-67)], vm := .none },
  { cls := 7, slots := #[.int (-66)], vm := .none },
  { cls := 7, slots := #[.int (-65)], vm := .none },
  { cls := 7, slots := #[.int (-64)], vm := .none },
  { cls := 7, slots := #[.int (-63)], vm := .none },
  { cls := 7, slots := #[.int (-62)], vm := .none },
  { cls := 7, slots := #[.int (-61)], vm := .none },
  { cls := 7, slots := #[.int (-60)], vm := .none },
  { cls := 7, slots := #[.int (-59)], vm := .none },
  { cls := 7, slots := #[.int (-58)], vm := .none },
  { cls := 7, slots := #[.int (-57)], vm := .none },
  { cls := 7, slots := #[.int (-56)], vm := .none },
  { cls := 7, slots := #[.int (-55)], vm := .none },
  { cls := 7, slots := #[.int (-54)], vm := .none },
  { cls := 7, slots := #[.int (-53)], vm := .none },
  { cls := 7, slots := #[.int (-52)], vm := .none },
  { cls := 7, slots := #[.int (-51)], vm := .none },
  { cls := 7, slots := #[.int (-50)], vm := .none },
  { cls := 7, slots := #[.int (-49)], vm := .none },
  { cls := 7, slots := #[.int (-48)], vm := .none },
  { cls := 7, slots := #[.int (-47)], vm := .none },
  { cls := 7, slots := #[.int (-46)], vm := .none },
  { cls := 7, slots := #[.int (-45)], vm := .none },
  { cls := 7, slots := #[.int (-44)], vm := .none },
  { cls := 7, slots := #[.int (-43)], vm := .none },
  { cls := 7, slots := #[.int (-42)], vm := .none },
  { cls := 7, slots := #[.int (-41)], vm := .none },
  { cls := 7, slots := #[.int (-40)], vm := .none },
  { cls := 7, slots := #[.int (-39)], vm := .none },
  { cls := 7, slots := #[.int (-38)], vm := .none },
  { cls := 7, slots := #[.int (-37)], vm := .none },
  { cls := 7, slots := #[.int (-36)], vm := .none },
  { cls := 7, slots := #[.int (-35)], vm := .none },
  { cls := 7, slots := #[.int (-34)], vm := .none },
  { cls := 7, slots := #[.int (-33)], vm := .none },
  { cls := 7, slots := #[.int (-32)], vm := .none },
  { cls := 7, slots := #[.int (-31)], vm := .none },
  { cls := 7, slots := #[.int (-30)], vm := .none },
  { cls := 7, slots := #[.int (-29)], vm := .none },
  { cls := 7, slots := #[.int (-28)], vm := .none },
  { cls := 7, slots := #[.int (-27)], vm := .none },
  { cls := 7, slots := #[.int (-26)], vm := .none },
  { cls := 7, slots := #[.int (-25)], vm := .none },
  { cls := 7, slots := #[.int (-24)], vm := .none },
  { cls := 7, slots := #[.int (-23)], vm := .none },
  { cls := 7, slots := #[.int (-22)], vm := .none },
  { cls := 7, slots := #[.int (-21)], vm := .none },
  { cls := 7, slots := #[.int (-20)], vm := .none },
  { cls := 7, slots := #[.int (-19)], vm := .none },
  { cls := 7, slots := #[.int (-18)], vm := .none },
  { cls := 7, slots := #[.int (-17)], vm := .none },
  { cls := 7, slots := #[.int (-16)], vm := .none },
  { cls := 7, slots := #[.int (-15)], vm := .none },
  { cls := 7, slots := #[.int (-14)], vm := .none },
  { cls := 7, slots := #[.int (-13)], vm := .none },
  { cls := 7, slots := #[.int (-12)], vm := .none },
  { cls := 7, slots := #[.int (-11)], vm := .none },
  { cls := 7, slots := #[.int (-10)], vm := .none },
  { cls := 7, slots := #[.int (-9)], vm := .none },
  { cls := 7, slots := #[.int (-8)], vm := .none },
  { cls := 7, slots := #[.int (-7)], vm := .none },
  { cls := 7, slots := #[.int (-6)], vm := .none },
  { cls := 7, slots := #[.int (-5)], vm := .none },
  { cls := 7, slots := #[.int (-4)], vm := .none },
  { cls := 7, slots := #[.int (-3)], vm := .none },
  { cls := 7, slots := #[.int (-2)], vm := .none },
  { cls := 7, slots := #[.int (-1)], vm := .none },
  { cls := 7, slots := #[.int 0], vm := .none },
  { cls := 7, slots := #[.int 1], vm := .none },
  { cls := 7, slots := #[.int 2], vm := .none },
  { cls := 7, slots := #[.int 3], vm := .none },
  { cls := 7, slots := #[.int 4], vm := .none },
  { cls := 7, slots := #[.int 5], vm := .none },
  { cls := 7, slots := #[.int 6], vm := .none },
  { cls := 7, slots := #[.int 7], vm := .none },
  { cls := 7, slots := #[.int 8], vm := .none },
  { cls := 7, slots := #[.int 9], vm := .none },
  { cls := 7, slots := #[.int 10], vm := .none },
  { cls := 7, slots := #[.int 11], vm := .none },
  { cls := 7, slots := #[.int 12], vm := .none },
  { cls := 7, slots := #[.int 13], vm := .none },
  { cls := 7, slots := #[.int 14], vm := .none },
  { cls := 7, slots := #[.int 15], vm := .none },
  { cls := 7, slots := #[.int 16], vm := .none },
  { cls := 7, slots := #[.int 17], vm := .none },
  { cls := 7, slots := #[.int 18], vm := .none },
  { cls := 7, slots := #[.int 19], vm := .none },
  { cls := 7, slots := #[.int 20], vm := .none },
  { cls := 7, slots := #[.int 21], vm := .none },
  { cls := 7, slots := #[.int 22], vm := .none },
  { cls := 7, slots := #[.int 23], vm := .none },
  { cls := 7, slots := #[.int 24], vm := .none },
  { cls := 7, slots := #[.int 25], vm := .none },
  { cls := 7, slots := #[.int 26], vm := .none },
  { cls := 7, slots := #[.int 27], vm := .none },
  { cls := 7, slots := #[.int 28], vm := .none },
  { cls := 7, slots := #[.int 29], vm := .none },
  { cls := 7, slots := #[.int 30], vm := .none },
  { cls := 7, slots := #[.int 31], vm := .none },
  { cls := 7, slots := #[.int 32], vm := .none },
  { cls := 7, slots := #[.int 33], vm := .none },
  { cls := 7, slots := #[.int 34], vm := .none },
  { cls := 7, slots := #[.int 35], vm := .none },
  { cls := 7, slots := #[.int 36], vm := .none },
  { cls := 7, slots := #[.int 37], vm := .none },
  { cls := 7, slots := #[.int 38], vm := .none },
  { cls := 7, slots := #[.int 39], vm := .none },
  { cls := 7, slots := #[.int 40], vm := .none },
  { cls := 7, slots := #[.int 41], vm := .none },
  { cls := 7, slots := #[.int 42], vm := .none },
  { cls := 7, slots := #[.int 43], vm := .none },
  { cls := 7, slots := #[.int 44], vm := .none },
  { cls := 7, slots := #[.int 45], vm := .none },
  { cls := 7, slots := #[.int 46], vm := .none },
  { cls := 7, slots := #[.int 47], vm := .none },
  { cls := 7, slots := #[.int 48], vm := .none },
  { cls := 7, slots := #[.int 49], vm := .none },
  { cls := 7, slots := #[.int 50], vm := .none },
  { cls := 7, slots := #[.int 51], vm := .none },
  { cls := 7, slots := #[.int 52], vm := .none },
  { cls := 7, slots := #[.int 53], vm := .none },
  { cls := 7, slots := #[.int 54], vm := .none },
  { cls := 7, slots := #[.int 55], vm := .none },
  { cls := 7, slots := #[.int 56], vm := .none },
  { cls := 7, slots := #[.int 57], vm := .none },
  { cls := 7, slots := #[.int 58], vm := .none },
  { cls := 7, slots := #[.int 59], vm := .none },
  { cls := 7, slots := #[.int 60], vm := .none },
  { cls := 7, slots := #[.int 61], vm := .none },
  { cls := 7, slots := #[.int 62], vm := .none },
  { cls := 7, slots := #[.int 63], vm := .none },
  { cls := 7, slots := #[.int 64], vm := .none },
  { cls := 7, slots := #[.int 65], vm := .none },
  { cls := 7, slots := #[.int 66], vm := .none },
  { cls := 7, slots := #[.int 67], vm := .none },
  { cls := 7, slots := #[.int 68], vm := .none },
  { cls := 7, slots := #[.int 69], vm := .none },
  { cls := 7, slots := #[.int 70], vm := .none },
  { cls := 7, slots := #[.int 71], vm := .none },
  { cls := 7, slots := #[.int 72], vm := .none },
  { cls := 7, slots := #[.int 73], vm := .none },
  { cls := 7, slots := #[.int 74], vm := .none },
  { cls := 7, slots := #[.int 75], vm := .none },
  { cls := 7, slots := #[.int 76], vm := .none },
  { cls := 7, slots := #[.int 77], vm := .none },
  { cls := 7, slots := #[.int 78], vm := .none },
  { cls := 7, slots := #[.int 79], vm := .none },
  { cls := 7, slots := #[.int 80], vm := .none },
  { cls := 7, slots := #[.int 81], vm := .none },
  { cls := 7, slots := #[.int 82], vm := .none },
  { cls := 7, slots := #[.int 83], vm := .none },
  { cls := 7, slots := #[.int 84], vm := .none },
  { cls := 7, slots := #[.int 85], vm := .none },
  { cls := 7, slots := #[.int 86], vm := .none },
  { cls := 7, slots := #[.int 87], vm := .none },
  { cls := 7, slots := #[.int 88], vm := .none },
  { cls := 7, slots := #[.int 89], vm := .none },
  { cls := 7, slots := #[.int 90], vm := .none },
  { cls := 7, slots := #[.int 91], vm := .none },
  { cls := 7, slots := #[.int 92], vm := .none },
  { cls := 7, slots := #[.int 93], vm := .none },
  { cls := 7, slots := #[.int 94], vm := .none },
  { cls := 7, slots := #[.int 95], vm := .none },
  { cls := 7, slots := #[.int 96], vm := .none },
  { cls := 7, slots := #[.int 97], vm := .none },
  { cls := 7, slots := #[.int 98], vm := .none },
  { cls := 7, slots := #[.int 99], vm := .none },
  { cls := 7, slots := #[.int 100], vm := .none },
  { cls := 7, slots := #[.int 101], vm := .none },
  { cls := 7, slots := #[.int 102], vm := .none },
  { cls := 7, slots := #[.int 103], vm := .none },
  { cls := 7, slots := #[.int 104], vm := .none },
  { cls := 7, slots := #[.int 105], vm := .none },
  { cls := 7, slots := #[.int 106], vm := .none },
  { cls := 7, slots := #[.int 107], vm := .none },
  { cls := 7, slots := #[.int 108], vm := .none },
  { cls := 7, slots := #[.int 109], vm := .none },
  { cls := 7, slots := #[.int 110], vm := .none },
  { cls := 7, slots := #[.int 111], vm := .none },
  { cls := 7, slots := #[.int 112], vm := .none },
  { cls := 7, slots := #[.int 113], vm := .none },
  { cls := 7, slots := #[.int 114], vm := .none },
  { cls := 7, slots := #[.int 115], vm := .none },
  { cls := 7, slots := #[.int 116], vm := .none },
  { cls := 7, slots := #[.int 117], vm := .none },
  { cls := 7, slots := #[.int 118], vm := .none },
  { cls := 7, slots := #[.int 119], vm := .none },
  { cls := 7, slots := #[.int 120], vm := .none },
  { cls := 7, slots := #[.int 121], vm := .none },
  { cls := 7, slots := #[.int 122], vm := .none },
  { cls := 7, slots := #[.int 123], vm := .none },
  { cls := 7, slots := #[.int 124], vm := .none },
  { cls := 7, slots := #[.int 125], vm := .none },
  { cls := 7, slots := #[.int 126], vm := .none },
  { cls := 7, slots := #[.int 127], vm := .none }]
def classes : Array Class := #[k0, k1, k2, k3, k4, k5, k6, k7, k8, k9, k10, k11, k12, k13, k14, k15, k16]
def interned : List (Array UInt16 × Addr) := []
def slotsUsed : Nat := 517
def theMethod : MethodId := ⟨1, 1⟩
def args0 : Array Value := #[.int 3, .int 5, .int 7]
def aboutOver (below : List Frame) : State where
  vm := { classes := classes, interned := interned.toArray }
  heap := heap
  slotsUsed := slotsUsed
  threads := #[{ frames := .invoking theMethod args0 :: below }]
def below0 : List Frame := [.native { method := ⟨0, 0⟩, args := #[] }]
def about1 : State := aboutOver below0
def p0 : Program := .bare "" "" ""
def e0 : Env := launch0.env 0 0 0
theorem w_frames : about1.frames = Frame.invoking theMethod args0 :: below0 := rfl
set_option maxRecDepth 65536 in
theorem w_args : argsFit about1.vm theMethod args0 = true := by decide +kernel
set_option maxRecDepth 65536 in
theorem w_heap : heapFits about1 = true := by decide +kernel
set_option maxRecDepth 65536 in
theorem w_runnable : about1.curStatus? = some .runnable := by decide +kernel
set_option maxRecDepth 65536 in
theorem w_alone : about1.alone = true := by decide +kernel
set_option maxRecDepth 65536 in
theorem w_named : about1.methodNamed? x = some theMethod := by decide +kernel
set_option maxRecDepth 65536 in
theorem w_hears : about1.hears theMethod below0 = true := by decide +kernel
set_option maxRecDepth 65536 in
theorem w_ripe : about1.ripe theMethod args0 below0 = true := by decide +kernel
theorem w_running : about1.status = .running := rfl
set_option maxRecDepth 65536 in
theorem w_room : about1.hasRoom e0.platform room_1 = true :=
  launch0.hasRoom_least _ room_1 (by decide +kernel) (by decide +kernel) (by decide +kernel) (by decide +kernel) (by decide +kernel) (by decide +kernel)
theorem allAtoms_all (ts : List Jvm.Cond) (a : Array Jvm.Value) (st : Jvm.State) : (allAtoms ts).before a st = ts.all (fun c => c.before a st) := by
  induction ts with
  | nil => rfl
  | cons c t ih =>
    show (Jvm.Cond.and c (allAtoms t)).before a st = _
    rw [Jvm.Cond.before_and, ih, List.all_cons]
def words1 : List Jvm.Cond := Jvm.Cond.code x code maxLocals ret :: tables_1
/-- a 'code' word, met by the world's own term for the bytes: nothing is compared byte by byte -/
theorem code_word {y : MethodName} {bytes : ByteArray} {mx : Nat} {rt : Option FieldType} {a : Array Value} {s : State} {m : MethodId} {meth : Method} {c : Code} (h1 : s.methodNamed? y = some m) (h2 : s.vm.method? m = some meth) (h3 : meth.code = some c) (h4 : c.code = bytes)
    (h5 : (c.maxLocals == mx && c.exceptionTable.isEmpty && decide (c.maxStack ≤ mostOperands) && decide (meth.sig.returnType = rt) && !meth.locks && decide (parseMethodDescriptor y.desc = some meth.sig)) = true) : (Jvm.Cond.code y bytes mx rt).before a s = true := by
  simp only [Bool.and_eq_true, beq_iff_eq, Bool.not_eq_true', decide_eq_true_eq] at h5
  obtain ⟨⟨⟨⟨⟨g1, g2⟩, g3⟩, g4⟩, g5⟩, g6⟩ := h5
  simp [Cond.before, Cond.holds, Cond.value, h1, h2, h3, h4, g1, g2, g3, g4, g5, g6]
def isCode : Jvm.Cond → Bool
  | .code _ _ _ _ => true
  | _ => false
theorem all_split {L : List Jvm.Cond} {P : Jvm.Cond → Bool} (h1 : L.all (fun c => isCode c || P c) = true) (h2 : ∀ c ∈ L.filter isCode, P c = true) : L.all P = true := by
  refine List.all_eq_true.mpr fun c hc => ?_
  have h := List.all_eq_true.mp h1 c hc
  rcases Bool.eq_false_or_eq_true (isCode c) with hi | hi
  · exact h2 c (List.mem_filter.mpr ⟨hc, hi⟩)
  · simpa [hi] using h
set_option maxRecDepth 65536 in
theorem w_c0 : (Jvm.Cond.code x code maxLocals ret).before args0 about1 = true := code_word (m := ⟨1, 1⟩) (meth := k1m1) (c := k1c1) (by decide +kernel) rfl rfl rfl (by decide +kernel)
set_option maxRecDepth 65536 in
theorem w_c1 : (Jvm.Cond.code ({ cls := "java/lang/Integer", name := "valueOf", desc := "(I)Ljava/lang/Integer;" } : Jvm.MethodName) jdk_33_method_22_code (1 : Nat) (Option.some (Jvm.ClassFile.FieldType.object "java/lang/Integer"))).before args0 about1 = true := code_word (m := ⟨7, 0⟩) (meth := k7m0) (c := k7c0) (by decide +kernel) rfl rfl rfl (by decide +kernel)
set_option maxRecDepth 65536 in
theorem w_c2 : (Jvm.Cond.code ({ cls := "com/example/deathwatch/deathwatch/AppendOnlyList", name := "<init>", desc := "()V" } : Jvm.MethodName) prog_1_method_1_code (1 : Nat) (Option.none : Option Jvm.ClassFile.FieldType)).before args0 about1 = true := code_word (m := ⟨9, 0⟩) (meth := k9m0) (c := k9c0) (by decide +kernel) rfl rfl rfl (by decide +kernel)
set_option maxRecDepth 65536 in
theorem w_c3 : (Jvm.Cond.code ({ cls := "java/lang/Object", name := "<init>", desc := "()V" } : Jvm.MethodName) object_method_1_code (1 : Nat) (Option.none : Option Jvm.ClassFile.FieldType)).before args0 about1 = true := code_word (m := ⟨0, 0⟩) (meth := k0m0) (c := k0c0) (by decide +kernel) rfl rfl rfl (by decide +kernel)
set_option maxRecDepth 65536 in
theorem w_c4 : (Jvm.Cond.code ({ cls := "com/example/deathwatch/deathwatch/AppendOnlyList", name := "isEmpty", desc := "()Z" } : Jvm.MethodName) prog_1_method_3_code (1 : Nat) (Option.some Jvm.ClassFile.FieldType.boolean)).before args0 about1 = true := code_word (m := ⟨9, 2⟩) (meth := k9m2) (c := k9c2) (by decide +kernel) rfl rfl rfl (by decide +kernel)
set_option maxRecDepth 65536 in
theorem w_c5 : (Jvm.Cond.code ({ cls := "com/example/deathwatch/deathwatch/AppendOnlyList", name := "size", desc := "()I" } : Jvm.MethodName) prog_1_method_4_code (1 : Nat) (Option.some Jvm.ClassFile.FieldType.int)).before args0 about1 = true := code_word (m := ⟨9, 3⟩) (meth := k9m3) (c := k9c3) (by decide +kernel) rfl rfl rfl (by decide +kernel)
set_option maxRecDepth 65536 in
theorem w_c6 : (Jvm.Cond.code ({ cls := "com/example/deathwatch/deathwatch/AppendOnlyList", name := "add", desc := "(Ljava/lang/Object;)V" } : Jvm.MethodName) prog_1_method_2_code (2 : Nat) (Option.none : Option Jvm.ClassFile.FieldType)).before args0 about1 = true := code_word (m := ⟨9, 1⟩) (meth := k9m1) (c := k9c1) (by decide +kernel) rfl rfl rfl (by decide +kernel)
set_option maxRecDepth 65536 in
theorem w_c7 : (Jvm.Cond.code ({ cls := "java/lang/Integer", name := "<init>", desc := "(I)V" } : Jvm.MethodName) jdk_33_method_23_code (2 : Nat) (Option.none : Option Jvm.ClassFile.FieldType)).before args0 about1 = true := code_word (m := ⟨7, 1⟩) (meth := k7m1) (c := k7c1) (by decide +kernel) rfl rfl rfl (by decide +kernel)
set_option maxRecDepth 65536 in
theorem w_c8 : (Jvm.Cond.code ({ cls := "java/lang/Number", name := "<init>", desc := "()V" } : Jvm.MethodName) jdk_18_method_1_code (1 : Nat) (Option.none : Option Jvm.ClassFile.FieldType)).before args0 about1 = true := code_word (m := ⟨3, 0⟩) (meth := k3m0) (c := k3c0) (by decide +kernel) rfl rfl rfl (by decide +kernel)
def codes1 : List Jvm.Cond := [Jvm.Cond.code x code maxLocals ret, Jvm.Cond.code ({ cls := "java/lang/Integer", name := "valueOf", desc := "(I)Ljava/lang/Integer;" } : Jvm.MethodName) jdk_33_method_22_code (1 : Nat) (Option.some (Jvm.ClassFile.FieldType.object "java/lang/Integer")), Jvm.Cond.code ({ cls := "com/example/deathwatch/deathwatch/AppendOnlyList", name := "<init>", desc := "()V" } : Jvm.MethodName) prog_1_method_1_code (1 : Nat) (Option.none : Option Jvm.ClassFile.FieldType), Jvm.Cond.code ({ cls := "java/lang/Object", name := "<init>", desc := "()V" } : Jvm.MethodName) object_method_1_code (1 : Nat) (Option.none : Option Jvm.ClassFile.FieldType), Jvm.Cond.code ({ cls := "com/example/deathwatch/deathwatch/AppendOnlyList", name := "isEmpty", desc := "()Z" } : Jvm.MethodName) prog_1_method_3_code (1 : Nat) (Option.some Jvm.ClassFile.FieldType.boolean), Jvm.Cond.code ({ cls := "com/example/deathwatch/deathwatch/AppendOnlyList", name := "size", desc := "()I" } : Jvm.MethodName) prog_1_method_4_code (1 : Nat) (Option.some Jvm.ClassFile.FieldType.int), Jvm.Cond.code ({ cls := "com/example/deathwatch/deathwatch/AppendOnlyList", name := "add", desc := "(Ljava/lang/Object;)V" } : Jvm.MethodName) prog_1_method_2_code (2 : Nat) (Option.none : Option Jvm.ClassFile.FieldType), Jvm.Cond.code ({ cls := "java/lang/Integer", name := "<init>", desc := "(I)V" } : Jvm.MethodName) jdk_33_method_23_code (2 : Nat) (Option.none : Option Jvm.ClassFile.FieldType), Jvm.Cond.code ({ cls := "java/lang/Number", name := "<init>", desc := "()V" } : Jvm.MethodName) jdk_18_method_1_code (1 : Nat) (Option.none : Option Jvm.ClassFile.FieldType)]
set_option maxRecDepth 65536 in
theorem codes_eq : words1.filter isCode = codes1 := rfl
theorem w_codes : ∀ c ∈ words1.filter isCode, c.before args0 about1 = true := by
  rw [codes_eq]
  intro c hc
  simp only [codes1, List.mem_cons, List.not_mem_nil, or_false] at hc
  rcases hc with rfl | rfl | rfl | rfl | rfl | rfl | rfl | rfl | rfl
  · exact w_c0
  · exact w_c1
  · exact w_c2
  · exact w_c3
  · exact w_c4
  · exact w_c5
  · exact w_c6
  · exact w_c7
  · exact w_c8
set_option maxRecDepth 65536 in
theorem w_t1 : (words1.take 24).all (fun c => isCode c || c.before args0 about1) = true := by decide +kernel
set_option maxRecDepth 65536 in
theorem w_t2 : ((words1.drop 24).take 24).all (fun c => isCode c || c.before args0 about1) = true := by decide +kernel
set_option maxRecDepth 65536 in
theorem w_t3 : ((words1.drop 24).drop 24).all (fun c => isCode c || c.before args0 about1) = true := by decide +kernel
theorem w_tables : (allAtoms (Jvm.Cond.code x code maxLocals ret :: tables_1)).before args0 about1 = true := by
  rw [allAtoms_all]
  show words1.all (fun c => c.before args0 about1) = true
  refine all_split ?_ w_codes
  rw [← List.take_append_drop 24 words1, List.all_append, w_t1, ← List.take_append_drop 24 (words1.drop 24), List.all_append, w_t2, w_t3]
  rfl
set_option maxRecDepth 65536 in
theorem w_rest : rest_1_c.before args0 about1 = true := by decide +kernel
set_option maxRecDepth 65536 in
theorem w_case : (Jvm.Cond.and given_1 narrow_1).before args0 about1 = true := by decide +kernel
theorem w_applies : (headSpec (Jvm.Cond.code x code maxLocals ret :: tables_1) room_1).applies x e0.platform about1 = true :=
  (Spec.applies_iff w_frames).mpr ⟨w_running, w_runnable, w_alone, w_named, w_hears, w_ripe, w_room, w_tables⟩
theorem atStart : AtStart classFile x code maxLocals ret World_1 tables_1 room_1 Calls_1 rest_1 Pre_1 launch0 p0 e0 about1 theMethod args0 below0 :=
  ⟨lists_1, trivial, launch0.admits_env _ _ _, launch0.least_env, fairChoices_fair.cas, fairChoices_fair.clock, w_frames, w_args, w_heap, w_applies, trivial, w_rest, w_case⟩
end start1
theorem witness_1 : WitnessClaimed_1 := ⟨start1.p0, start1.e0, start1.about1, start1.theMethod, start1.args0, start1.below0, start1.atStart⟩
end Jvm.Pilot.@@N@@
