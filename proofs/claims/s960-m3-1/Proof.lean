import JvmDerived
import JvmDerived.Pilot.@@N@@Statement
import JvmDerived.Pilot.@@N@@Code
set_option linter.unusedVariables false
set_option linter.unusedSimpArgs false
namespace Jvm.Pilot.@@N@@
namespace Own
open Jvm Jvm.ClassFile Sem Op Lib Jvm.Free Jvm.Stand Jvm.LawKit Jvm.RoadKit Bundle
/-- what a body's walk knows of its method -/
def Ctx (p : Program) (l : Launch) (e : Env) (R : Room) (s : State) (m : MethodId) (args : Array Value) (below : List Frame) (meth : Method) (c : Code) (Z : State) (own : String) (cd : ByteArray) (maxL : Nat) (ret : Option FieldType) (nm : String) : Prop :=
  p.tables.exec = Jvm.exec ∧ Z.Warmed39 s.vm ∧ c.code = cd ∧ c.maxLocals = maxL ∧ s.vm.findClass own = some m.cls ∧ meth.sig.returnType = ret ∧ meth.locks = false ∧ meth.name = nm
/-- from every state that stands at pc with these locals and this stack over the heap h the method returns, and P holds -/
def Run (p : Program) (l : Launch) (e : Env) (R : Room) (s : State) (m : MethodId) (args : Array Value) (below : List Frame) (meth : Method) (c : Code) (n0 : Nat) (P : Option Value → Heap → Prop) (h : Heap) (k n : Nat) (pc : Nat) (Ls : Array Slot) (st : List Value) : Prop :=
  ∀ (T : State) (locs : List Loc), Stand p l e R s m args below meth c T locs k n → T.heap = h → Fr n0 locs →
    ∃ s₂ o, Steps p.tables e below (T.setTop (mkF m pc Ls st)) s₂ ∧ s₂.status = .running ∧ Ended s₂ below o ∧ ∃ v L, o = .returned v ∧ (P v s₂.heap ∧ Fr n0 L) ∧ FrameEnd s o s₂ L R.cells R.slots
def RetI (Q : Int32 → Heap → Prop) (v : Option Value) (h : Heap) : Prop := ∃ z, v = some (.int z) ∧ Q z h
def RetL (Q : Int64 → Heap → Prop) (v : Option Value) (h : Heap) : Prop := ∃ z, v = some (.long z) ∧ Q z h
def RetV (Q : Value → Heap → Prop) (v : Option Value) (h : Heap) : Prop := ∃ z, v = some z ∧ Q z h
def Ret0 (Q : Heap → Prop) (v : Option Value) (h : Heap) : Prop := v = none ∧ Q h
def Met (l : Launch) (Z : State) (y : MethodName) (bytes : ByteArray) (mL : Nat) (rt : Option FieldType) (ws : List Jvm.Cond) (rm : Room) (as : Array Value) (h : Heap) (n0 : Nat) (P : Option Value → Heap → Prop) : Prop :=
  MetFree l y (head1 (Jvm.Cond.code y bytes mL rt :: ws) rm) (fun a U => a = as ∧ Z.Warmed39 U.vm ∧ U.heap = h) (fun _ _ _ _ _ => True) (fun _ U o U' => ∃ v L, o = .returned v ∧ (P v U'.heap ∧ Fr n0 L) ∧ FrameEnd U o U' L rm.cells rm.slots)
section Steps
variable {p : Program} {l : Launch} {e : Env} {R : Room} {s : State} {m : MethodId} {args : Array Value} {below : List Frame} {meth : Method} {c : Code} {Z : State} {own nm : String} {cd : ByteArray} {maxL : Nat} {ret : Option FieldType} {n0 : Nat} {P : Option Value → Heap → Prop} {h : Heap} {k n pc pc' : Nat} {Ls l' : Array Slot} {st st' rest : List Value} {a0 : Array Value}
theorem Met.intro {y : MethodName} {bytes : ByteArray} {mL : Nat} {rt : Option FieldType} {ws : List Jvm.Cond} {rm : Room} {as : Array Value} (hpl : plainFor y = true) (ho : y.cls = own) (hn : y.name = nm) (ef : ∀ m, entryFrame m as mL = mkF m 0 Ls [])
    (body : ∀ p e s m below meth c, Ctx p l e rm s m as below meth c Z own bytes mL rt nm → Run p l e rm s m as below meth c n0 P h 0 0 0 Ls []) : Met l Z y bytes mL rt ws rm as h n0 P := by
  subst ho hn
  refine MetFree.of_bodySF hpl hisR ?_
  intro p e s m args below meth c s₁ Bd hml0 hP hK
  obtain ⟨rfl, hZ, hh⟩ := hP
  have X0 : Stand p l e rm s m args below meth c s₁ [] 0 0 := Stand.of_body Bd
  have e0 : s₁.heap = h := by rw [← hh, Bd.state]; rfl
  have hown : s.vm.findClass y.cls = some m.cls := findClass_of_methodNamed Bd.named
  obtain ⟨s₂, o, h1, h2⟩ := body p e s m below meth c ⟨Bd.exec, hZ, Bd.bytes, hml0, hown, Bd.returns, Bd.notSynchronized, (name_of_methodNamed Bd.named Bd.method).1⟩ s₁ [] X0 e0 (Fr.nil _)
  exact ⟨s₂, o, castTop (ef m) h1, h2⟩
theorem Run.pure (f : ∀ T locs, Stand p l e R s m args below meth c T locs k n → T.heap = h → ∀ t, Steps p.tables e below (T.setTop (mkF m pc' l' st')) t → Steps p.tables e below (T.setTop (mkF m pc Ls st)) t) (r : Run p l e R s m args below meth c n0 P h k n pc' l' st') : Run p l e R s m args below meth c n0 P h k n pc Ls st := fun T locs X eT N => by
  obtain ⟨s₂, o, q, r⟩ := r T locs X eT N
  exact ⟨s₂, o, f T locs X eT _ q, r⟩
theorem Run.warm (f : ∀ T locs, Stand p l e R s m args below meth c T locs k n → T.heap = h → ∃ T', Stand p l e R s m args below meth c T' locs k n ∧ T'.heap = h ∧ ∀ t, Steps p.tables e below (T'.setTop (mkF m pc' l' st')) t → Steps p.tables e below (T.setTop (mkF m pc Ls st)) t) (r : Run p l e R s m args below meth c n0 P h k n pc' l' st') : Run p l e R s m args below meth c n0 P h k n pc Ls st := fun T locs X eT N => by
  obtain ⟨T', X', e', f'⟩ := f T locs X eT
  obtain ⟨s₂, o, q, r⟩ := r T' locs X' e' N
  exact ⟨s₂, o, f' _ q, r⟩
/-! loads, stores, constants -/
theorem s_iloadN (C : Ctx p l e R s m args below meth c Z own cd maxL ret nm) {q : Fin 4} {v : Int32} (hd : decode cd pc = .ok (.iload_n q, 1)) (hp : pc + 1 = pc') (hl : Ls[q.val]? = some (.val (.int v))) (r : Run p l e R s m args below meth c n0 P h k n pc' Ls (.int v :: st)) : Run p l e R s m args below meth c n0 P h k n pc Ls st := by
  subst hp; exact Run.pure (fun T locs X _ t z => XS.iloadN X.here C.1 rfl (hb C.2.2.1 hd) hl z) r
theorem s_iload (C : Ctx p l e R s m args below meth c Z own cd maxL ret nm) {q : Nat} {v : Int32} (hd : decode cd pc = .ok (.iload q, 2)) (hp : pc + 2 = pc') (hl : Ls[q]? = some (.val (.int v))) (r : Run p l e R s m args below meth c n0 P h k n pc' Ls (.int v :: st)) : Run p l e R s m args below meth c n0 P h k n pc Ls st := by
  subst hp; exact Run.pure (fun T locs X _ t z => XS.iload X.here C.1 rfl (hb C.2.2.1 hd) hl z) r
theorem s_lloadN (C : Ctx p l e R s m args below meth c Z own cd maxL ret nm) {q : Fin 4} {v : Int64} (hd : decode cd pc = .ok (.lload_n q, 1)) (hp : pc + 1 = pc') (hl : Ls[q.val]? = some (.val (.long v))) (r : Run p l e R s m args below meth c n0 P h k n pc' Ls (.long v :: st)) : Run p l e R s m args below meth c n0 P h k n pc Ls st := by
  subst hp; exact Run.pure (fun T locs X _ t z => XS.lloadN X.here C.1 rfl (hb C.2.2.1 hd) hl z) r
theorem s_lload (C : Ctx p l e R s m args below meth c Z own cd maxL ret nm) {q : Nat} {v : Int64} (hd : decode cd pc = .ok (.lload q, 2)) (hp : pc + 2 = pc') (hl : Ls[q]? = some (.val (.long v))) (r : Run p l e R s m args below meth c n0 P h k n pc' Ls (.long v :: st)) : Run p l e R s m args below meth c n0 P h k n pc Ls st := by
  subst hp; exact Run.pure (fun T locs X _ t z => XS.lload X.here C.1 rfl (hb C.2.2.1 hd) hl z) r
theorem s_aloadN (C : Ctx p l e R s m args below meth c Z own cd maxL ret nm) {q : Fin 4} {v : Value} (hd : decode cd pc = .ok (.aload_n q, 1)) (hp : pc + 1 = pc') (hl : Ls[q.val]? = some (.val v)) (hv : v.isRef = true) (r : Run p l e R s m args below meth c n0 P h k n pc' Ls (v :: st)) : Run p l e R s m args below meth c n0 P h k n pc Ls st := by
  subst hp; exact Run.pure (fun T locs X _ t z => XS.aloadN X.here C.1 rfl (hb C.2.2.1 hd) hl hv z) r
theorem s_aload (C : Ctx p l e R s m args below meth c Z own cd maxL ret nm) {q : Nat} {v : Value} (hd : decode cd pc = .ok (.aload q, 2)) (hp : pc + 2 = pc') (hl : Ls[q]? = some (.val v)) (hv : v.isRef = true) (r : Run p l e R s m args below meth c n0 P h k n pc' Ls (v :: st)) : Run p l e R s m args below meth c n0 P h k n pc Ls st := by
  subst hp; exact Run.pure (fun T locs X _ t z => XS.aload X.here C.1 rfl (hb C.2.2.1 hd) hl hv z) r
theorem s_istoreN (C : Ctx p l e R s m args below meth c Z own cd maxL ret nm) {q : Fin 4} {x : Int32} (hd : decode cd pc = .ok (.istore_n q, 1)) (hp : pc + 1 = pc') (L : Int32 → Array Slot) (hl : ∀ y, storeLocals Ls q.val (.int y) = some (L y)) (r : ∀ y, y = x → Run p l e R s m args below meth c n0 P h k n pc' (L y) st) : Run p l e R s m args below meth c n0 P h k n pc Ls (.int x :: st) := by
  subst hp; exact Run.pure (fun T locs X _ t z => XS.istoreN X.here C.1 rfl (hb C.2.2.1 hd) rfl (hl x) z) (r x rfl)
theorem s_istore (C : Ctx p l e R s m args below meth c Z own cd maxL ret nm) {q : Nat} {x : Int32} (hd : decode cd pc = .ok (.istore q, 2)) (hp : pc + 2 = pc') (L : Int32 → Array Slot) (hl : ∀ y, storeLocals Ls q (.int y) = some (L y)) (r : ∀ y, y = x → Run p l e R s m args below meth c n0 P h k n pc' (L y) st) : Run p l e R s m args below meth c n0 P h k n pc Ls (.int x :: st) := by
  subst hp; exact Run.pure (fun T locs X _ t z => XS.istore X.here C.1 rfl (hb C.2.2.1 hd) rfl (hl x) z) (r x rfl)
theorem s_lstoreN (C : Ctx p l e R s m args below meth c Z own cd maxL ret nm) {q : Fin 4} {x : Int64} (hd : decode cd pc = .ok (.lstore_n q, 1)) (hp : pc + 1 = pc') (L : Int64 → Array Slot) (hl : ∀ y, storeLocals Ls q.val (.long y) = some (L y)) (r : ∀ y, y = x → Run p l e R s m args below meth c n0 P h k n pc' (L y) st) : Run p l e R s m args below meth c n0 P h k n pc Ls (.long x :: st) := by
  subst hp; exact Run.pure (fun T locs X _ t z => XS.lstoreN X.here C.1 rfl (hb C.2.2.1 hd) rfl (hl x) z) (r x rfl)
theorem s_lstore (C : Ctx p l e R s m args below meth c Z own cd maxL ret nm) {q : Nat} {x : Int64} (hd : decode cd pc = .ok (.lstore q, 2)) (hp : pc + 2 = pc') (L : Int64 → Array Slot) (hl : ∀ y, storeLocals Ls q (.long y) = some (L y)) (r : ∀ y, y = x → Run p l e R s m args below meth c n0 P h k n pc' (L y) st) : Run p l e R s m args below meth c n0 P h k n pc Ls (.long x :: st) := by
  subst hp; exact Run.pure (fun T locs X _ t z => XS.lstore X.here C.1 rfl (hb C.2.2.1 hd) rfl (hl x) z) (r x rfl)
theorem s_istoreNP (C : Ctx p l e R s m args below meth c Z own cd maxL ret nm) {q : Fin 4} {x : Int32} (hd : decode cd pc = .ok (.istore_n q, 1)) (hp : pc + 1 = pc') (L : Array Slot) (hl : storeLocals Ls q.val (.int x) = some L) (r : Run p l e R s m args below meth c n0 P h k n pc' L st) : Run p l e R s m args below meth c n0 P h k n pc Ls (.int x :: st) := by
  subst hp; exact Run.pure (fun T locs X _ t z => XS.istoreN X.here C.1 rfl (hb C.2.2.1 hd) rfl hl z) r
theorem s_istoreP (C : Ctx p l e R s m args below meth c Z own cd maxL ret nm) {q : Nat} {x : Int32} (hd : decode cd pc = .ok (.istore q, 2)) (hp : pc + 2 = pc') (L : Array Slot) (hl : storeLocals Ls q (.int x) = some L) (r : Run p l e R s m args below meth c n0 P h k n pc' L st) : Run p l e R s m args below meth c n0 P h k n pc Ls (.int x :: st) := by
  subst hp; exact Run.pure (fun T locs X _ t z => XS.istore X.here C.1 rfl (hb C.2.2.1 hd) rfl hl z) r
theorem s_lstoreNP (C : Ctx p l e R s m args below meth c Z own cd maxL ret nm) {q : Fin 4} {x : Int64} (hd : decode cd pc = .ok (.lstore_n q, 1)) (hp : pc + 1 = pc') (L : Array Slot) (hl : storeLocals Ls q.val (.long x) = some L) (r : Run p l e R s m args below meth c n0 P h k n pc' L st) : Run p l e R s m args below meth c n0 P h k n pc Ls (.long x :: st) := by
  subst hp; exact Run.pure (fun T locs X _ t z => XS.lstoreN X.here C.1 rfl (hb C.2.2.1 hd) rfl hl z) r
theorem s_lstoreP (C : Ctx p l e R s m args below meth c Z own cd maxL ret nm) {q : Nat} {x : Int64} (hd : decode cd pc = .ok (.lstore q, 2)) (hp : pc + 2 = pc') (L : Array Slot) (hl : storeLocals Ls q (.long x) = some L) (r : Run p l e R s m args below meth c n0 P h k n pc' L st) : Run p l e R s m args below meth c n0 P h k n pc Ls (.long x :: st) := by
  subst hp; exact Run.pure (fun T locs X _ t z => XS.lstore X.here C.1 rfl (hb C.2.2.1 hd) rfl hl z) r
theorem s_astoreN (C : Ctx p l e R s m args below meth c Z own cd maxL ret nm) {q : Fin 4} {x : Value} (hd : decode cd pc = .ok (.astore_n q, 1)) (hp : pc + 1 = pc') (hv : x.isRef = true) (L : Array Slot) (hl : storeLocals Ls q.val x = some L) (r : Run p l e R s m args below meth c n0 P h k n pc' L st) : Run p l e R s m args below meth c n0 P h k n pc Ls (x :: st) := by
  subst hp; exact Run.pure (fun T locs X _ t z => XS.astoreN X.here C.1 rfl (hb C.2.2.1 hd) rfl hv hl z) r
theorem s_astore (C : Ctx p l e R s m args below meth c Z own cd maxL ret nm) {q : Nat} {x : Value} (hd : decode cd pc = .ok (.astore q, 2)) (hp : pc + 2 = pc') (hv : x.isRef = true) (L : Array Slot) (hl : storeLocals Ls q x = some L) (r : Run p l e R s m args below meth c n0 P h k n pc' L st) : Run p l e R s m args below meth c n0 P h k n pc Ls (x :: st) := by
  subst hp; exact Run.pure (fun T locs X _ t z => XS.astore X.here C.1 rfl (hb C.2.2.1 hd) rfl hv hl z) r
theorem s_iconst (C : Ctx p l e R s m args below meth c Z own cd maxL ret nm) {i : Int} (hd : decode cd pc = .ok (.iconst i, 1)) (hp : pc + 1 = pc') (v : Int32) (hv : Int32.ofInt i = v) (r : Run p l e R s m args below meth c n0 P h k n pc' Ls (.int v :: st)) : Run p l e R s m args below meth c n0 P h k n pc Ls st := by
  subst hp hv; exact Run.pure (fun T locs X _ t z => XS.iconst X.here C.1 rfl (hb C.2.2.1 hd) z) r
theorem s_bipush (C : Ctx p l e R s m args below meth c Z own cd maxL ret nm) {i : Int} (hd : decode cd pc = .ok (.bipush i, 2)) (hp : pc + 2 = pc') (v : Int32) (hv : (Int8.ofInt i).toInt32 = v) (r : Run p l e R s m args below meth c n0 P h k n pc' Ls (.int v :: st)) : Run p l e R s m args below meth c n0 P h k n pc Ls st := by
  subst hp hv; exact Run.pure (fun T locs X _ t z => XS.bipush X.here C.1 rfl (hb C.2.2.1 hd) z) r
theorem s_sipush (C : Ctx p l e R s m args below meth c Z own cd maxL ret nm) {i : Int} (hd : decode cd pc = .ok (.sipush i, 3)) (hp : pc + 3 = pc') (v : Int32) (hv : (Int16.ofInt i).toInt32 = v) (r : Run p l e R s m args below meth c n0 P h k n pc' Ls (.int v :: st)) : Run p l e R s m args below meth c n0 P h k n pc Ls st := by
  subst hp hv; exact Run.pure (fun T locs X _ t z => XS.sipush X.here C.1 rfl (hb C.2.2.1 hd) z) r
theorem s_lconst (C : Ctx p l e R s m args below meth c Z own cd maxL ret nm) {i : Fin 2} (hd : decode cd pc = .ok (.lconst i, 1)) (hp : pc + 1 = pc') (v : Int64) (hv : Int64.ofNat i.val = v) (r : Run p l e R s m args below meth c n0 P h k n pc' Ls (.long v :: st)) : Run p l e R s m args below meth c n0 P h k n pc Ls st := by
  subst hp hv; exact Run.pure (fun T locs X _ t z => XS.lconst X.here C.1 rfl (hb C.2.2.1 hd) z) r
theorem s_null (C : Ctx p l e R s m args below meth c Z own cd maxL ret nm) (hd : decode cd pc = .ok (.aconst_null, 1)) (hp : pc + 1 = pc') (r : Run p l e R s m args below meth c n0 P h k n pc' Ls (.null :: st)) : Run p l e R s m args below meth c n0 P h k n pc Ls st := by
  subst hp; exact Run.pure (fun T locs X _ t z => XS.aconstNull X.here C.1 rfl (hb C.2.2.1 hd) z) r
theorem s_ldc (C : Ctx p l e R s m args below meth c Z own cd maxL ret nm) {i : Nat} {v : Int32} (hd : decode cd pc = .ok (.ldc i, 2)) (hp : pc + 2 = pc') (w : (Jvm.Cond.constant own i v).before a0 Z = true) (r : Run p l e R s m args below meth c n0 P h k n pc' Ls (.int v :: st)) : Run p l e R s m args below meth c n0 P h k n pc Ls st := by
  subst hp; exact Run.pure (fun T locs X _ t z => X.ldcInt C.1 C.2.2.2.2.1 (mvT C.2.1 w) (g := mkF m pc Ls st) rfl (hb C.2.2.1 hd) _ z) r
theorem s_ldc2 (C : Ctx p l e R s m args below meth c Z own cd maxL ret nm) {i : Nat} {v : Int64} (hd : decode cd pc = .ok (.ldc2_w i, 3)) (hp : pc + 3 = pc') (w : (Jvm.Cond.constantLong own i v).before a0 Z = true) (r : Run p l e R s m args below meth c n0 P h k n pc' Ls (.long v :: st)) : Run p l e R s m args below meth c n0 P h k n pc Ls st := by
  subst hp; exact Run.pure (fun T locs X _ t z => X.ldc2Long C.1 C.2.2.2.2.1 (mvT C.2.1 w) (g := mkF m pc Ls st) rfl (hb C.2.2.1 hd) _ z) r
theorem s_iinc (C : Ctx p l e R s m args below meth c Z own cd maxL ret nm) {q : Nat} {cst : Int} {x : Int32} (hd : decode cd pc = .ok (.iinc q cst, 3)) (hp : pc + 3 = pc') (hl : Ls[q]? = some (.val (.int x))) (z : Int32) (hz : Int32.ofInt cst = z) (L : Int32 → Array Slot) (hl' : ∀ y, storeLocals Ls q (.int y) = some (L y)) (r : ∀ y, y = x + z → Run p l e R s m args below meth c n0 P h k n pc' (L y) st) : Run p l e R s m args below meth c n0 P h k n pc Ls st := by
  subst hp hz; exact Run.pure (fun T locs X _ t z => XS.iinc X.here C.1 rfl (hb C.2.2.1 hd) hl (hl' _) z) (r _ rfl)
theorem s_iincP (C : Ctx p l e R s m args below meth c Z own cd maxL ret nm) {q : Nat} {cst : Int} {x : Int32} (hd : decode cd pc = .ok (.iinc q cst, 3)) (hp : pc + 3 = pc') (hl : Ls[q]? = some (.val (.int x))) (z : Int32) (hz : x + Int32.ofInt cst = z) (L : Array Slot) (hl' : storeLocals Ls q (.int z) = some L) (r : Run p l e R s m args below meth c n0 P h k n pc' L st) : Run p l e R s m args below meth c n0 P h k n pc Ls st := by
  subst hp hz; exact Run.pure (fun T locs X _ t z => XS.iinc X.here C.1 rfl (hb C.2.2.1 hd) hl hl' z) r
/-! plain steps -/
theorem s_iadd (C : Ctx p l e R s m args below meth c Z own cd maxL ret nm) {x y : Int32} (hd : decode cd pc = .ok (.iadd, 1)) (hp : pc + 1 = pc') (r : Run p l e R s m args below meth c n0 P h k n pc' Ls (.int (x + y) :: st)) : Run p l e R s m args below meth c n0 P h k n pc Ls (.int y :: .int x :: st) := by
  subst hp; exact Run.pure (fun T locs X _ t z => XS.iadd X.here C.1 rfl (hb C.2.2.1 hd) rfl z) r
theorem s_isub (C : Ctx p l e R s m args below meth c Z own cd maxL ret nm) {x y : Int32} (hd : decode cd pc = .ok (.isub, 1)) (hp : pc + 1 = pc') (r : Run p l e R s m args below meth c n0 P h k n pc' Ls (.int (x - y) :: st)) : Run p l e R s m args below meth c n0 P h k n pc Ls (.int y :: .int x :: st) := by
  subst hp; exact Run.pure (fun T locs X _ t z => XS.isub X.here C.1 rfl (hb C.2.2.1 hd) rfl z) r
theorem s_imul (C : Ctx p l e R s m args below meth c Z own cd maxL ret nm) {x y : Int32} (hd : decode cd pc = .ok (.imul, 1)) (hp : pc + 1 = pc') (r : Run p l e R s m args below meth c n0 P h k n pc' Ls (.int (x * y) :: st)) : Run p l e R s m args below meth c n0 P h k n pc Ls (.int y :: .int x :: st) := by
  subst hp; exact Run.pure (fun T locs X _ t z => XS.imul X.here C.1 rfl (hb C.2.2.1 hd) rfl z) r
theorem s_iand (C : Ctx p l e R s m args below meth c Z own cd maxL ret nm) {x y : Int32} (hd : decode cd pc = .ok (.iand, 1)) (hp : pc + 1 = pc') (r : Run p l e R s m args below meth c n0 P h k n pc' Ls (.int (x &&& y) :: st)) : Run p l e R s m args below meth c n0 P h k n pc Ls (.int y :: .int x :: st) := by
  subst hp; exact Run.pure (fun T locs X _ t z => XS.iand X.here C.1 rfl (hb C.2.2.1 hd) rfl z) r
theorem s_ior (C : Ctx p l e R s m args below meth c Z own cd maxL ret nm) {x y : Int32} (hd : decode cd pc = .ok (.ior, 1)) (hp : pc + 1 = pc') (r : Run p l e R s m args below meth c n0 P h k n pc' Ls (.int (x ||| y) :: st)) : Run p l e R s m args below meth c n0 P h k n pc Ls (.int y :: .int x :: st) := by
  subst hp; exact Run.pure (fun T locs X _ t z => XS.ior X.here C.1 rfl (hb C.2.2.1 hd) rfl z) r
theorem s_ixor (C : Ctx p l e R s m args below meth c Z own cd maxL ret nm) {x y : Int32} (hd : decode cd pc = .ok (.ixor, 1)) (hp : pc + 1 = pc') (r : Run p l e R s m args below meth c n0 P h k n pc' Ls (.int (x ^^^ y) :: st)) : Run p l e R s m args below meth c n0 P h k n pc Ls (.int y :: .int x :: st) := by
  subst hp; exact Run.pure (fun T locs X _ t z => XS.ixor X.here C.1 rfl (hb C.2.2.1 hd) rfl z) r
theorem s_ishl (C : Ctx p l e R s m args below meth c Z own cd maxL ret nm) {x y : Int32} (hd : decode cd pc = .ok (.ishl, 1)) (hp : pc + 1 = pc') (r : Run p l e R s m args below meth c n0 P h k n pc' Ls (.int (x <<< (y &&& 31)) :: st)) : Run p l e R s m args below meth c n0 P h k n pc Ls (.int y :: .int x :: st) := by
  subst hp; exact Run.pure (fun T locs X _ t z => XS.ishl X.here C.1 rfl (hb C.2.2.1 hd) rfl z) r
theorem s_ishr (C : Ctx p l e R s m args below meth c Z own cd maxL ret nm) {x y : Int32} (hd : decode cd pc = .ok (.ishr, 1)) (hp : pc + 1 = pc') (r : Run p l e R s m args below meth c n0 P h k n pc' Ls (.int (x >>> (y &&& 31)) :: st)) : Run p l e R s m args below meth c n0 P h k n pc Ls (.int y :: .int x :: st) := by
  subst hp; exact Run.pure (fun T locs X _ t z => XS.ishr X.here C.1 rfl (hb C.2.2.1 hd) rfl z) r
theorem s_iushr (C : Ctx p l e R s m args below meth c Z own cd maxL ret nm) {x y : Int32} (hd : decode cd pc = .ok (.iushr, 1)) (hp : pc + 1 = pc') (r : Run p l e R s m args below meth c n0 P h k n pc' Ls (.int ((x.toUInt32 >>> (y &&& 31).toUInt32).toInt32) :: st)) : Run p l e R s m args below meth c n0 P h k n pc Ls (.int y :: .int x :: st) := by
  subst hp; exact Run.pure (fun T locs X _ t z => XS.iushr X.here C.1 rfl (hb C.2.2.1 hd) rfl z) r
theorem s_ladd (C : Ctx p l e R s m args below meth c Z own cd maxL ret nm) {x y : Int64} (hd : decode cd pc = .ok (.ladd, 1)) (hp : pc + 1 = pc') (r : Run p l e R s m args below meth c n0 P h k n pc' Ls (.long (x + y) :: st)) : Run p l e R s m args below meth c n0 P h k n pc Ls (.long y :: .long x :: st) := by
  subst hp; exact Run.pure (fun T locs X _ t z => XS.ladd X.here C.1 rfl (hb C.2.2.1 hd) rfl z) r
theorem s_lsub (C : Ctx p l e R s m args below meth c Z own cd maxL ret nm) {x y : Int64} (hd : decode cd pc = .ok (.lsub, 1)) (hp : pc + 1 = pc') (r : Run p l e R s m args below meth c n0 P h k n pc' Ls (.long (x - y) :: st)) : Run p l e R s m args below meth c n0 P h k n pc Ls (.long y :: .long x :: st) := by
  subst hp; exact Run.pure (fun T locs X _ t z => XS.lsub X.here C.1 rfl (hb C.2.2.1 hd) rfl z) r
theorem s_lmul (C : Ctx p l e R s m args below meth c Z own cd maxL ret nm) {x y : Int64} (hd : decode cd pc = .ok (.lmul, 1)) (hp : pc + 1 = pc') (r : Run p l e R s m args below meth c n0 P h k n pc' Ls (.long (x * y) :: st)) : Run p l e R s m args below meth c n0 P h k n pc Ls (.long y :: .long x :: st) := by
  subst hp; exact Run.pure (fun T locs X _ t z => XS.lmul X.here C.1 rfl (hb C.2.2.1 hd) rfl z) r
theorem s_land (C : Ctx p l e R s m args below meth c Z own cd maxL ret nm) {x y : Int64} (hd : decode cd pc = .ok (.land, 1)) (hp : pc + 1 = pc') (r : Run p l e R s m args below meth c n0 P h k n pc' Ls (.long (x &&& y) :: st)) : Run p l e R s m args below meth c n0 P h k n pc Ls (.long y :: .long x :: st) := by
  subst hp; exact Run.pure (fun T locs X _ t z => XS.land X.here C.1 rfl (hb C.2.2.1 hd) rfl z) r
theorem s_lor (C : Ctx p l e R s m args below meth c Z own cd maxL ret nm) {x y : Int64} (hd : decode cd pc = .ok (.lor, 1)) (hp : pc + 1 = pc') (r : Run p l e R s m args below meth c n0 P h k n pc' Ls (.long (x ||| y) :: st)) : Run p l e R s m args below meth c n0 P h k n pc Ls (.long y :: .long x :: st) := by
  subst hp; exact Run.pure (fun T locs X _ t z => XS.lor X.here C.1 rfl (hb C.2.2.1 hd) rfl z) r
theorem s_lxor (C : Ctx p l e R s m args below meth c Z own cd maxL ret nm) {x y : Int64} (hd : decode cd pc = .ok (.lxor, 1)) (hp : pc + 1 = pc') (r : Run p l e R s m args below meth c n0 P h k n pc' Ls (.long (x ^^^ y) :: st)) : Run p l e R s m args below meth c n0 P h k n pc Ls (.long y :: .long x :: st) := by
  subst hp; exact Run.pure (fun T locs X _ t z => XS.lxor X.here C.1 rfl (hb C.2.2.1 hd) rfl z) r
theorem s_lshl (C : Ctx p l e R s m args below meth c Z own cd maxL ret nm) {x : Int64} {y : Int32} (hd : decode cd pc = .ok (.lshl, 1)) (hp : pc + 1 = pc') (r : Run p l e R s m args below meth c n0 P h k n pc' Ls (.long (x <<< (y &&& 0x3f).toInt64) :: st)) : Run p l e R s m args below meth c n0 P h k n pc Ls (.int y :: .long x :: st) := by
  subst hp; exact Run.pure (fun T locs X _ t z => XS.lshl X.here C.1 rfl (hb C.2.2.1 hd) rfl z) r
theorem s_lshr (C : Ctx p l e R s m args below meth c Z own cd maxL ret nm) {x : Int64} {y : Int32} (hd : decode cd pc = .ok (.lshr, 1)) (hp : pc + 1 = pc') (r : Run p l e R s m args below meth c n0 P h k n pc' Ls (.long (x >>> (y &&& 0x3f).toInt64) :: st)) : Run p l e R s m args below meth c n0 P h k n pc Ls (.int y :: .long x :: st) := by
  subst hp; exact Run.pure (fun T locs X _ t z => XS.lshr X.here C.1 rfl (hb C.2.2.1 hd) rfl z) r
theorem s_lushr (C : Ctx p l e R s m args below meth c Z own cd maxL ret nm) {x : Int64} {y : Int32} (hd : decode cd pc = .ok (.lushr, 1)) (hp : pc + 1 = pc') (r : Run p l e R s m args below meth c n0 P h k n pc' Ls (.long ((x.toUInt64 >>> (y &&& 0x3f).toInt64.toUInt64).toInt64) :: st)) : Run p l e R s m args below meth c n0 P h k n pc Ls (.int y :: .long x :: st) := by
  subst hp; exact Run.pure (fun T locs X _ t z => XS.lushr X.here C.1 rfl (hb C.2.2.1 hd) rfl z) r
theorem s_idiv (C : Ctx p l e R s m args below meth c Z own cd maxL ret nm) {x y : Int32} (hd : decode cd pc = .ok (.idiv, 1)) (hp : pc + 1 = pc') (hy : y ≠ 0) (r : Run p l e R s m args below meth c n0 P h k n pc' Ls (.int (x / y) :: st)) : Run p l e R s m args below meth c n0 P h k n pc Ls (.int y :: .int x :: st) := by
  subst hp; exact Run.pure (fun T locs X _ t z => XS.idiv X.here C.1 rfl (hb C.2.2.1 hd) rfl hy z) r
theorem s_irem (C : Ctx p l e R s m args below meth c Z own cd maxL ret nm) {x y : Int32} (hd : decode cd pc = .ok (.irem, 1)) (hp : pc + 1 = pc') (hy : y ≠ 0) (r : Run p l e R s m args below meth c n0 P h k n pc' Ls (.int (x % y) :: st)) : Run p l e R s m args below meth c n0 P h k n pc Ls (.int y :: .int x :: st) := by
  subst hp; exact Run.pure (fun T locs X _ t z => iremM X C.1 (g := mkF m pc Ls (.int y :: .int x :: st)) rfl (hb C.2.2.1 hd) rfl hy z) r
theorem s_ldiv (C : Ctx p l e R s m args below meth c Z own cd maxL ret nm) {x y : Int64} (hd : decode cd pc = .ok (.ldiv, 1)) (hp : pc + 1 = pc') (hy : y ≠ 0) (r : Run p l e R s m args below meth c n0 P h k n pc' Ls (.long (x / y) :: st)) : Run p l e R s m args below meth c n0 P h k n pc Ls (.long y :: .long x :: st) := by
  subst hp; exact Run.pure (fun T locs X _ t z => XS.ldiv X.here C.1 rfl (hb C.2.2.1 hd) rfl hy z) r
theorem s_lrem (C : Ctx p l e R s m args below meth c Z own cd maxL ret nm) {x y : Int64} (hd : decode cd pc = .ok (.lrem, 1)) (hp : pc + 1 = pc') (hy : y ≠ 0) (r : Run p l e R s m args below meth c n0 P h k n pc' Ls (.long (x % y) :: st)) : Run p l e R s m args below meth c n0 P h k n pc Ls (.long y :: .long x :: st) := by
  subst hp; rw [← lrem_mod] at r; exact Run.pure (fun T locs X _ t z => XS.lrem X.here C.1 rfl (hb C.2.2.1 hd) rfl hy z) r
theorem s_ineg (C : Ctx p l e R s m args below meth c Z own cd maxL ret nm) {x : Int32} (hd : decode cd pc = .ok (.ineg, 1)) (hp : pc + 1 = pc') (r : Run p l e R s m args below meth c n0 P h k n pc' Ls (.int (-x) :: st)) : Run p l e R s m args below meth c n0 P h k n pc Ls (.int x :: st) := by
  subst hp; exact Run.pure (fun T locs X _ t z => XS.ineg X.here C.1 rfl (hb C.2.2.1 hd) rfl z) r
theorem s_lneg (C : Ctx p l e R s m args below meth c Z own cd maxL ret nm) {x : Int64} (hd : decode cd pc = .ok (.lneg, 1)) (hp : pc + 1 = pc') (r : Run p l e R s m args below meth c n0 P h k n pc' Ls (.long (-x) :: st)) : Run p l e R s m args below meth c n0 P h k n pc Ls (.long x :: st) := by
  subst hp; exact Run.pure (fun T locs X _ t z => XS.lneg X.here C.1 rfl (hb C.2.2.1 hd) rfl z) r
theorem s_i2l (C : Ctx p l e R s m args below meth c Z own cd maxL ret nm) {x : Int32} (hd : decode cd pc = .ok (.i2l, 1)) (hp : pc + 1 = pc') (r : Run p l e R s m args below meth c n0 P h k n pc' Ls (.long (x.toInt64) :: st)) : Run p l e R s m args below meth c n0 P h k n pc Ls (.int x :: st) := by
  subst hp; exact Run.pure (fun T locs X _ t z => XS.i2l X.here C.1 rfl (hb C.2.2.1 hd) rfl z) r
theorem s_l2i (C : Ctx p l e R s m args below meth c Z own cd maxL ret nm) {x : Int64} (hd : decode cd pc = .ok (.l2i, 1)) (hp : pc + 1 = pc') (r : Run p l e R s m args below meth c n0 P h k n pc' Ls (.int (x.toInt32) :: st)) : Run p l e R s m args below meth c n0 P h k n pc Ls (.long x :: st) := by
  subst hp; exact Run.pure (fun T locs X _ t z => XS.l2i X.here C.1 rfl (hb C.2.2.1 hd) rfl z) r
theorem s_i2b (C : Ctx p l e R s m args below meth c Z own cd maxL ret nm) {x : Int32} (hd : decode cd pc = .ok (.i2b, 1)) (hp : pc + 1 = pc') (r : Run p l e R s m args below meth c n0 P h k n pc' Ls (.int (x.toInt8.toInt32) :: st)) : Run p l e R s m args below meth c n0 P h k n pc Ls (.int x :: st) := by
  subst hp; exact Run.pure (fun T locs X _ t z => XS.i2b X.here C.1 rfl (hb C.2.2.1 hd) rfl z) r
theorem s_i2s (C : Ctx p l e R s m args below meth c Z own cd maxL ret nm) {x : Int32} (hd : decode cd pc = .ok (.i2s, 1)) (hp : pc + 1 = pc') (r : Run p l e R s m args below meth c n0 P h k n pc' Ls (.int (x.toInt16.toInt32) :: st)) : Run p l e R s m args below meth c n0 P h k n pc Ls (.int x :: st) := by
  subst hp; exact Run.pure (fun T locs X _ t z => XS.i2s X.here C.1 rfl (hb C.2.2.1 hd) rfl z) r
theorem s_i2c (C : Ctx p l e R s m args below meth c Z own cd maxL ret nm) {x : Int32} (hd : decode cd pc = .ok (.i2c, 1)) (hp : pc + 1 = pc') (r : Run p l e R s m args below meth c n0 P h k n pc' Ls (.int (x.toUInt32.toUInt16.toUInt32.toInt32) :: st)) : Run p l e R s m args below meth c n0 P h k n pc Ls (.int x :: st) := by
  subst hp; exact Run.pure (fun T locs X _ t z => XS.i2c X.here C.1 rfl (hb C.2.2.1 hd) rfl z) r
theorem s_lcmp (C : Ctx p l e R s m args below meth c Z own cd maxL ret nm) {x y : Int64} (hd : decode cd pc = .ok (.lcmp, 1)) (hp : pc + 1 = pc') (r : Run p l e R s m args below meth c n0 P h k n pc' Ls (.int (lcmpW x y) :: st)) : Run p l e R s m args below meth c n0 P h k n pc Ls (.long y :: .long x :: st) := by
  subst hp; exact Run.pure (fun T locs X _ t z => XS.lcmp X.here C.1 rfl (hb C.2.2.1 hd) rfl z) r
theorem s_goto (C : Ctx p l e R s m args below meth c Z own cd maxL ret nm) {o : Int} (hd : decode cd pc = .ok (.goto o, 3)) (hp : (pc : Int) + o = (pc' : Int)) (r : Run p l e R s m args below meth c n0 P h k n pc' Ls st) : Run p l e R s m args below meth c n0 P h k n pc Ls st :=
  Run.pure (fun T locs X _ t z => XS.goto X.here C.1 rfl (pc0 := pc) rfl (hb C.2.2.1 hd) (by omega) (by omega) z) r
theorem s_dup (C : Ctx p l e R s m args below meth c Z own cd maxL ret nm) {v : Value} (hd : decode cd pc = .ok (.dup, 1)) (hp : pc + 1 = pc') (hc : v.category = 1) (r : Run p l e R s m args below meth c n0 P h k n pc' Ls (v :: v :: st)) : Run p l e R s m args below meth c n0 P h k n pc Ls (v :: st) := by
  subst hp; exact Run.pure (fun T locs X _ t z => XS.dup X.here C.1 rfl (hb C.2.2.1 hd) rfl hc z) r
theorem s_pop (C : Ctx p l e R s m args below meth c Z own cd maxL ret nm) {v : Value} (hd : decode cd pc = .ok (.pop, 1)) (hp : pc + 1 = pc') (hc : v.category = 1) (r : Run p l e R s m args below meth c n0 P h k n pc' Ls st) : Run p l e R s m args below meth c n0 P h k n pc Ls (v :: st) := by
  subst hp; exact Run.pure (fun T locs X _ t z => XS.pop X.here C.1 rfl (hb C.2.2.1 hd) rfl hc z) r
theorem s_dup2 (C : Ctx p l e R s m args below meth c Z own cd maxL ret nm) {v w : Value} (hd : decode cd pc = .ok (.dup2, 1)) (hp : pc + 1 = pc') (hc : v.category = 1) (hc' : w.category = 1) (r : Run p l e R s m args below meth c n0 P h k n pc' Ls (v :: w :: v :: w :: st)) : Run p l e R s m args below meth c n0 P h k n pc Ls (v :: w :: st) := by
  subst hp; exact Run.pure (fun T locs X _ t z => XT.dup2 X.here C.1 rfl (hb C.2.2.1 hd) rfl hc hc' z) r
theorem s_dupX1 (C : Ctx p l e R s m args below meth c Z own cd maxL ret nm) {v w : Value} (hd : decode cd pc = .ok (.dup_x1, 1)) (hp : pc + 1 = pc') (hc : v.category = 1) (hc' : w.category = 1) (r : Run p l e R s m args below meth c n0 P h k n pc' Ls (v :: w :: v :: st)) : Run p l e R s m args below meth c n0 P h k n pc Ls (v :: w :: st) := by
  subst hp; exact Run.pure (fun T locs X _ t z => XS.dupX1 X.here C.1 rfl (hb C.2.2.1 hd) rfl hc hc' z) r
/-! branches -/
theorem s_if (C : Ctx p l e R s m args below meth c Z own cd maxL ret nm) {cc : ClassFile.Cond} {o : Int} {x : Int32} {pcY : Nat} (hd : decode cd pc = .ok (.ifCond cc o, 3)) (hp : pc + 3 = pc') (ho : (pc : Int) + o = (pcY : Int)) (rY : if_icmp.holds cc x 0 = true → Run p l e R s m args below meth c n0 P h k n pcY Ls st) (rN : if_icmp.holds cc x 0 = false → Run p l e R s m args below meth c n0 P h k n pc' Ls st) : Run p l e R s m args below meth c n0 P h k n pc Ls (.int x :: st) := by
  subst hp
  cases hq : if_icmp.holds cc x 0
  · exact Run.pure (fun T locs X _ t z => XS.ifNo X.here C.1 rfl (hb C.2.2.1 hd) rfl ((if0 _ _).trans hq) z) (rN hq)
  · exact Run.pure (fun T locs X _ t z => XS.ifYes X.here C.1 rfl (pc0 := pc) rfl (hb C.2.2.1 hd) rfl ((if0 _ _).trans hq) (by omega) (by omega) z) (rY hq)
theorem s_icmp (C : Ctx p l e R s m args below meth c Z own cd maxL ret nm) {cc : ClassFile.Cond} {o : Int} {x y : Int32} {pcY : Nat} (hd : decode cd pc = .ok (.if_icmp cc o, 3)) (hp : pc + 3 = pc') (ho : (pc : Int) + o = (pcY : Int)) (rY : if_icmp.holds cc x y = true → Run p l e R s m args below meth c n0 P h k n pcY Ls st) (rN : if_icmp.holds cc x y = false → Run p l e R s m args below meth c n0 P h k n pc' Ls st) : Run p l e R s m args below meth c n0 P h k n pc Ls (.int y :: .int x :: st) := by
  subst hp
  cases hq : if_icmp.holds cc x y
  · exact Run.pure (fun T locs X _ t z => XS.icmpNo X.here C.1 rfl (hb C.2.2.1 hd) rfl hq z) (rN hq)
  · exact Run.pure (fun T locs X _ t z => XS.icmpYes X.here C.1 rfl (pc0 := pc) rfl (hb C.2.2.1 hd) rfl hq (by omega) (by omega) z) (rY hq)
theorem holds_lt {x y : Int32} : (if_icmp.holds .lt x y = true → x < y) ∧ (if_icmp.holds .lt x y = false → ¬ x < y) := ⟨fun h => by simpa [if_icmp.holds] using h, fun h q => by simp [if_icmp.holds, q] at h⟩
theorem holds_ge {x y : Int32} : (if_icmp.holds .ge x y = true → ¬ x < y) ∧ (if_icmp.holds .ge x y = false → x < y) := ⟨fun h q => (by rw [(tlt q).2.1] at h; cases h), fun h => Decidable.byContradiction fun q => (by rw [(flt q).2.1] at h; cases h)⟩
theorem holds_gt {x y : Int32} : (if_icmp.holds .gt x y = true → y < x) ∧ (if_icmp.holds .gt x y = false → ¬ y < x) := ⟨fun h => Decidable.byContradiction fun q => (by rw [(flt q).2.2.1] at h; cases h), fun h q => (by rw [(tlt q).2.2.1] at h; cases h)⟩
theorem holds_le {x y : Int32} : (if_icmp.holds .le x y = true → ¬ y < x) ∧ (if_icmp.holds .le x y = false → y < x) := ⟨fun h q => (by rw [(tlt q).2.2.2] at h; cases h), fun h => Decidable.byContradiction fun q => (by rw [(flt q).2.2.2] at h; cases h)⟩
theorem holds_eq {x y : Int32} : (if_icmp.holds .eq x y = true → x = y) ∧ (if_icmp.holds .eq x y = false → ¬ x = y) := ⟨fun h => Decidable.byContradiction fun q => (by rw [(feq q).1] at h; cases h), fun h q => (by rw [(teq q).1] at h; cases h)⟩
theorem holds_ne {x y : Int32} : (if_icmp.holds .ne x y = true → ¬ x = y) ∧ (if_icmp.holds .ne x y = false → x = y) := ⟨fun h q => (by rw [(teq q).2] at h; cases h), fun h => Decidable.byContradiction fun q => (by rw [(feq q).2] at h; cases h)⟩
theorem s_if_lt (C : Ctx p l e R s m args below meth c Z own cd maxL ret nm) {o : Int} {x : Int32} {pcY : Nat} (hd : decode cd pc = .ok (.ifCond .lt o, 3)) (hp : pc + 3 = pc') (ho : (pc : Int) + o = (pcY : Int)) (rY : x < (0 : Int32) → Run p l e R s m args below meth c n0 P h k n pcY Ls st) (rN : ¬ x < (0 : Int32) → Run p l e R s m args below meth c n0 P h k n pc' Ls st) : Run p l e R s m args below meth c n0 P h k n pc Ls (.int x :: st) :=
  s_if C hd hp ho (fun h => rY (holds_lt.1 h)) (fun h => rN (holds_lt.2 h))
theorem s_icmp_lt (C : Ctx p l e R s m args below meth c Z own cd maxL ret nm) {o : Int} {x y : Int32} {pcY : Nat} (hd : decode cd pc = .ok (.if_icmp .lt o, 3)) (hp : pc + 3 = pc') (ho : (pc : Int) + o = (pcY : Int)) (rY : x < y → Run p l e R s m args below meth c n0 P h k n pcY Ls st) (rN : ¬ x < y → Run p l e R s m args below meth c n0 P h k n pc' Ls st) : Run p l e R s m args below meth c n0 P h k n pc Ls (.int y :: .int x :: st) :=
  s_icmp C hd hp ho (fun h => rY (holds_lt.1 h)) (fun h => rN (holds_lt.2 h))
theorem s_lc_lt (C : Ctx p l e R s m args below meth c Z own cd maxL ret nm) {o : Int} {x y : Int64} {pc1 pcY : Nat} (hd : decode cd pc = .ok (.lcmp, 1)) (hp1 : pc + 1 = pc1) (hd2 : decode cd pc1 = .ok (.ifCond .lt o, 3)) (hp : pc1 + 3 = pc') (ho : (pc1 : Int) + o = (pcY : Int)) (rY : x < y → Run p l e R s m args below meth c n0 P h k n pcY Ls st) (rN : ¬ x < y → Run p l e R s m args below meth c n0 P h k n pc' Ls st) : Run p l e R s m args below meth c n0 P h k n pc Ls (.long y :: .long x :: st) :=
  s_lcmp C hd hp1 (s_if_lt C hd2 hp ho (fun h => rY ((lw_lt x y).mp h)) (fun h => rN (fun q => h ((lw_lt x y).mpr q))))
theorem s_if_ge (C : Ctx p l e R s m args below meth c Z own cd maxL ret nm) {o : Int} {x : Int32} {pcY : Nat} (hd : decode cd pc = .ok (.ifCond .ge o, 3)) (hp : pc + 3 = pc') (ho : (pc : Int) + o = (pcY : Int)) (rY : ¬ x < (0 : Int32) → Run p l e R s m args below meth c n0 P h k n pcY Ls st) (rN : x < (0 : Int32) → Run p l e R s m args below meth c n0 P h k n pc' Ls st) : Run p l e R s m args below meth c n0 P h k n pc Ls (.int x :: st) :=
  s_if C hd hp ho (fun h => rY (holds_ge.1 h)) (fun h => rN (holds_ge.2 h))
theorem s_icmp_ge (C : Ctx p l e R s m args below meth c Z own cd maxL ret nm) {o : Int} {x y : Int32} {pcY : Nat} (hd : decode cd pc = .ok (.if_icmp .ge o, 3)) (hp : pc + 3 = pc') (ho : (pc : Int) + o = (pcY : Int)) (rY : ¬ x < y → Run p l e R s m args below meth c n0 P h k n pcY Ls st) (rN : x < y → Run p l e R s m args below meth c n0 P h k n pc' Ls st) : Run p l e R s m args below meth c n0 P h k n pc Ls (.int y :: .int x :: st) :=
  s_icmp C hd hp ho (fun h => rY (holds_ge.1 h)) (fun h => rN (holds_ge.2 h))
theorem s_lc_ge (C : Ctx p l e R s m args below meth c Z own cd maxL ret nm) {o : Int} {x y : Int64} {pc1 pcY : Nat} (hd : decode cd pc = .ok (.lcmp, 1)) (hp1 : pc + 1 = pc1) (hd2 : decode cd pc1 = .ok (.ifCond .ge o, 3)) (hp : pc1 + 3 = pc') (ho : (pc1 : Int) + o = (pcY : Int)) (rY : ¬ x < y → Run p l e R s m args below meth c n0 P h k n pcY Ls st) (rN : x < y → Run p l e R s m args below meth c n0 P h k n pc' Ls st) : Run p l e R s m args below meth c n0 P h k n pc Ls (.long y :: .long x :: st) :=
  s_lcmp C hd hp1 (s_if_ge C hd2 hp ho (fun h => rY (fun q => h ((lw_lt x y).mpr q))) (fun h => rN ((lw_lt x y).mp h)))
theorem s_if_gt (C : Ctx p l e R s m args below meth c Z own cd maxL ret nm) {o : Int} {x : Int32} {pcY : Nat} (hd : decode cd pc = .ok (.ifCond .gt o, 3)) (hp : pc + 3 = pc') (ho : (pc : Int) + o = (pcY : Int)) (rY : (0 : Int32) < x → Run p l e R s m args below meth c n0 P h k n pcY Ls st) (rN : ¬ (0 : Int32) < x → Run p l e R s m args below meth c n0 P h k n pc' Ls st) : Run p l e R s m args below meth c n0 P h k n pc Ls (.int x :: st) :=
  s_if C hd hp ho (fun h => rY (holds_gt.1 h)) (fun h => rN (holds_gt.2 h))
theorem s_icmp_gt (C : Ctx p l e R s m args below meth c Z own cd maxL ret nm) {o : Int} {x y : Int32} {pcY : Nat} (hd : decode cd pc = .ok (.if_icmp .gt o, 3)) (hp : pc + 3 = pc') (ho : (pc : Int) + o = (pcY : Int)) (rY : y < x → Run p l e R s m args below meth c n0 P h k n pcY Ls st) (rN : ¬ y < x → Run p l e R s m args below meth c n0 P h k n pc' Ls st) : Run p l e R s m args below meth c n0 P h k n pc Ls (.int y :: .int x :: st) :=
  s_icmp C hd hp ho (fun h => rY (holds_gt.1 h)) (fun h => rN (holds_gt.2 h))
theorem s_lc_gt (C : Ctx p l e R s m args below meth c Z own cd maxL ret nm) {o : Int} {x y : Int64} {pc1 pcY : Nat} (hd : decode cd pc = .ok (.lcmp, 1)) (hp1 : pc + 1 = pc1) (hd2 : decode cd pc1 = .ok (.ifCond .gt o, 3)) (hp : pc1 + 3 = pc') (ho : (pc1 : Int) + o = (pcY : Int)) (rY : y < x → Run p l e R s m args below meth c n0 P h k n pcY Ls st) (rN : ¬ y < x → Run p l e R s m args below meth c n0 P h k n pc' Ls st) : Run p l e R s m args below meth c n0 P h k n pc Ls (.long y :: .long x :: st) :=
  s_lcmp C hd hp1 (s_if_gt C hd2 hp ho (fun h => rY ((lw_gt x y).mp h)) (fun h => rN (fun q => h ((lw_gt x y).mpr q))))
theorem s_if_le (C : Ctx p l e R s m args below meth c Z own cd maxL ret nm) {o : Int} {x : Int32} {pcY : Nat} (hd : decode cd pc = .ok (.ifCond .le o, 3)) (hp : pc + 3 = pc') (ho : (pc : Int) + o = (pcY : Int)) (rY : ¬ (0 : Int32) < x → Run p l e R s m args below meth c n0 P h k n pcY Ls st) (rN : (0 : Int32) < x → Run p l e R s m args below meth c n0 P h k n pc' Ls st) : Run p l e R s m args below meth c n0 P h k n pc Ls (.int x :: st) :=
  s_if C hd hp ho (fun h => rY (holds_le.1 h)) (fun h => rN (holds_le.2 h))
theorem s_icmp_le (C : Ctx p l e R s m args below meth c Z own cd maxL ret nm) {o : Int} {x y : Int32} {pcY : Nat} (hd : decode cd pc = .ok (.if_icmp .le o, 3)) (hp : pc + 3 = pc') (ho : (pc : Int) + o = (pcY : Int)) (rY : ¬ y < x → Run p l e R s m args below meth c n0 P h k n pcY Ls st) (rN : y < x → Run p l e R s m args below meth c n0 P h k n pc' Ls st) : Run p l e R s m args below meth c n0 P h k n pc Ls (.int y :: .int x :: st) :=
  s_icmp C hd hp ho (fun h => rY (holds_le.1 h)) (fun h => rN (holds_le.2 h))
theorem s_lc_le (C : Ctx p l e R s m args below meth c Z own cd maxL ret nm) {o : Int} {x y : Int64} {pc1 pcY : Nat} (hd : decode cd pc = .ok (.lcmp, 1)) (hp1 : pc + 1 = pc1) (hd2 : decode cd pc1 = .ok (.ifCond .le o, 3)) (hp : pc1 + 3 = pc') (ho : (pc1 : Int) + o = (pcY : Int)) (rY : ¬ y < x → Run p l e R s m args below meth c n0 P h k n pcY Ls st) (rN : y < x → Run p l e R s m args below meth c n0 P h k n pc' Ls st) : Run p l e R s m args below meth c n0 P h k n pc Ls (.long y :: .long x :: st) :=
  s_lcmp C hd hp1 (s_if_le C hd2 hp ho (fun h => rY (fun q => h ((lw_gt x y).mpr q))) (fun h => rN ((lw_gt x y).mp h)))
theorem s_if_eq (C : Ctx p l e R s m args below meth c Z own cd maxL ret nm) {o : Int} {x : Int32} {pcY : Nat} (hd : decode cd pc = .ok (.ifCond .eq o, 3)) (hp : pc + 3 = pc') (ho : (pc : Int) + o = (pcY : Int)) (rY : x = (0 : Int32) → Run p l e R s m args below meth c n0 P h k n pcY Ls st) (rN : ¬ x = (0 : Int32) → Run p l e R s m args below meth c n0 P h k n pc' Ls st) : Run p l e R s m args below meth c n0 P h k n pc Ls (.int x :: st) :=
  s_if C hd hp ho (fun h => rY (holds_eq.1 h)) (fun h => rN (holds_eq.2 h))
theorem s_icmp_eq (C : Ctx p l e R s m args below meth c Z own cd maxL ret nm) {o : Int} {x y : Int32} {pcY : Nat} (hd : decode cd pc = .ok (.if_icmp .eq o, 3)) (hp : pc + 3 = pc') (ho : (pc : Int) + o = (pcY : Int)) (rY : x = y → Run p l e R s m args below meth c n0 P h k n pcY Ls st) (rN : ¬ x = y → Run p l e R s m args below meth c n0 P h k n pc' Ls st) : Run p l e R s m args below meth c n0 P h k n pc Ls (.int y :: .int x :: st) :=
  s_icmp C hd hp ho (fun h => rY (holds_eq.1 h)) (fun h => rN (holds_eq.2 h))
theorem s_lc_eq (C : Ctx p l e R s m args below meth c Z own cd maxL ret nm) {o : Int} {x y : Int64} {pc1 pcY : Nat} (hd : decode cd pc = .ok (.lcmp, 1)) (hp1 : pc + 1 = pc1) (hd2 : decode cd pc1 = .ok (.ifCond .eq o, 3)) (hp : pc1 + 3 = pc') (ho : (pc1 : Int) + o = (pcY : Int)) (rY : x = y → Run p l e R s m args below meth c n0 P h k n pcY Ls st) (rN : ¬ x = y → Run p l e R s m args below meth c n0 P h k n pc' Ls st) : Run p l e R s m args below meth c n0 P h k n pc Ls (.long y :: .long x :: st) :=
  s_lcmp C hd hp1 (s_if_eq C hd2 hp ho (fun h => rY ((lw_eq x y).mp h)) (fun h => rN (fun q => h ((lw_eq x y).mpr q))))
theorem s_if_ne (C : Ctx p l e R s m args below meth c Z own cd maxL ret nm) {o : Int} {x : Int32} {pcY : Nat} (hd : decode cd pc = .ok (.ifCond .ne o, 3)) (hp : pc + 3 = pc') (ho : (pc : Int) + o = (pcY : Int)) (rY : ¬ x = (0 : Int32) → Run p l e R s m args below meth c n0 P h k n pcY Ls st) (rN : x = (0 : Int32) → Run p l e R s m args below meth c n0 P h k n pc' Ls st) : Run p l e R s m args below meth c n0 P h k n pc Ls (.int x :: st) :=
  s_if C hd hp ho (fun h => rY (holds_ne.1 h)) (fun h => rN (holds_ne.2 h))
theorem s_icmp_ne (C : Ctx p l e R s m args below meth c Z own cd maxL ret nm) {o : Int} {x y : Int32} {pcY : Nat} (hd : decode cd pc = .ok (.if_icmp .ne o, 3)) (hp : pc + 3 = pc') (ho : (pc : Int) + o = (pcY : Int)) (rY : ¬ x = y → Run p l e R s m args below meth c n0 P h k n pcY Ls st) (rN : x = y → Run p l e R s m args below meth c n0 P h k n pc' Ls st) : Run p l e R s m args below meth c n0 P h k n pc Ls (.int y :: .int x :: st) :=
  s_icmp C hd hp ho (fun h => rY (holds_ne.1 h)) (fun h => rN (holds_ne.2 h))
theorem s_lc_ne (C : Ctx p l e R s m args below meth c Z own cd maxL ret nm) {o : Int} {x y : Int64} {pc1 pcY : Nat} (hd : decode cd pc = .ok (.lcmp, 1)) (hp1 : pc + 1 = pc1) (hd2 : decode cd pc1 = .ok (.ifCond .ne o, 3)) (hp : pc1 + 3 = pc') (ho : (pc1 : Int) + o = (pcY : Int)) (rY : ¬ x = y → Run p l e R s m args below meth c n0 P h k n pcY Ls st) (rN : x = y → Run p l e R s m args below meth c n0 P h k n pc' Ls st) : Run p l e R s m args below meth c n0 P h k n pc Ls (.long y :: .long x :: st) :=
  s_lcmp C hd hp1 (s_if_ne C hd2 hp ho (fun h => rY (fun q => h ((lw_eq x y).mpr q))) (fun h => rN ((lw_eq x y).mp h)))
theorem s_ifnullR (C : Ctx p l e R s m args below meth c Z own cd maxL ret nm) {o : Int} {b : Addr} (hd : decode cd pc = .ok (.ifnull o, 3)) (hp : pc + 3 = pc') (r : Run p l e R s m args below meth c n0 P h k n pc' Ls st) : Run p l e R s m args below meth c n0 P h k n pc Ls (.ref b :: st) := by
  subst hp; exact Run.pure (fun T locs X _ t z => XS.ifnullNo X.here C.1 rfl (hb C.2.2.1 hd) rfl z) r
theorem s_ifnullN (C : Ctx p l e R s m args below meth c Z own cd maxL ret nm) {o : Int} (hd : decode cd pc = .ok (.ifnull o, 3)) (hp : (pc : Int) + o = (pc' : Int)) (r : Run p l e R s m args below meth c n0 P h k n pc' Ls st) : Run p l e R s m args below meth c n0 P h k n pc Ls (.null :: st) :=
  Run.pure (fun T locs X _ t z => XS.ifnullYes X.here C.1 rfl (pc0 := pc) rfl (hb C.2.2.1 hd) rfl (by omega) (by omega) z) r
theorem s_ifnonnullR (C : Ctx p l e R s m args below meth c Z own cd maxL ret nm) {o : Int} {b : Addr} (hd : decode cd pc = .ok (.ifnonnull o, 3)) (hp : (pc : Int) + o = (pc' : Int)) (r : Run p l e R s m args below meth c n0 P h k n pc' Ls st) : Run p l e R s m args below meth c n0 P h k n pc Ls (.ref b :: st) :=
  Run.pure (fun T locs X _ t z => XS.ifnonnullYes X.here C.1 rfl (pc0 := pc) rfl (hb C.2.2.1 hd) rfl (by omega) (by omega) z) r
theorem s_ifnonnullN (C : Ctx p l e R s m args below meth c Z own cd maxL ret nm) {o : Int} (hd : decode cd pc = .ok (.ifnonnull o, 3)) (hp : pc + 3 = pc') (r : Run p l e R s m args below meth c n0 P h k n pc' Ls st) : Run p l e R s m args below meth c n0 P h k n pc Ls (.null :: st) := by
  subst hp; exact Run.pure (fun T locs X _ t z => XS.ifnonnullNo X.here C.1 rfl (hb C.2.2.1 hd) rfl z) r
theorem s_acmp (C : Ctx p l e R s m args below meth c Z own cd maxL ret nm) {cc : ClassFile.ACond} {o : Int} {x y : Value} {same : Bool} (hd : decode cd pc = .ok (.if_acmp cc o, 3)) (h1 : x.isRef = true) (h2 : y.isRef = true) (hq : decide (x = y) = same) (ho : 0 ≤ (pc : Int) + o) (hp : pc' = if acV cc same = true then ((pc : Int) + o).toNat else pc + 3) (r : Run p l e R s m args below meth c n0 P h k n pc' Ls st) : Run p l e R s m args below meth c n0 P h k n pc Ls (y :: x :: st) :=
  Run.pure (fun T locs X _ t z => Jvm.RoadKit.acmp (g := mkF m pc Ls (y :: x :: st)) X C.1 rfl h1 h2 rfl (hb C.2.2.1 hd) rfl hq ho hp z) r
/-! returns -/
theorem Run.out {v : Option Value} (C : Ctx p l e R s m args below meth c Z own cd maxL ret nm) (hv : ret = none → v = none) (f : ∀ T locs, Stand p l e R s m args below meth c T locs k n → ∀ fs, (∀ (f : JFrame) (acts : List Action), f.method = m → f.locked = none → f.entered = [] → (doReturn e (T.setTop f) acts v).1 = T.setFrames fs) → Steps p.tables e below (T.setTop (mkF m pc Ls st)) (T.setFrames fs)) (hk : k ≤ R.cells) (hn : n ≤ R.slots) (hP : P v h) : Run p l e R s m args below meth c n0 P h k n pc Ls st := fun T locs X eT N => by
  obtain ⟨fs, hr, hrun, hended, hW, hsame⟩ := X.leave (v := v) (fun h => hv (C.2.2.2.2.2.1 ▸ h)) C.2.2.2.2.2.2.1
  exact ⟨_, _, f T locs X fs hr, hrun, hended, _, _, rfl, ⟨(by rw [show (T.setFrames fs).heap = h from eT]; exact hP), N⟩, ⟨_, rfl⟩, hW, hsame.mono hk hn⟩
theorem s_retI {Q : Int32 → Heap → Prop} (C : Ctx p l e R s m args below meth c Z own cd maxL (some .int) nm) {z : Int32} (hd : decode cd pc = .ok (.ireturn, 1)) (hk : k ≤ R.cells) (hn : n ≤ R.slots) (hQ : Q z h) : Run p l e R s m args below meth c n0 (RetI Q) h k n pc Ls (.int z :: st) :=
  Run.out C (fun h => by cases h) (fun T locs X fs hr => retOut X C.1 C.2.2.2.2.2.1 rfl (Or.inl ⟨rfl, Or.inl rfl, _, rfl⟩) (hb C.2.2.1 hd) hr) hk hn ⟨_, rfl, hQ⟩
theorem s_retN {Q : Int32 → Heap → Prop} {t : FieldType} (C : Ctx p l e R s m args below meth c Z own cd maxL (some t) nm) (ht : t = .boolean ∨ t = .byte ∨ t = .char ∨ t = .short) {z : Int32} (hd : decode cd pc = .ok (.ireturn, 1)) (hk : k ≤ R.cells) (hn : n ≤ R.slots) (hQ : Q (nar t z) h) : Run p l e R s m args below meth c n0 (RetI Q) h k n pc Ls (.int z :: st) :=
  Run.out C (fun h => by cases h) (fun T locs X fs hr => retN X C.1 C.2.2.2.2.2.1 ht (hb C.2.2.1 hd) hr) hk hn ⟨_, rfl, hQ⟩
theorem s_retL {Q : Int64 → Heap → Prop} (C : Ctx p l e R s m args below meth c Z own cd maxL (some .long) nm) {z : Int64} (hd : decode cd pc = .ok (.lreturn, 1)) (hk : k ≤ R.cells) (hn : n ≤ R.slots) (hQ : Q z h) : Run p l e R s m args below meth c n0 (RetL Q) h k n pc Ls (.long z :: st) :=
  Run.out C (fun h => by cases h) (fun T locs X fs hr => retOut X C.1 C.2.2.2.2.2.1 rfl (Or.inr (Or.inl ⟨rfl, rfl, _, rfl⟩)) (hb C.2.2.1 hd) hr) hk hn ⟨_, rfl, hQ⟩
theorem s_retA {Q : Value → Heap → Prop} {t : FieldType} (C : Ctx p l e R s m args below meth c Z own cd maxL (some t) nm) (ht : t.isReference = true) {v : Value} (hv : v.isRef = true) (hn' : narrow t v = v) (hd : decode cd pc = .ok (.areturn, 1)) (hk : k ≤ R.cells) (hn : n ≤ R.slots) (hQ : Q v h) : Run p l e R s m args below meth c n0 (RetV Q) h k n pc Ls (v :: st) :=
  Run.out C (fun h => by cases h) (fun T locs X fs hr => retOut X C.1 C.2.2.2.2.2.1 hn' (Or.inr (Or.inr (Or.inr (Or.inr ⟨rfl, ht, hv⟩)))) (hb C.2.2.1 hd) hr) hk hn ⟨_, rfl, hQ⟩
theorem s_ret0 {Q : Heap → Prop} (C : Ctx p l e R s m args below meth c Z own cd maxL none nm) (hd : decode cd pc = .ok (.return_, 1)) (hk : k ≤ R.cells) (hn : n ≤ R.slots) (hQ : Q h) : Run p l e R s m args below meth c n0 (Ret0 Q) h k n pc Ls [] :=
  Run.out C (fun _ => rfl) (fun T locs X fs hr => X.returnOut C.1 C.2.2.2.2.2.1 (hb C.2.2.1 hd) hr) hk hn ⟨rfl, hQ⟩
/-! fields, objects -/
theorem s_getF (C : Ctx p l e R s m args below meth c Z own cd maxL ret nm) {O f d : String} {i : Nat} {a : Addr} {v : Value} (hd : decode cd pc = .ok (.getfield i, 3)) (hp : pc + 3 = pc') (w : (Jvm.Cond.fieldLink own i O f d).before a0 Z = true) (F : Fld Z h a O f d v) (r : Run p l e R s m args below meth c n0 P h k n pc' Ls (v :: st)) : Run p l e R s m args below meth c n0 P h k n pc Ls (.ref a :: st) := by
  subst hp; exact Run.warm (fun T locs X eT => getF X C.1 C.2.1 C.2.2.2.2.1 (host := "") (Or.inl w) Via.refl eT F (g := mkF m pc Ls (.ref a :: st)) rfl rfl (hb C.2.2.1 hd)) r
theorem s_getS (C : Ctx p l e R s m args below meth c Z own cd maxL ret nm) {O f d : String} {i : Nat} {v : Value} (hd : decode cd pc = .ok (.getstatic i, 3)) (hp : pc + 3 = pc') (w : (Jvm.Cond.fieldLink own i O f d).before a0 Z = true) (F : Sta Z h O f d v) (r : Run p l e R s m args below meth c n0 P h k n pc' Ls (v :: st)) : Run p l e R s m args below meth c n0 P h k n pc Ls st := by
  subst hp; exact Run.warm (fun T locs X eT => getS (host := "") X C.1 C.2.1 C.2.2.2.2.1 w Via.refl eT F (g := mkF m pc Ls st) rfl (hb C.2.2.1 hd)) r
theorem s_putF (C : Ctx p l e R s m args below meth c Z own cd maxL ret nm) {O f d K : String} {i kk : Nat} {a : Addr} {v old : Value} {ty : FieldType} (hd : decode cd pc = .ok (.putfield i, 3)) (hp : pc + 3 = pc') (w : (Jvm.Cond.fieldLink own i O f d).before a0 Z = true) (F : Fld Z h a O f d old) (E : Exa Z h a K)
    (L : (Jvm.Cond.lays K O f d).before a0 Z = true ∨ ((Jvm.Cond.laysFinal K O f d).before a0 Z = true ∧ own = O ∧ nm = "<init>")) (wi : (Jvm.Cond.instantiable K kk).before a0 Z = true) (hty : parseFieldDescriptor d = some ty) (hn : narrow ty v = v) (hf : fits ty v = true) (ha : n0 ≤ a)
    (r : ∀ h', Wr h h' a (Jvm.RoadKit.slotOf Z O f d) v → Run p l e R s m args below meth c n0 P h' k n pc' Ls st) : Run p l e R s m args below meth c n0 P h k n pc Ls (v :: .ref a :: st) := by
  subst hp
  intro T locs X eT N
  obtain ⟨T', h', X', e', W, q⟩ := putF X C.1 C.2.1 C.2.2.2.2.1 (host := "") (Or.inl w) Via.refl eT F E (L.imp id fun z => ⟨z.1, z.2.1, C.2.2.2.2.2.2.2.trans z.2.2⟩) wi hty hn hf (g := mkF m pc Ls (v :: .ref a :: st)) rfl rfl (hb C.2.2.1 hd)
  obtain ⟨s₂, o, z, r⟩ := r h' W T' _ X' e' (Fr.snoc X' N ha)
  exact ⟨s₂, o, q _ z, r⟩
theorem s_new (C : Ctx p l e R s m args below meth c Z own cd maxL ret nm) {K : String} {i sl k' n' : Nat} (hd : decode cd pc = .ok (.new i, 3)) (hp : pc + 3 = pc') (w : (Jvm.Cond.classLink own i K).before a0 Z = true) (wi : (Jvm.Cond.instantiable K sl).before a0 Z = true) (wz : (Jvm.Cond.initialized K).before a0 Z = true) (hk : k + 1 = k') (hk' : k' ≤ R.cells) (hn : n + sl = n') (hn' : n' ≤ R.slots)
    (r : ∀ h' a, Ext h h' → a = h.size → Exa Z h' a K → (∀ {O nm d : String} {ty : FieldType}, Laid Z a0 K O nm d → parseFieldDescriptor d = some ty → Fld Z h' a O nm d (defaultValue ty)) → Run p l e R s m args below meth c n0 P h' k' n' pc' Ls (.ref a :: st)) : Run p l e R s m args below meth c n0 P h k n pc Ls st := by
  subst hp hk hn
  intro T locs X eT N
  obtain ⟨T', h', X', e', E, A, D, -, q⟩ := newO X C.1 C.2.1 C.2.2.2.2.1 w wi wz eT (g := mkF m pc Ls st) rfl (hb C.2.2.1 hd) hk' hn'
  obtain ⟨s₂, o, z, r⟩ := r h' _ E rfl A D T' _ X' e' N
  exact ⟨s₂, o, q _ z, r⟩
theorem s_initO (C : Ctx p l e R s m args below meth c Z own cd maxL ret nm) {i W : Nat} {a : Addr} (hd : decode cd pc = .ok (.invokespecial i, 3)) (hp : pc + 3 = pc') (w1 : (Jvm.Cond.methodLink own i Lib.objectInit).before a0 Z = true) (w2 : (Jvm.Cond.instanceMethod Lib.objectInit).before a0 Z = true) (w3 : (Jvm.Cond.code Lib.objectInit ⟨#[0xb1]⟩ 1 none).before a0 Z = true) (hs : Ls.size = maxL) (hf : 1 ≤ R.frames) (hW : (st.map fun v => v.category).sum = W) (hl : W + 12 ≤ R.locals)
    (r : Run p l e R s m args below meth c n0 P h k n pc' Ls st) : Run p l e R s m args below meth c n0 P h k n pc Ls (.ref a :: st) := by
  subst hp; exact Run.warm (fun T locs X eT => initO X C.1 C.2.1 C.2.2.2.2.1 w1 w2 w3 eT (g := mkF m pc Ls (.ref a :: st)) rfl (by rw [C.2.2.2.1]; exact hs) rfl (hb C.2.2.1 hd) hf (W := W) (by show 2 * 0 + _ ≤ _; omega) hl) r
theorem s_cast (C : Ctx p l e R s m args below meth c Z own cd maxL ret nm) {K : String} {i : Nat} {a : Addr} (hd : decode cd pc = .ok (.checkcast i, 3)) (hp : pc + 3 = pc') (w : (Jvm.Cond.classLink own i K).before a0 Z = true) (F : Ins Z h a K true) (r : Run p l e R s m args below meth c n0 P h k n pc' Ls (.ref a :: st)) : Run p l e R s m args below meth c n0 P h k n pc Ls (.ref a :: st) := by
  subst hp; exact Run.warm (fun T locs X eT => castY X C.1 C.2.1 C.2.2.2.2.1 w eT F (g := mkF m pc Ls (.ref a :: st)) rfl rfl (hb C.2.2.1 hd)) r
theorem s_instY (C : Ctx p l e R s m args below meth c Z own cd maxL ret nm) {K : String} {i : Nat} {a : Addr} (hd : decode cd pc = .ok (.instanceof i, 3)) (hp : pc + 3 = pc') (w : (Jvm.Cond.classLink own i K).before a0 Z = true) (F : Ins Z h a K true) (r : Run p l e R s m args below meth c n0 P h k n pc' Ls (.int 1 :: st)) : Run p l e R s m args below meth c n0 P h k n pc Ls (.ref a :: st) := by
  subst hp; exact Run.warm (fun T locs X eT => instY X C.1 C.2.1 C.2.2.2.2.1 w eT F (g := mkF m pc Ls (.ref a :: st)) rfl rfl (hb C.2.2.1 hd)) r
/-! calls -/
theorem Met.back {y : MethodName} {bytes : ByteArray} {mL len W : Nat} {rt : Option FieldType} {rm : Room} {as : Array Value} {Q : Option Value → Heap → Prop} (M : Met l Z y bytes mL rt [] rm as h n0 Q) (hZ : Z.Warmed39 s.vm) (wc : (Jvm.Cond.code y bytes mL rt).before a0 Z = true) (wz : (Jvm.Cond.initialized y.cls).before a0 Z = true) (hf : rm.frames + 1 ≤ R.frames) (hl : W + (mL + 11) + rm.locals ≤ R.locals) :
    Back l R p e below s args y len W (fun A a => a = as ∧ A.U.heap = h ∧ A.cells + rm.cells ≤ R.cells ∧ A.slots + rm.slots ≤ R.slots) (fun A _ v B => ∃ L, (Q v B.U.heap ∧ Fr n0 L) ∧ B.locs = A.locs ++ L ∧ B.cells = A.cells + rm.cells ∧ B.slots = A.slots + rm.slots) :=
  backOf (Q := fun v h L => Q v h ∧ Fr n0 L) M hZ wc wz hf hl
theorem s_callS (C : Ctx p l e R s m args below meth c Z own cd maxL ret nm) {y : MethodName} {bytes : ByteArray} {mL i W k' n' : Nat} {rt : Option FieldType} {rm : Room} {Q : Option Value → Heap → Prop} (hd : decode cd pc = .ok (.invokestatic i, 3)) (hp : pc + 3 = pc') (wl : (Jvm.Cond.methodLink own i y).before a0 Z = true) (ws : (Jvm.Cond.static y).before a0 Z = true) (wz : (Jvm.Cond.initialized y.cls).before a0 Z = true) (wc : (Jvm.Cond.code y bytes mL rt).before a0 Z = true) (hy : y.cls ≠ "java/lang/invoke/MethodHandle" ∧ y.cls ≠ "java/lang/invoke/VarHandle") (as rest : List Value) {ps : List FieldType} {rr : Option FieldType} (hdes : parseMethodDescriptor y.desc = some ⟨ps, rr⟩) (hlen : as.length = ps.length) (hst : st = as.reverse ++ rest)
    (M : Met l Z y bytes mL rt [] rm as.toArray h n0 Q) (hs : Ls.size = maxL) (hW : (rest.map fun v => v.category).sum = W) (hf : rm.frames + 1 ≤ R.frames) (hl : W + (mL + 11) + rm.locals ≤ R.locals) (hk : k + rm.cells = k') (hk' : k' ≤ R.cells) (hn : n + rm.slots = n') (hn' : n' ≤ R.slots)
    (r : ∀ v h', Q v h' → Run p l e R s m args below meth c n0 P h' k' n' pc' Ls (v.toList ++ rest)) : Run p l e R s m args below meth c n0 P h k n pc Ls st := by
  subst hp hk hn hst
  intro T locs X eT N
  obtain ⟨v, _, ⟨T', L', k', n'⟩, -, X', ⟨Lc, ⟨hQ, N'⟩, l', y', z'⟩, q⟩ := Jvm.LawKit.callS X C.1 (y := y) C.2.2.2.2.1 (mvT C.2.1 wl) (mvT C.2.1 ws) (mvT C.2.1 wz) (mvT C.2.1 wc) hy (M.back (W := W) C.2.1 wc wz hf hl) (g := mkF m pc Ls (as.reverse ++ rest)) rfl (by rw [C.2.2.2.1]; exact hs) (argsL := as) (rest := rest) (lenOf hdes hlen) rfl (by show 2 * 0 + _ ≤ _; omega) (hb C.2.2.1 hd) (fun _ _ => ⟨rfl, eT, hk', hn'⟩)
  dsimp only [Pt.U, Pt.locs, Pt.cells, Pt.slots] at X' l' y' z' q hQ
  subst l' y' z'
  obtain ⟨s₂, o, z, r⟩ := r v _ hQ T' _ X' rfl (Fr.app N N')
  exact ⟨s₂, o, q _ z, r⟩
theorem s_callV (C : Ctx p l e R s m args below meth c Z own cd maxL ret nm) {y z : MethodName} {K : String} {bytes : ByteArray} {mL i W k' n' : Nat} {rt : Option FieldType} {rm : Room} {b : Addr} {Q : Option Value → Heap → Prop} (hd : decode cd pc = .ok (.invokevirtual i, 3)) (hp : pc + 3 = pc') (wl : (Jvm.Cond.methodLink own i y).before a0 Z = true) (wd : (Jvm.Cond.declares y).before a0 Z = true) (hnf : NotFace s y) (wsel : (Jvm.Cond.selects K y z).before a0 Z = true) (wi : (Jvm.Cond.instanceMethod z).before a0 Z = true) (wz : (Jvm.Cond.initialized z.cls).before a0 Z = true) (wc : (Jvm.Cond.code z bytes mL rt).before a0 Z = true) (hy : y.cls ≠ "java/lang/invoke/MethodHandle" ∧ y.cls ≠ "java/lang/invoke/VarHandle") (E : Exa Z h b K) (as rest : List Value) {ps : List FieldType} {rr : Option FieldType} (hdes : parseMethodDescriptor y.desc = some ⟨ps, rr⟩) (hlen : as.length = ps.length) (hst : st = as.reverse ++ .ref b :: rest)
    (M : Met l Z z bytes mL rt [] rm (.ref b :: as).toArray h n0 Q) (hs : Ls.size = maxL) (hW : (rest.map fun v => v.category).sum = W) (hf : rm.frames + 1 ≤ R.frames) (hl : W + (mL + 11) + rm.locals ≤ R.locals) (hk : k + rm.cells = k') (hk' : k' ≤ R.cells) (hn : n + rm.slots = n') (hn' : n' ≤ R.slots)
    (r : ∀ v h', Q v h' → Run p l e R s m args below meth c n0 P h' k' n' pc' Ls (v.toList ++ rest)) : Run p l e R s m args below meth c n0 P h k n pc Ls st := by
  subst hp hk hn hst
  intro T locs X eT N
  obtain ⟨cq, kq, qa, qb, qc⟩ := isOf C.2.1 eT E
  obtain ⟨v, _, ⟨T', L', k', n'⟩, -, X', ⟨Lc, ⟨hQ, N'⟩, l', y', z'⟩, q⟩ := X.virtualBack C.1 (y := y) (z := z) C.2.2.2.2.1 (mvT C.2.1 wl) (mvT C.2.1 wd) hnf (mvT C.2.1 wsel) (mvT C.2.1 wi) hy (M.back (W := W) C.2.1 wc wz hf hl) qa qc (g := mkF m pc Ls (as.reverse ++ .ref b :: rest)) rfl (by rw [C.2.2.2.1]; exact hs) (Steps.refl _) (argsL := as) (rest := rest) (lenOf hdes hlen) rfl (by show 2 * 0 + _ ≤ _; omega) (hb C.2.2.1 hd) (fun _ _ => ⟨rfl, eT, hk', hn'⟩)
  dsimp only [Pt.U, Pt.locs, Pt.cells, Pt.slots] at X' l' y' z' q hQ
  subst l' y' z'
  obtain ⟨s₂, o, z, r⟩ := r v _ hQ T' _ X' rfl (Fr.app N N')
  exact ⟨s₂, o, q.trans z, r⟩
theorem s_callI (C : Ctx p l e R s m args below meth c Z own cd maxL ret nm) {y : MethodName} {bytes : ByteArray} {mL i W k' n' : Nat} {rm : Room} {b : Addr} {Q : Heap → Prop} (hd : decode cd pc = .ok (.invokespecial i, 3)) (hp : pc + 3 = pc') (wl : (Jvm.Cond.methodLink own i y).before a0 Z = true) (hy1 : y.name = "<init>") (wi : (Jvm.Cond.instanceMethod y).before a0 Z = true) (wz : (Jvm.Cond.initialized y.cls).before a0 Z = true) (wc : (Jvm.Cond.code y bytes mL none).before a0 Z = true) (hy : y.cls ≠ "java/lang/invoke/MethodHandle" ∧ y.cls ≠ "java/lang/invoke/VarHandle") (as rest : List Value) {ps : List FieldType} {rr : Option FieldType} (hdes : parseMethodDescriptor y.desc = some ⟨ps, rr⟩) (hlen : as.length = ps.length) (hst : st = as.reverse ++ .ref b :: rest)
    (M : Met l Z y bytes mL none [] rm (.ref b :: as).toArray h n0 (Ret0 Q)) (hs : Ls.size = maxL) (hW : (rest.map fun v => v.category).sum = W) (hf : rm.frames + 1 ≤ R.frames) (hl : W + (mL + 11) + rm.locals ≤ R.locals) (hk : k + rm.cells = k') (hk' : k' ≤ R.cells) (hn : n + rm.slots = n') (hn' : n' ≤ R.slots)
    (r : ∀ h', Q h' → Run p l e R s m args below meth c n0 P h' k' n' pc' Ls rest) : Run p l e R s m args below meth c n0 P h k n pc Ls st := by
  subst hp hk hn hst
  intro T locs X eT N
  obtain ⟨v, _, ⟨T', L', k', n'⟩, -, X', ⟨Lc, ⟨⟨rfl, hQ⟩, N'⟩, l', y', z'⟩, q⟩ := X.specialBack C.1 (y := y) hy1 C.2.2.2.2.1 (mvT C.2.1 wl) (mvT C.2.1 wi) (mvT C.2.1 wc) hy (M.back (W := W) C.2.1 wc wz hf hl) (g := mkF m pc Ls (as.reverse ++ .ref b :: rest)) rfl (by rw [C.2.2.2.1]; exact hs) (Steps.refl _) (a := b) (argsL := as) (rest := rest) (lenOf hdes hlen) rfl (by show 2 * 0 + _ ≤ _; omega) (hb C.2.2.1 hd) (fun _ _ => ⟨rfl, eT, hk', hn'⟩)
  dsimp only [Pt.U, Pt.locs, Pt.cells, Pt.slots] at X' l' y' z' q hQ
  subst l' y' z'
  obtain ⟨s₂, o, z, r⟩ := r _ hQ T' _ X' rfl (Fr.app N N')
  exact ⟨s₂, o, q.trans z, r⟩
theorem s_callSI (C : Ctx p l e R s m args below meth c Z own cd maxL ret nm) {y : MethodName} {bytes : ByteArray} {mL i W k' n' : Nat} {rt : Option FieldType} {rm : Room} {Q : Int32 → Heap → Prop} (hd : decode cd pc = .ok (.invokestatic i, 3)) (hp : pc + 3 = pc') (wl : (Jvm.Cond.methodLink own i y).before a0 Z = true) (ws : (Jvm.Cond.static y).before a0 Z = true) (wz : (Jvm.Cond.initialized y.cls).before a0 Z = true) (wc : (Jvm.Cond.code y bytes mL rt).before a0 Z = true) (hy : y.cls ≠ "java/lang/invoke/MethodHandle" ∧ y.cls ≠ "java/lang/invoke/VarHandle") (as rest : List Value) {ps : List FieldType} {rr : Option FieldType} (hdes : parseMethodDescriptor y.desc = some ⟨ps, rr⟩) (hlen : as.length = ps.length) (hst : st = as.reverse ++ rest)
    (M : Met l Z y bytes mL rt [] rm as.toArray h n0 (RetI Q)) (hs : Ls.size = maxL) (hW : (rest.map fun v => v.category).sum = W) (hf : rm.frames + 1 ≤ R.frames) (hl : W + (mL + 11) + rm.locals ≤ R.locals) (hk : k + rm.cells = k') (hk' : k' ≤ R.cells) (hn : n + rm.slots = n') (hn' : n' ≤ R.slots)
    (r : ∀ (z : Int32) h', Q z h' → Run p l e R s m args below meth c n0 P h' k' n' pc' Ls ((.int z) :: rest)) : Run p l e R s m args below meth c n0 P h k n pc Ls st :=
  s_callS C hd hp wl ws wz wc hy as rest hdes hlen hst M hs hW hf hl hk hk' hn hn' (fun v h' q => by obtain ⟨z, rfl, q⟩ := q; exact r z h' q)
theorem s_callSL (C : Ctx p l e R s m args below meth c Z own cd maxL ret nm) {y : MethodName} {bytes : ByteArray} {mL i W k' n' : Nat} {rt : Option FieldType} {rm : Room} {Q : Int64 → Heap → Prop} (hd : decode cd pc = .ok (.invokestatic i, 3)) (hp : pc + 3 = pc') (wl : (Jvm.Cond.methodLink own i y).before a0 Z = true) (ws : (Jvm.Cond.static y).before a0 Z = true) (wz : (Jvm.Cond.initialized y.cls).before a0 Z = true) (wc : (Jvm.Cond.code y bytes mL rt).before a0 Z = true) (hy : y.cls ≠ "java/lang/invoke/MethodHandle" ∧ y.cls ≠ "java/lang/invoke/VarHandle") (as rest : List Value) {ps : List FieldType} {rr : Option FieldType} (hdes : parseMethodDescriptor y.desc = some ⟨ps, rr⟩) (hlen : as.length = ps.length) (hst : st = as.reverse ++ rest)
    (M : Met l Z y bytes mL rt [] rm as.toArray h n0 (RetL Q)) (hs : Ls.size = maxL) (hW : (rest.map fun v => v.category).sum = W) (hf : rm.frames + 1 ≤ R.frames) (hl : W + (mL + 11) + rm.locals ≤ R.locals) (hk : k + rm.cells = k') (hk' : k' ≤ R.cells) (hn : n + rm.slots = n') (hn' : n' ≤ R.slots)
    (r : ∀ (z : Int64) h', Q z h' → Run p l e R s m args below meth c n0 P h' k' n' pc' Ls ((.long z) :: rest)) : Run p l e R s m args below meth c n0 P h k n pc Ls st :=
  s_callS C hd hp wl ws wz wc hy as rest hdes hlen hst M hs hW hf hl hk hk' hn hn' (fun v h' q => by obtain ⟨z, rfl, q⟩ := q; exact r z h' q)
theorem s_callSA (C : Ctx p l e R s m args below meth c Z own cd maxL ret nm) {y : MethodName} {bytes : ByteArray} {mL i W k' n' : Nat} {rt : Option FieldType} {rm : Room} {Q : Value → Heap → Prop} (hd : decode cd pc = .ok (.invokestatic i, 3)) (hp : pc + 3 = pc') (wl : (Jvm.Cond.methodLink own i y).before a0 Z = true) (ws : (Jvm.Cond.static y).before a0 Z = true) (wz : (Jvm.Cond.initialized y.cls).before a0 Z = true) (wc : (Jvm.Cond.code y bytes mL rt).before a0 Z = true) (hy : y.cls ≠ "java/lang/invoke/MethodHandle" ∧ y.cls ≠ "java/lang/invoke/VarHandle") (as rest : List Value) {ps : List FieldType} {rr : Option FieldType} (hdes : parseMethodDescriptor y.desc = some ⟨ps, rr⟩) (hlen : as.length = ps.length) (hst : st = as.reverse ++ rest)
    (M : Met l Z y bytes mL rt [] rm as.toArray h n0 (RetV Q)) (hs : Ls.size = maxL) (hW : (rest.map fun v => v.category).sum = W) (hf : rm.frames + 1 ≤ R.frames) (hl : W + (mL + 11) + rm.locals ≤ R.locals) (hk : k + rm.cells = k') (hk' : k' ≤ R.cells) (hn : n + rm.slots = n') (hn' : n' ≤ R.slots)
    (r : ∀ (z : Value) h', Q z h' → Run p l e R s m args below meth c n0 P h' k' n' pc' Ls (z :: rest)) : Run p l e R s m args below meth c n0 P h k n pc Ls st :=
  s_callS C hd hp wl ws wz wc hy as rest hdes hlen hst M hs hW hf hl hk hk' hn hn' (fun v h' q => by obtain ⟨z, rfl, q⟩ := q; exact r z h' q)
theorem s_callS0 (C : Ctx p l e R s m args below meth c Z own cd maxL ret nm) {y : MethodName} {bytes : ByteArray} {mL i W k' n' : Nat} {rt : Option FieldType} {rm : Room} {Q : Heap → Prop} (hd : decode cd pc = .ok (.invokestatic i, 3)) (hp : pc + 3 = pc') (wl : (Jvm.Cond.methodLink own i y).before a0 Z = true) (ws : (Jvm.Cond.static y).before a0 Z = true) (wz : (Jvm.Cond.initialized y.cls).before a0 Z = true) (wc : (Jvm.Cond.code y bytes mL rt).before a0 Z = true) (hy : y.cls ≠ "java/lang/invoke/MethodHandle" ∧ y.cls ≠ "java/lang/invoke/VarHandle") (as rest : List Value) {ps : List FieldType} {rr : Option FieldType} (hdes : parseMethodDescriptor y.desc = some ⟨ps, rr⟩) (hlen : as.length = ps.length) (hst : st = as.reverse ++ rest)
    (M : Met l Z y bytes mL rt [] rm as.toArray h n0 (Ret0 Q)) (hs : Ls.size = maxL) (hW : (rest.map fun v => v.category).sum = W) (hf : rm.frames + 1 ≤ R.frames) (hl : W + (mL + 11) + rm.locals ≤ R.locals) (hk : k + rm.cells = k') (hk' : k' ≤ R.cells) (hn : n + rm.slots = n') (hn' : n' ≤ R.slots)
    (r : ∀ h', Q h' → Run p l e R s m args below meth c n0 P h' k' n' pc' Ls rest) : Run p l e R s m args below meth c n0 P h k n pc Ls st :=
  s_callS C hd hp wl ws wz wc hy as rest hdes hlen hst M hs hW hf hl hk hk' hn hn' (fun v h' q => by obtain ⟨rfl, q⟩ := q; exact r h' q)
theorem s_callVI (C : Ctx p l e R s m args below meth c Z own cd maxL ret nm) {y z : MethodName} {K : String} {bytes : ByteArray} {mL i W k' n' : Nat} {rt : Option FieldType} {rm : Room} {b : Addr} {Q : Int32 → Heap → Prop} (hd : decode cd pc = .ok (.invokevirtual i, 3)) (hp : pc + 3 = pc') (wl : (Jvm.Cond.methodLink own i y).before a0 Z = true) (wd : (Jvm.Cond.declares y).before a0 Z = true) (hnf : NotFace s y) (wsel : (Jvm.Cond.selects K y z).before a0 Z = true) (wi : (Jvm.Cond.instanceMethod z).before a0 Z = true) (wz : (Jvm.Cond.initialized z.cls).before a0 Z = true) (wc : (Jvm.Cond.code z bytes mL rt).before a0 Z = true) (hy : y.cls ≠ "java/lang/invoke/MethodHandle" ∧ y.cls ≠ "java/lang/invoke/VarHandle") (E : Exa Z h b K) (as rest : List Value) {ps : List FieldType} {rr : Option FieldType} (hdes : parseMethodDescriptor y.desc = some ⟨ps, rr⟩) (hlen : as.length = ps.length) (hst : st = as.reverse ++ .ref b :: rest)
    (M : Met l Z z bytes mL rt [] rm (.ref b :: as).toArray h n0 (RetI Q)) (hs : Ls.size = maxL) (hW : (rest.map fun v => v.category).sum = W) (hf : rm.frames + 1 ≤ R.frames) (hl : W + (mL + 11) + rm.locals ≤ R.locals) (hk : k + rm.cells = k') (hk' : k' ≤ R.cells) (hn : n + rm.slots = n') (hn' : n' ≤ R.slots)
    (r : ∀ (z : Int32) h', Q z h' → Run p l e R s m args below meth c n0 P h' k' n' pc' Ls ((.int z) :: rest)) : Run p l e R s m args below meth c n0 P h k n pc Ls st :=
  s_callV C hd hp wl wd hnf wsel wi wz wc hy E as rest hdes hlen hst M hs hW hf hl hk hk' hn hn' (fun v h' q => by obtain ⟨z, rfl, q⟩ := q; exact r z h' q)
theorem s_callVL (C : Ctx p l e R s m args below meth c Z own cd maxL ret nm) {y z : MethodName} {K : String} {bytes : ByteArray} {mL i W k' n' : Nat} {rt : Option FieldType} {rm : Room} {b : Addr} {Q : Int64 → Heap → Prop} (hd : decode cd pc = .ok (.invokevirtual i, 3)) (hp : pc + 3 = pc') (wl : (Jvm.Cond.methodLink own i y).before a0 Z = true) (wd : (Jvm.Cond.declares y).before a0 Z = true) (hnf : NotFace s y) (wsel : (Jvm.Cond.selects K y z).before a0 Z = true) (wi : (Jvm.Cond.instanceMethod z).before a0 Z = true) (wz : (Jvm.Cond.initialized z.cls).before a0 Z = true) (wc : (Jvm.Cond.code z bytes mL rt).before a0 Z = true) (hy : y.cls ≠ "java/lang/invoke/MethodHandle" ∧ y.cls ≠ "java/lang/invoke/VarHandle") (E : Exa Z h b K) (as rest : List Value) {ps : List FieldType} {rr : Option FieldType} (hdes : parseMethodDescriptor y.desc = some ⟨ps, rr⟩) (hlen : as.length = ps.length) (hst : st = as.reverse ++ .ref b :: rest)
    (M : Met l Z z bytes mL rt [] rm (.ref b :: as).toArray h n0 (RetL Q)) (hs : Ls.size = maxL) (hW : (rest.map fun v => v.category).sum = W) (hf : rm.frames + 1 ≤ R.frames) (hl : W + (mL + 11) + rm.locals ≤ R.locals) (hk : k + rm.cells = k') (hk' : k' ≤ R.cells) (hn : n + rm.slots = n') (hn' : n' ≤ R.slots)
    (r : ∀ (z : Int64) h', Q z h' → Run p l e R s m args below meth c n0 P h' k' n' pc' Ls ((.long z) :: rest)) : Run p l e R s m args below meth c n0 P h k n pc Ls st :=
  s_callV C hd hp wl wd hnf wsel wi wz wc hy E as rest hdes hlen hst M hs hW hf hl hk hk' hn hn' (fun v h' q => by obtain ⟨z, rfl, q⟩ := q; exact r z h' q)
theorem s_callVA (C : Ctx p l e R s m args below meth c Z own cd maxL ret nm) {y z : MethodName} {K : String} {bytes : ByteArray} {mL i W k' n' : Nat} {rt : Option FieldType} {rm : Room} {b : Addr} {Q : Value → Heap → Prop} (hd : decode cd pc = .ok (.invokevirtual i, 3)) (hp : pc + 3 = pc') (wl : (Jvm.Cond.methodLink own i y).before a0 Z = true) (wd : (Jvm.Cond.declares y).before a0 Z = true) (hnf : NotFace s y) (wsel : (Jvm.Cond.selects K y z).before a0 Z = true) (wi : (Jvm.Cond.instanceMethod z).before a0 Z = true) (wz : (Jvm.Cond.initialized z.cls).before a0 Z = true) (wc : (Jvm.Cond.code z bytes mL rt).before a0 Z = true) (hy : y.cls ≠ "java/lang/invoke/MethodHandle" ∧ y.cls ≠ "java/lang/invoke/VarHandle") (E : Exa Z h b K) (as rest : List Value) {ps : List FieldType} {rr : Option FieldType} (hdes : parseMethodDescriptor y.desc = some ⟨ps, rr⟩) (hlen : as.length = ps.length) (hst : st = as.reverse ++ .ref b :: rest)
    (M : Met l Z z bytes mL rt [] rm (.ref b :: as).toArray h n0 (RetV Q)) (hs : Ls.size = maxL) (hW : (rest.map fun v => v.category).sum = W) (hf : rm.frames + 1 ≤ R.frames) (hl : W + (mL + 11) + rm.locals ≤ R.locals) (hk : k + rm.cells = k') (hk' : k' ≤ R.cells) (hn : n + rm.slots = n') (hn' : n' ≤ R.slots)
    (r : ∀ (z : Value) h', Q z h' → Run p l e R s m args below meth c n0 P h' k' n' pc' Ls (z :: rest)) : Run p l e R s m args below meth c n0 P h k n pc Ls st :=
  s_callV C hd hp wl wd hnf wsel wi wz wc hy E as rest hdes hlen hst M hs hW hf hl hk hk' hn hn' (fun v h' q => by obtain ⟨z, rfl, q⟩ := q; exact r z h' q)
theorem s_callV0 (C : Ctx p l e R s m args below meth c Z own cd maxL ret nm) {y z : MethodName} {K : String} {bytes : ByteArray} {mL i W k' n' : Nat} {rt : Option FieldType} {rm : Room} {b : Addr} {Q : Heap → Prop} (hd : decode cd pc = .ok (.invokevirtual i, 3)) (hp : pc + 3 = pc') (wl : (Jvm.Cond.methodLink own i y).before a0 Z = true) (wd : (Jvm.Cond.declares y).before a0 Z = true) (hnf : NotFace s y) (wsel : (Jvm.Cond.selects K y z).before a0 Z = true) (wi : (Jvm.Cond.instanceMethod z).before a0 Z = true) (wz : (Jvm.Cond.initialized z.cls).before a0 Z = true) (wc : (Jvm.Cond.code z bytes mL rt).before a0 Z = true) (hy : y.cls ≠ "java/lang/invoke/MethodHandle" ∧ y.cls ≠ "java/lang/invoke/VarHandle") (E : Exa Z h b K) (as rest : List Value) {ps : List FieldType} {rr : Option FieldType} (hdes : parseMethodDescriptor y.desc = some ⟨ps, rr⟩) (hlen : as.length = ps.length) (hst : st = as.reverse ++ .ref b :: rest)
    (M : Met l Z z bytes mL rt [] rm (.ref b :: as).toArray h n0 (Ret0 Q)) (hs : Ls.size = maxL) (hW : (rest.map fun v => v.category).sum = W) (hf : rm.frames + 1 ≤ R.frames) (hl : W + (mL + 11) + rm.locals ≤ R.locals) (hk : k + rm.cells = k') (hk' : k' ≤ R.cells) (hn : n + rm.slots = n') (hn' : n' ≤ R.slots)
    (r : ∀ h', Q h' → Run p l e R s m args below meth c n0 P h' k' n' pc' Ls rest) : Run p l e R s m args below meth c n0 P h k n pc Ls st :=
  s_callV C hd hp wl wd hnf wsel wi wz wc hy E as rest hdes hlen hst M hs hW hf hl hk hk' hn hn' (fun v h' q => by obtain ⟨rfl, q⟩ := q; exact r h' q)
/-! arrays: exactly these values -/
def Av (Z : State) (h : Heap) (a : Addr) (ty : FieldType) (vs : List Value) : Prop := ∃ cl : Cell, Arr Z h a cl ty ∧ cl.slots = vs.toArray ∧ vs.length < 2 ^ 31 ∧ ∀ v ∈ vs, fits ty v = true
theorem Av.lt {h : Heap} {a : Addr} {ty : FieldType} {vs : List Value} (V : Av Z h a ty vs) : a < h.size := by obtain ⟨cl, A, -⟩ := V; exact A.lt
theorem Av.ext {h h' : Heap} {a : Addr} {ty : FieldType} {vs : List Value} (V : Av Z h a ty vs) (E : Ext h h') : Av Z h' a ty vs := by obtain ⟨cl, A, r⟩ := V; exact ⟨cl, A.ext E, r⟩
theorem Av.other {h h' : Heap} {a b : Addr} {ty : FieldType} {vs : List Value} {sl : Nat} {v : Value} (V : Av Z h b ty vs) (W : Wr h h' a sl v) (q : b ≠ a) : Av Z h' b ty vs := by obtain ⟨cl, A, r⟩ := V; exact ⟨cl, A.other W q, r⟩
theorem Av.keep {h h' : Heap} {a : Addr} {ty : FieldType} {vs : List Value} {ws : List Addr} (V : Av Z h a ty vs) (K : Keep h h' ws) (q : a ∉ ws) : Av Z h' a ty vs := by obtain ⟨cl, A, r⟩ := V; exact ⟨cl, ⟨K.2.1 a cl A.1 q, A.2⟩, r⟩
theorem Av.set {h h' : Heap} {a : Addr} {ty : FieldType} {vs : List Value} {i : Nat} {v : Value} (V : Av Z h a ty vs) (W : Wr h h' a i v) (hf : fits ty v = true) : Av Z h' a ty (vs.set i v) := by
  obtain ⟨cl, A, hs, hl, hq⟩ := V
  exact ⟨_, A.same W, by simp [Cell.setSlot, hs], by simpa using hl, fun u hu => (List.mem_or_eq_of_mem_set hu).elim (hq u) (fun e => e ▸ hf)⟩
theorem fits_default (ty : FieldType) : fits ty (defaultValue ty) = true := by cases ty <;> first | rfl | decide
theorem Av.new {h : Heap} {a : Addr} {cA : ClassId} {ty : FieldType} {z : Int32} (A : Arr Z h a (newA cA ty z) ty) : Av Z h a ty (List.replicate z.toNatClampNeg (defaultValue ty)) := ⟨_, A, by simp [newA], by rw [List.length_replicate]; have := z.toInt_lt; simp only [Int32.toNatClampNeg]; omega, fun v hv => (List.eq_of_mem_replicate hv) ▸ fits_default ty⟩
theorem getD_toArray (vs : List Value) (i : Nat) (dv : Value) (hi : i < vs.length) : vs.toArray[i]? = some (vs.getD i dv) := by
  simp [List.getD_eq_getElem?_getD, List.getElem?_eq_getElem hi]
theorem len32 {n : Nat} (h : n < 2 ^ 31) : n.toInt32.toNatClampNeg = n ∧ ¬ n.toInt32 < 0 := by
  have e : n.toInt32.toInt = n := len_toInt (by omega)
  constructor
  · simp [Int32.toNatClampNeg, e]
  · rw [Int32.lt_iff_toInt_lt, e]; simp only [Int32.reduceToInt]; omega
theorem Av.arv {h : Heap} {a : Addr} {ty : FieldType} {vs : List Value} (dv : Value) (V : Av Z h a ty vs) : ∃ k, Arv Z h a k ty vs.length.toInt32 vs dv := by
  obtain ⟨cl, A, hs, hl, hq⟩ := V
  have e := len32 hl
  refine ⟨cl.cls, cl, A, rfl, by rw [e.1, hs]; simp, e.2, fun i hi => ?_, fun i hi => ?_⟩
  · rw [hs] at hi ⊢; exact getD_toArray vs i dv (by simpa using hi)
  · rw [hs] at hi
    have hi' : i < vs.length := by simpa using hi
    rw [List.getD_eq_getElem?_getD, List.getElem?_eq_getElem hi']
    exact hq _ (List.getElem_mem hi')
theorem Av.of_arv {h : Heap} {a : Addr} {k : ClassId} {ty : FieldType} {z : Int32} {vs : List Value} {dv : Value} (V : Arv Z h a k ty z vs dv) (hl : vs.length = z.toNatClampNeg) : Av Z h a ty vs := by
  obtain ⟨cl, A, -, hs, hz, hh, hf⟩ := V
  have e : cl.slots.size = vs.length := by rw [hs, hl]
  refine ⟨cl, A, ?_, by have := z.toInt_lt; rw [hl]; simp only [Int32.toNatClampNeg]; omega, fun v hv => ?_⟩
  · apply Array.ext_getElem?
    intro i
    by_cases hi : i < vs.length
    · rw [hh i (by omega)]; exact (getD_toArray vs i dv hi).symm
    · rw [Array.getElem?_eq_none (by omega), Array.getElem?_eq_none (by simpa using hi)]
  · obtain ⟨i, hi, rfl⟩ := List.getElem_of_mem hv
    have q := hf i (by omega)
    rwa [List.getD_eq_getElem?_getD, List.getElem?_eq_getElem hi] at q
theorem idx_n {j : Int32} {i : Nat} (hi : j.toInt = (i : Int)) : j.toNatClampNeg = i ∧ ¬ j < 0 := by
  constructor
  · simp [Int32.toNatClampNeg, hi]
  · rw [Int32.lt_iff_toInt_lt, hi]; simp only [Int32.reduceToInt]; omega
theorem s_newarr (C : Ctx p l e R s m args below meth c Z own cd maxL ret nm) {aty : ArrayType} {z : Int32} {k' n' cap : Nat} (hd : decode cd pc = .ok (.newarray aty, 2)) (hp : pc + 2 = pc') (w : (Jvm.Cond.arrayClass (newarray.typeOf aty)).before a0 Z = true) (hz : ¬ z < 0) (hcap : z.toNatClampNeg ≤ cap) (hcb : cap * 8 ≤ 536870912) (hk : k + 1 = k') (hk' : k' ≤ R.cells) (hn : n + cap = n') (hn' : n' ≤ R.slots) (vs : List Value) (hvs : List.replicate z.toNatClampNeg (defaultValue (newarray.typeOf aty)) = vs)
    (r : ∀ h' a, Ext h h' → a = h.size → Av Z h' a (newarray.typeOf aty) vs → Run p l e R s m args below meth c n0 P h' k' n' pc' Ls (.ref a :: st)) : Run p l e R s m args below meth c n0 P h k n pc Ls (.int z :: st) := by
  subst hp hk hn hvs
  intro T locs X eT N
  obtain ⟨T', h', cA, X', e', E, A, q⟩ := newP X C.1 C.2.1 w eT (g := mkF m pc Ls (.int z :: st)) rfl (hb C.2.2.1 hd) rfl hz hcap hcb hk' hn'
  obtain ⟨s₂, o, z, r⟩ := r h' _ E rfl (Av.new A) T' _ X' e' N
  exact ⟨s₂, o, q _ z, r⟩
theorem s_newarrE (C : Ctx p l e R s m args below meth c Z own cd maxL ret nm) {aty : ArrayType} {z : Int32} {k' n' cap : Nat} (hd : decode cd pc = .ok (.newarray aty, 2)) (hp : pc + 2 = pc') (w : (Jvm.Cond.arrayClass (newarray.typeOf aty)).before a0 Z = true) (hz : ¬ z < 0) (hcap : z.toNatClampNeg ≤ cap) (hcb : cap * 8 ≤ 536870912) (hk : k + 1 = k') (hk' : k' ≤ R.cells) (hn : n + cap = n') (hn' : n' ≤ R.slots) (vs : List Value) (hvs : List.replicate z.toNatClampNeg (defaultValue (newarray.typeOf aty)) = vs) (ad : String) (had : "[" ++ (newarray.typeOf aty).toString = ad)
    (r : ∀ h' a, Ext h h' → a = h.size → Av Z h' a (newarray.typeOf aty) vs → Exa Z h' a ad → Run p l e R s m args below meth c n0 P h' k' n' pc' Ls (.ref a :: st)) : Run p l e R s m args below meth c n0 P h k n pc Ls (.int z :: st) := by
  subst hp hk hn hvs
  intro T locs X eT N
  obtain ⟨T', h', cA, X', e', E, A, Ex, q⟩ := newPE X C.1 C.2.1 w eT (g := mkF m pc Ls (.int z :: st)) rfl (hb C.2.2.1 hd) rfl hz hcap hcb hk' hn' had
  obtain ⟨s₂, o, z, r⟩ := r h' _ E rfl (Av.new A) Ex T' _ X' e' N
  exact ⟨s₂, o, q _ z, r⟩
theorem s_newref (C : Ctx p l e R s m args below meth c Z own cd maxL ret nm) {K : String} {i : Nat} {z : Int32} {k' n' cap : Nat} (hd : decode cd pc = .ok (.anewarray i, 3)) (hp : pc + 3 = pc') (w1 : (Jvm.Cond.classLink own i K).before a0 Z = true) (w2 : (Jvm.Cond.arrayOver (.object K)).before a0 Z = true) (hz : ¬ z < 0) (hcap : z.toNatClampNeg ≤ cap) (hcb : cap * 8 ≤ 536870912) (hk : k + 1 = k') (hk' : k' ≤ R.cells) (hn : n + cap = n') (hn' : n' ≤ R.slots) (vs : List Value) (hvs : List.replicate z.toNatClampNeg Value.null = vs)
    (r : ∀ h' a cA, Ext h h' → a = h.size → Av Z h' a (.object K) vs → Arr Z h' a (newA cA (.object K) z) (.object K) → Ovr Z cA K → Run p l e R s m args below meth c n0 P h' k' n' pc' Ls (.ref a :: st)) : Run p l e R s m args below meth c n0 P h k n pc Ls (.int z :: st) := by
  subst hp hk hn hvs
  intro T locs X eT N
  obtain ⟨T', h', cA, X', e', E, A, O, q⟩ := newR X C.1 C.2.1 C.2.2.2.2.1 w1 w2 eT (g := mkF m pc Ls (.int z :: st)) rfl (hb C.2.2.1 hd) rfl hz hcap hcb hk' hn'
  obtain ⟨s₂, o, z, r⟩ := r h' _ cA E rfl (Av.new A) A O T' _ X' e' N
  exact ⟨s₂, o, q _ z, r⟩
theorem s_foldI (C : Ctx p l e R s m args below meth c Z own cd maxL ret nm) {x y : Int32} (hx : x = y) (r : Run p l e R s m args below meth c n0 P h k n pc Ls (.int y :: st)) : Run p l e R s m args below meth c n0 P h k n pc Ls (.int x :: st) := hx ▸ r
theorem s_foldL (C : Ctx p l e R s m args below meth c Z own cd maxL ret nm) {x y : Int64} (hx : x = y) (r : Run p l e R s m args below meth c n0 P h k n pc Ls (.long y :: st)) : Run p l e R s m args below meth c n0 P h k n pc Ls (.long x :: st) := hx ▸ r
theorem s_arraycopy (C : Ctx p l e R s m args below meth c Z own cd maxL ret nm) {i W : Nat} {ty : FieldType} {a b : Addr} {vs vd : List Value} {sp dp nn : Int32} (hd : decode cd pc = .ok (.invokestatic i, 3)) (hp : pc + 3 = pc') (w1 : (Jvm.Cond.methodLink own i Jvm.Stand.acN).before a0 Z = true) (w2 : (Jvm.Cond.native Jvm.Stand.acN).before a0 Z = true) (w3 : (Jvm.Cond.static Jvm.Stand.acN).before a0 Z = true) (w4 : (Jvm.Cond.initialized "java/lang/System").before a0 Z = true) (A : Av Z h a ty vs) (B : Av Z h b ty vd) (hty : refKind ty = false) (si di ni : Nat) (h1 : sp.toInt = (si : Int)) (h2 : dp.toInt = (di : Int)) (h3 : nn.toInt = (ni : Int)) (h4 : si + ni ≤ vs.length) (h5 : di + ni ≤ vd.length) (ge : n0 ≤ b) (hs : Ls.size = maxL) (hf : 1 ≤ R.frames) (hW : (st.map fun v => v.category).sum = W) (hlo : W + (nativeFrameWords "java/lang/System" "arraycopy" 5 + 11) ≤ R.locals) (vd' : List Value) (hvd : vd.take di ++ (vs.drop si).take ni ++ vd.drop (di + ni) = vd')
    (r : ∀ h', Keep h h' [b] → Av Z h' b ty vd' → Run p l e R s m args below meth c n0 P h' k n pc' Ls st) : Run p l e R s m args below meth c n0 P h k n pc Ls (.int nn :: .int dp :: .ref b :: .int sp :: .ref a :: st) := by
  subst hp hvd
  obtain ⟨e1, g1⟩ := idx_n h1
  obtain ⟨e2, g2⟩ := idx_n h2
  obtain ⟨e3, g3⟩ := idx_n h3
  have la := A
  have lb := B
  obtain ⟨_, -, -, la, -⟩ := la
  obtain ⟨_, -, -, lb, -⟩ := lb
  obtain ⟨ka, A'⟩ := A.arv Value.null
  obtain ⟨kb, B'⟩ := B.arv Value.null
  intro T locs X eT N
  have hus : (vs.drop si).take ni = (List.range nn.toNatClampNeg).map fun i => vs.getD (sp.toNatClampNeg + i) Value.null := by
    rw [e1, e3]
    apply List.ext_getElem
    · simp; omega
    · intro j q1 q2
      have q3 : j < ni := by simpa using q2
      simp [List.getD_eq_getElem?_getD, List.getElem?_eq_getElem (show si + j < vs.length by omega)]
  obtain ⟨T', h', L, X', e', N', K, V', q⟩ := cpA X C.1 C.2.1 C.2.2.2.2.1 w1 w2 w3 w4 eT A' B' (Or.inl ⟨rfl, hty⟩) g1 g2 g3 (by rw [e1, e3, (len32 la).1]; exact h4) (by rw [e2, e3, (len32 lb).1]; exact h5) hus (by rw [e2, e3]; exact h5) N ge (g := mkF m pc Ls (.int nn :: .int dp :: .ref b :: .int sp :: .ref a :: st)) rfl (by rw [C.2.2.2.1]; exact hs) rfl (hb C.2.2.1 hd) hf (W := W) (by show 2 * 0 + _ ≤ _; omega) hlo
  rw [e2, e3] at V'
  obtain ⟨s₂, o, z, r⟩ := r h' K (Av.of_arv V' (by rw [(len32 lb).1]; simp; omega)) T' _ X' e' N'
  exact ⟨s₂, o, q _ z, r⟩
theorem s_clone (C : Ctx p l e R s m args below meth c Z own cd maxL ret nm) {i W k' n' cap : Nat} {ty : FieldType} {ad : String} {a : Addr} {vs : List Value} (hd : decode cd pc = .ok (.invokevirtual i, 3)) (hp : pc + 3 = pc') (w1 : (Jvm.Cond.methodLink own i ⟨ad, "clone", "()Ljava/lang/Object;"⟩).before a0 Z = true) (w2 : (Jvm.Cond.sameMethod ad "java/lang/Object" "clone" "()Ljava/lang/Object;").before a0 Z = true) (w3 : (Jvm.Cond.native ⟨"java/lang/Object", "clone", "()Ljava/lang/Object;"⟩).before a0 Z = true) (w4 : (Jvm.Cond.instanceMethod ⟨"java/lang/Object", "clone", "()Ljava/lang/Object;"⟩).before a0 Z = true) (w5 : (Jvm.Cond.selects ad ⟨ad, "clone", "()Ljava/lang/Object;"⟩ ⟨"java/lang/Object", "clone", "()Ljava/lang/Object;"⟩).before a0 Z = true) (w6 : (Jvm.Cond.castable ad "java/lang/Cloneable").before a0 Z = true) (V : Av Z h a ty vs) (E : Exa Z h a ad) (hs : Ls.size = maxL) (hf : 1 ≤ R.frames) (hW : (st.map fun v => v.category).sum = W) (hl : W + 14 ≤ R.locals) (hcap : vs.length ≤ cap) (hk : k + 1 = k') (hk' : k' ≤ R.cells) (hn : n + cap = n') (hn' : n' ≤ R.slots)
    (r : ∀ h' b, Ext h h' → b = h.size → Av Z h' b ty vs → Exa Z h' b ad → Run p l e R s m args below meth c n0 P h' k' n' pc' Ls (.ref b :: st)) : Run p l e R s m args below meth c n0 P h k n pc Ls (.ref a :: st) := by
  subst hp hk hn
  have la := V
  obtain ⟨_, -, -, la, -⟩ := la
  obtain ⟨ka, A'⟩ := V.arv Value.null
  intro T locs X eT N
  obtain ⟨T', h', X', e', Ex, V', E', q⟩ := cloneH X C.1 C.2.1 C.2.2.2.2.1 w1 w2 w3 w4 w5 w6 eT A'.arh E (g := mkF m pc Ls (.ref a :: st)) rfl (by rw [C.2.2.2.1]; exact hs) rfl (hb C.2.2.1 hd) hf (W := W) (cap := cap) (by show 2 * 0 + _ ≤ _; omega) hl (by rw [(len32 la).1]; exact hcap) hk' hn'
  obtain ⟨s₂, o, z, r⟩ := r h' _ Ex rfl (Av.of_arv (dv := Value.null) V' (len32 la).1.symm) E' T' _ X' e' N
  exact ⟨s₂, o, q _ z, r⟩
theorem s_length (C : Ctx p l e R s m args below meth c Z own cd maxL ret nm) {ty : FieldType} {a : Addr} {vs : List Value} (hd : decode cd pc = .ok (.arraylength, 1)) (hp : pc + 1 = pc') (V : Av Z h a ty vs) (z : Int32) (hz : vs.length.toInt32 = z) (r : Run p l e R s m args below meth c n0 P h k n pc' Ls (.int z :: st)) : Run p l e R s m args below meth c n0 P h k n pc Ls (.ref a :: st) := by
  subst hp hz
  obtain ⟨cl, A, hs, hl, -⟩ := V
  have e1 : cl.slots.size = vs.length := by simp [hs]
  refine Run.pure (fun T locs X eT t z => X.arraylength C.1 (by rw [eT]; exact A.1) (State.isArrayOf_alike C.2.1.alike A.2.1) (g := mkF m pc Ls (.ref a :: st)) rfl rfl (hb C.2.2.1 hd) _ (by rw [e1]; exact z)) r
theorem s_iaload (C : Ctx p l e R s m args below meth c Z own cd maxL ret nm) {a : Addr} {vs : List Value} {j : Int32} {x : Int32} (hd : decode cd pc = .ok (.iaload, 1)) (hp : pc + 1 = pc') (V : Av Z h a .int vs) (i : Nat) (hi : j.toInt = (i : Int)) (hv : vs[i]? = some (.int x)) (r : Run p l e R s m args below meth c n0 P h k n pc' Ls ((.int x) :: st)) : Run p l e R s m args below meth c n0 P h k n pc Ls (.int j :: .ref a :: st) := by
  subst hp
  obtain ⟨cl, A, hs, hl, -⟩ := V
  obtain ⟨e1, e2⟩ := idx_n hi
  have e3 : i < vs.length := (List.getElem?_eq_some_iff.mp hv).1
  refine Run.pure (fun T locs X eT t z => X.iaload C.1 (by rw [eT]; exact A.1) (State.isArrayOf_alike C.2.1.alike A.2.1) A.2.2 (by rw [e1, hs]; rintro (q | q); exact e2 q; simp at q; omega) (by rw [e1, hs]; simpa using hv) (g := mkF m pc Ls (.int j :: .ref a :: st)) rfl rfl (hb C.2.2.1 hd) _ z) r
theorem s_laload (C : Ctx p l e R s m args below meth c Z own cd maxL ret nm) {a : Addr} {vs : List Value} {j : Int32} {x : Int64} (hd : decode cd pc = .ok (.laload, 1)) (hp : pc + 1 = pc') (V : Av Z h a .long vs) (i : Nat) (hi : j.toInt = (i : Int)) (hv : vs[i]? = some (.long x)) (r : Run p l e R s m args below meth c n0 P h k n pc' Ls ((.long x) :: st)) : Run p l e R s m args below meth c n0 P h k n pc Ls (.int j :: .ref a :: st) := by
  subst hp
  obtain ⟨cl, A, hs, hl, -⟩ := V
  obtain ⟨e1, e2⟩ := idx_n hi
  have e3 : i < vs.length := (List.getElem?_eq_some_iff.mp hv).1
  refine Run.pure (fun T locs X eT t z => X.laload C.1 (by rw [eT]; exact A.1) (State.isArrayOf_alike C.2.1.alike A.2.1) A.2.2 (by rw [e1, hs]; rintro (q | q); exact e2 q; simp at q; omega) (by rw [e1, hs]; simpa using hv) (g := mkF m pc Ls (.int j :: .ref a :: st)) rfl rfl (hb C.2.2.1 hd) _ z) r
theorem s_baload (C : Ctx p l e R s m args below meth c Z own cd maxL ret nm) {a : Addr} {vs : List Value} {j : Int32} {x : Int32} (hd : decode cd pc = .ok (.baload, 1)) (hp : pc + 1 = pc') (V : Av Z h a .byte vs) (i : Nat) (hi : j.toInt = (i : Int)) (hv : vs[i]? = some (.int x)) (r : Run p l e R s m args below meth c n0 P h k n pc' Ls ((.int x) :: st)) : Run p l e R s m args below meth c n0 P h k n pc Ls (.int j :: .ref a :: st) := by
  subst hp
  obtain ⟨cl, A, hs, hl, -⟩ := V
  obtain ⟨e1, e2⟩ := idx_n hi
  have e3 : i < vs.length := (List.getElem?_eq_some_iff.mp hv).1
  refine Run.pure (fun T locs X eT t z => X.baloadBytes C.1 (by rw [eT]; exact A.1) (State.isArrayOf_alike C.2.1.alike A.2.1) A.2.2 (by rw [e1, hs]; rintro (q | q); exact e2 q; simp at q; omega) (by rw [e1, hs]; simpa using hv) (g := mkF m pc Ls (.int j :: .ref a :: st)) rfl rfl (hb C.2.2.1 hd) _ z) r
theorem s_caload (C : Ctx p l e R s m args below meth c Z own cd maxL ret nm) {a : Addr} {vs : List Value} {j : Int32} {x : Int32} (hd : decode cd pc = .ok (.caload, 1)) (hp : pc + 1 = pc') (V : Av Z h a .char vs) (i : Nat) (hi : j.toInt = (i : Int)) (hv : vs[i]? = some (.int x)) (r : Run p l e R s m args below meth c n0 P h k n pc' Ls ((.int x) :: st)) : Run p l e R s m args below meth c n0 P h k n pc Ls (.int j :: .ref a :: st) := by
  subst hp
  obtain ⟨cl, A, hs, hl, -⟩ := V
  obtain ⟨e1, e2⟩ := idx_n hi
  have e3 : i < vs.length := (List.getElem?_eq_some_iff.mp hv).1
  refine Run.pure (fun T locs X eT t z => X.caload C.1 (by rw [eT]; exact A.1) (State.isArrayOf_alike C.2.1.alike A.2.1) A.2.2 (by rw [e1, hs]; rintro (q | q); exact e2 q; simp at q; omega) (by rw [e1, hs]; simpa using hv) (g := mkF m pc Ls (.int j :: .ref a :: st)) rfl rfl (hb C.2.2.1 hd) _ z) r
theorem s_aaload (C : Ctx p l e R s m args below meth c Z own cd maxL ret nm) {a : Addr} {vs : List Value} {j : Int32} {x : Value} {ty : FieldType} (hty : ty.isReference = true) (hd : decode cd pc = .ok (.aaload, 1)) (hp : pc + 1 = pc') (V : Av Z h a ty vs) (i : Nat) (hi : j.toInt = (i : Int)) (hv : vs[i]? = some x) (r : Run p l e R s m args below meth c n0 P h k n pc' Ls (x :: st)) : Run p l e R s m args below meth c n0 P h k n pc Ls (.int j :: .ref a :: st) := by
  subst hp
  obtain ⟨cl, A, hs, hl, -⟩ := V
  obtain ⟨e1, e2⟩ := idx_n hi
  have e3 : i < vs.length := (List.getElem?_eq_some_iff.mp hv).1
  refine Run.pure (fun T locs X eT t z => X.aaload C.1 (by rw [eT]; exact A.1) (State.isArrayOf_alike C.2.1.alike A.2.1) hty A.2.2 (by rw [e1, hs]; rintro (q | q); exact e2 q; simp at q; omega) (by rw [e1, hs]; simpa using hv) (g := mkF m pc Ls (.int j :: .ref a :: st)) rfl rfl (hb C.2.2.1 hd) _ z) r
def OvA (Z : State) (h : Heap) (a : Addr) (K : String) : Prop := ∃ cl : Cell, Arr Z h a cl (.object K) ∧ Ovr Z cl.cls K
theorem OvA.keep {h h' : Heap} {a : Addr} {K : String} {ws : List Addr} (F : OvA Z h a K) (Kp : Keep h h' ws) : OvA Z h' a K := by
  obtain ⟨cl, A, O⟩ := F
  obtain ⟨c', h1, h2, h3, h4⟩ := Kp.2.2 a cl A.1
  exact ⟨c', ⟨h1, ⟨by rw [h3]; exact A.2.1.1, by rw [h2]; exact A.2.1.2⟩, by rw [h3]; exact A.2.2⟩, h2 ▸ O⟩
theorem OvA.lt {h : Heap} {a : Addr} {K : String} (F : OvA Z h a K) : a < h.size := by obtain ⟨cl, A, -⟩ := F; exact A.lt
theorem OvA.sto {h : Heap} {a y : Addr} {K : String} (F : OvA Z h a K) (I : Ins Z h y K true) : Sto Z h a (.ref y) := by obtain ⟨cl, A, O⟩ := F; exact Sto.of A O I
theorem s_instNull (C : Ctx p l e R s m args below meth c Z own cd maxL ret nm) {i : Nat} (hd : decode cd pc = .ok (.instanceof i, 3)) (hp : pc + 3 = pc') (r : Run p l e R s m args below meth c n0 P h k n pc' Ls (.int 0 :: st)) : Run p l e R s m args below meth c n0 P h k n pc Ls (.null :: st) := by
  subst hp; exact Run.pure (fun T locs X _ t z => X.instanceofNull C.1 (g := mkF m pc Ls (.null :: st)) rfl rfl (hb C.2.2.1 hd) _ z) r
theorem s_instNo (C : Ctx p l e R s m args below meth c Z own cd maxL ret nm) {K Kc : String} {i : Nat} {a : Addr} (hd : decode cd pc = .ok (.instanceof i, 3)) (hp : pc + 3 = pc') (w : (Jvm.Cond.classLink own i K).before a0 Z = true) (E : Exa Z h a Kc) (F : ∃ c t, Z.vm.findClass Kc = some c ∧ Z.vm.findClass K = some t ∧ Z.vm.assignable c t = false) (r : Run p l e R s m args below meth c n0 P h k n pc' Ls (.int 0 :: st)) : Run p l e R s m args below meth c n0 P h k n pc Ls (.ref a :: st) := by
  subst hp; exact Run.warm (fun T locs X eT => instNo X C.1 C.2.1 C.2.2.2.2.1 w eT E F (g := mkF m pc Ls (.ref a :: st)) rfl rfl (hb C.2.2.1 hd)) r
theorem ns_root {O K : String} {q : Nat} (w : (Jvm.Cond.noSuperclass O).before a0 Z = true) (wi : (Jvm.Cond.instantiable K q).before a0 Z = true) (hn : O ≠ K) : NS Z O K := by
  obtain ⟨c, k, h1, h2, h3, -, -⟩ := Cond.noSuperclass_spec w
  obtain ⟨t, kt, g1, -⟩ := Cond.instantiable_spec wi
  exact ⟨c, t, h1, g1, fun fuel => by cases fuel with | zero => rfl | succ f => simp [Vm.isSubclassAux, ids_ne h1 g1 hn, h2, h3]⟩
theorem ns_no {C' S' K : String} {q : Nat} (w : (Jvm.Cond.superclass C' S').before a0 Z = true) (wi : (Jvm.Cond.instantiable K q).before a0 Z = true) (nn : NS Z C' K) (hn : C' ≠ K) : ∃ c t, Z.vm.findClass C' = some c ∧ Z.vm.findClass K = some t ∧ Z.vm.assignable c t = false := by
  obtain ⟨c, t, h0, g0, n3⟩ := nn
  obtain ⟨_, k, _, -, h2, -, -, h5, -⟩ := Cond.superclass_spec h0 w
  obtain ⟨t', kt, g1, g2, g5, g6, -⟩ := Cond.instantiable_spec wi
  cases g0.symm.trans g1
  refine ⟨c, t, h0, g0, ?_⟩
  have g7 : kt.isInterface = false := (Bool.or_eq_false_iff.mp g6).1
  show Z.vm.assignableAux 256 c t = false
  simp [Vm.assignableAux, ids_ne h0 g0 hn, h2, g2, h5, g5, g7, Vm.isSubclass, n3]
theorem s_aastore (C : Ctx p l e R s m args below meth c Z own cd maxL ret nm) {a : Addr} {ty : FieldType} {vs : List Value} {j : Int32} {v : Value} (hty : ty.isReference = true) (hd : decode cd pc = .ok (.aastore, 1)) (hp : pc + 1 = pc') (V : Av Z h a ty vs) (F : Sto Z h a v) (hfv : fits ty v = true) (i : Nat) (hi : j.toInt = (i : Int)) (hlt : i < vs.length) (ha : n0 ≤ a) (vs' : List Value) (hvs : vs.set i v = vs') (r : ∀ h', Wr h h' a i v → Av Z h' a ty vs' → Run p l e R s m args below meth c n0 P h' k n pc' Ls st) : Run p l e R s m args below meth c n0 P h k n pc Ls (v :: .int j :: .ref a :: st) := by
  subst hp hvs
  have V0 := V
  obtain ⟨cl, A, hs, hl, -⟩ := V
  obtain ⟨e1, e2⟩ := idx_n hi
  subst e1
  intro T locs X eT N
  obtain ⟨T', h', X', e', W, q⟩ := stR X C.1 C.2.1 eT A (j := j) (by rw [hs]; rintro (q | q); exact e2 q; simp at q; omega) hty F (g := mkF m pc Ls (v :: .int j :: .ref a :: st)) rfl rfl (hb C.2.2.1 hd)
  obtain ⟨s₂, o, z, r⟩ := r h' W (V0.set W hfv) T' _ X' e' (Fr.snoc X' N ha)
  exact ⟨s₂, o, q _ z, r⟩
theorem s_baloadC (C : Ctx p l e R s m args below meth c Z own cd maxL ret nm) {a : Addr} {cl : Cell} {j x : Int32} (hd : decode cd pc = .ok (.baload, 1)) (hp : pc + 1 = pc') (A : Arr Z h a cl .byte) (hin : ¬ (j < 0 ∨ cl.slots.size ≤ j.toNatClampNeg)) (hv : cl.slots[j.toNatClampNeg]? = some (.int x)) (r : Run p l e R s m args below meth c n0 P h k n pc' Ls (.int x :: st)) : Run p l e R s m args below meth c n0 P h k n pc Ls (.int j :: .ref a :: st) := by
  subst hp
  exact Run.pure (fun T locs X eT t z => X.baloadBytes C.1 (by rw [eT]; exact A.1) (State.isArrayOf_alike C.2.1.alike A.2.1) A.2.2 hin hv (g := mkF m pc Ls (.int j :: .ref a :: st)) rfl rfl (hb C.2.2.1 hd) _ z) r
theorem s_aaloadC (C : Ctx p l e R s m args below meth c Z own cd maxL ret nm) {a : Addr} {cl : Cell} {ty : FieldType} {j : Int32} {x : Value} (hty : ty.isReference = true) (hd : decode cd pc = .ok (.aaload, 1)) (hp : pc + 1 = pc') (A : Arr Z h a cl ty) (hin : ¬ (j < 0 ∨ cl.slots.size ≤ j.toNatClampNeg)) (hv : cl.slots[j.toNatClampNeg]? = some x) (r : Run p l e R s m args below meth c n0 P h k n pc' Ls (x :: st)) : Run p l e R s m args below meth c n0 P h k n pc Ls (.int j :: .ref a :: st) := by
  subst hp
  exact Run.pure (fun T locs X eT t z => X.aaload C.1 (by rw [eT]; exact A.1) (State.isArrayOf_alike C.2.1.alike A.2.1) hty A.2.2 hin hv (g := mkF m pc Ls (.int j :: .ref a :: st)) rfl rfl (hb C.2.2.1 hd) _ z) r
theorem s_iastore (C : Ctx p l e R s m args below meth c Z own cd maxL ret nm) {a : Addr} {vs : List Value} {j : Int32} {x : Int32} (hd : decode cd pc = .ok (.iastore, 1)) (hp : pc + 1 = pc') (V : Av Z h a .int vs) (i : Nat) (hi : j.toInt = (i : Int)) (hlt : i < vs.length) (ha : n0 ≤ a) (vs' : List Value) (hvs : vs.set i (.int x) = vs') (r : ∀ h', Wr h h' a i (.int x) → Av Z h' a .int vs' → Run p l e R s m args below meth c n0 P h' k n pc' Ls st) : Run p l e R s m args below meth c n0 P h k n pc Ls ((.int x) :: .int j :: .ref a :: st) := by
  subst hp hvs
  have V0 := V
  obtain ⟨cl, A, hs, hl, -⟩ := V
  obtain ⟨e1, e2⟩ := idx_n hi
  subst e1
  intro T locs X eT N
  obtain ⟨T', h', X', e', W, q⟩ := stI X C.1 C.2.1 eT A (j := j) (by rw [hs]; rintro (q | q); exact e2 q; simp at q; omega) (g := mkF m pc Ls ((.int x) :: .int j :: .ref a :: st)) rfl rfl (hb C.2.2.1 hd)
  obtain ⟨s₂, o, z, r⟩ := r h' W (V0.set W rfl) T' _ X' e' (Fr.snoc X' N ha)
  exact ⟨s₂, o, q _ z, r⟩
theorem s_lastore (C : Ctx p l e R s m args below meth c Z own cd maxL ret nm) {a : Addr} {vs : List Value} {j : Int32} {x : Int64} (hd : decode cd pc = .ok (.lastore, 1)) (hp : pc + 1 = pc') (V : Av Z h a .long vs) (i : Nat) (hi : j.toInt = (i : Int)) (hlt : i < vs.length) (ha : n0 ≤ a) (vs' : List Value) (hvs : vs.set i (.long x) = vs') (r : ∀ h', Wr h h' a i (.long x) → Av Z h' a .long vs' → Run p l e R s m args below meth c n0 P h' k n pc' Ls st) : Run p l e R s m args below meth c n0 P h k n pc Ls ((.long x) :: .int j :: .ref a :: st) := by
  subst hp hvs
  have V0 := V
  obtain ⟨cl, A, hs, hl, -⟩ := V
  obtain ⟨e1, e2⟩ := idx_n hi
  subst e1
  intro T locs X eT N
  obtain ⟨T', h', X', e', W, q⟩ := stJ X C.1 C.2.1 eT A (j := j) (by rw [hs]; rintro (q | q); exact e2 q; simp at q; omega) (g := mkF m pc Ls ((.long x) :: .int j :: .ref a :: st)) rfl rfl (hb C.2.2.1 hd)
  obtain ⟨s₂, o, z, r⟩ := r h' W (V0.set W rfl) T' _ X' e' (Fr.snoc X' N ha)
  exact ⟨s₂, o, q _ z, r⟩
theorem s_bastore (C : Ctx p l e R s m args below meth c Z own cd maxL ret nm) {a : Addr} {vs : List Value} {j : Int32} {x : Int32} (hd : decode cd pc = .ok (.bastore, 1)) (hp : pc + 1 = pc') (V : Av Z h a .byte vs) (i : Nat) (hi : j.toInt = (i : Int)) (hlt : i < vs.length) (ha : n0 ≤ a) (vs' : List Value) (hvs : vs.set i (.int x.toInt8.toInt32) = vs') (r : ∀ h', Wr h h' a i (.int x.toInt8.toInt32) → Av Z h' a .byte vs' → Run p l e R s m args below meth c n0 P h' k n pc' Ls st) : Run p l e R s m args below meth c n0 P h k n pc Ls ((.int x) :: .int j :: .ref a :: st) := by
  subst hp hvs
  have V0 := V
  obtain ⟨cl, A, hs, hl, -⟩ := V
  obtain ⟨e1, e2⟩ := idx_n hi
  subst e1
  intro T locs X eT N
  obtain ⟨T', h', X', e', W, q⟩ := stB X C.1 C.2.1 eT A (j := j) (by rw [hs]; rintro (q | q); exact e2 q; simp at q; omega) (g := mkF m pc Ls ((.int x) :: .int j :: .ref a :: st)) rfl rfl (hb C.2.2.1 hd)
  obtain ⟨s₂, o, z, r⟩ := r h' W (V0.set W (fits_nar_byte _)) T' _ X' e' (Fr.snoc X' N ha)
  exact ⟨s₂, o, q _ z, r⟩
theorem s_castore (C : Ctx p l e R s m args below meth c Z own cd maxL ret nm) {a : Addr} {vs : List Value} {j : Int32} {x : Int32} (hd : decode cd pc = .ok (.castore, 1)) (hp : pc + 1 = pc') (V : Av Z h a .char vs) (i : Nat) (hi : j.toInt = (i : Int)) (hlt : i < vs.length) (ha : n0 ≤ a) (vs' : List Value) (hvs : vs.set i (.int x.toUInt32.toUInt16.toUInt32.toInt32) = vs') (r : ∀ h', Wr h h' a i (.int x.toUInt32.toUInt16.toUInt32.toInt32) → Av Z h' a .char vs' → Run p l e R s m args below meth c n0 P h' k n pc' Ls st) : Run p l e R s m args below meth c n0 P h k n pc Ls ((.int x) :: .int j :: .ref a :: st) := by
  subst hp hvs
  have V0 := V
  obtain ⟨cl, A, hs, hl, -⟩ := V
  obtain ⟨e1, e2⟩ := idx_n hi
  subst e1
  intro T locs X eT N
  obtain ⟨T', h', X', e', W, q⟩ := stC X C.1 C.2.1 eT A (j := j) (by rw [hs]; rintro (q | q); exact e2 q; simp at q; omega) (g := mkF m pc Ls ((.int x) :: .int j :: .ref a :: st)) rfl rfl (hb C.2.2.1 hd)
  obtain ⟨s₂, o, z, r⟩ := r h' W (V0.set W (fits_nar_char _)) T' _ X' e' (Fr.snoc X' N ha)
  exact ⟨s₂, o, q _ z, r⟩
end Steps
end Own
end Jvm.Pilot.@@N@@

namespace Jvm.Pilot.@@N@@
open Jvm Jvm.ClassFile Sem Op Lib Jvm.Free Jvm.Stand Jvm.LawKit Jvm.RoadKit Bundle Jvm.Pilot.@@N@@.Jvm.D
namespace Own
abbrev Hw (a0 : Array Value) (Z : State) : Prop := ∀ d ∈ tables_1, d.before a0 Z = true
theorem w0 {a0 : Array Value} {Z : State} (hw : Hw a0 Z) : (Jvm.Cond.constant "com/example/chasm/chasm/model/AtomRootPinLaw" (7 : Nat) (2147483647 : Int32)).before a0 Z = true := hw _ (List.mem_of_getElem? (i := 0) rfl)
theorem w1 {a0 : Array Value} {Z : State} (hw : Hw a0 Z) : (Jvm.Cond.arrayClass Jvm.ClassFile.FieldType.int).before a0 Z = true := hw _ (List.mem_of_getElem? (i := 1) rfl)
theorem w2 {a0 : Array Value} {Z : State} (hw : Hw a0 Z) : (Jvm.Cond.methodLink "com/example/chasm/chasm/model/AtomRootPinLaw" (8 : Nat) ({ cls := "com/example/chasm/chasm/model/AtomRootPinLaw", name := "swap", desc := "([III)V" } : Jvm.MethodName)).before a0 Z = true := hw _ (List.mem_of_getElem? (i := 2) rfl)
theorem w3 {a0 : Array Value} {Z : State} (hw : Hw a0 Z) : (Jvm.Cond.static ({ cls := "com/example/chasm/chasm/model/AtomRootPinLaw", name := "swap", desc := "([III)V" } : Jvm.MethodName)).before a0 Z = true := hw _ (List.mem_of_getElem? (i := 3) rfl)
theorem w4 {a0 : Array Value} {Z : State} (hw : Hw a0 Z) : (Jvm.Cond.initialized "com/example/chasm/chasm/model/AtomRootPinLaw").before a0 Z = true := hw _ (List.mem_of_getElem? (i := 4) rfl)
theorem w5 {a0 : Array Value} {Z : State} (hw : Hw a0 Z) : (Jvm.Cond.code ({ cls := "com/example/chasm/chasm/model/AtomRootPinLaw", name := "swap", desc := "([III)V" } : Jvm.MethodName) method_2_code (4 : Nat) (Option.none : Option Jvm.ClassFile.FieldType)).before a0 Z = true := hw _ (List.mem_of_getElem? (i := 5) rfl)
theorem w6 {a0 : Array Value} {Z : State} (hw : Hw a0 Z) : (Jvm.Cond.methodLink "com/example/chasm/chasm/model/AtomRootPinLaw" (14 : Nat) ({ cls := "com/example/chasm/chasm/model/Atom", name := "root", desc := "([II)I" } : Jvm.MethodName)).before a0 Z = true := hw _ (List.mem_of_getElem? (i := 6) rfl)
theorem w7 {a0 : Array Value} {Z : State} (hw : Hw a0 Z) : (Jvm.Cond.static ({ cls := "com/example/chasm/chasm/model/Atom", name := "root", desc := "([II)I" } : Jvm.MethodName)).before a0 Z = true := hw _ (List.mem_of_getElem? (i := 7) rfl)
theorem w8 {a0 : Array Value} {Z : State} (hw : Hw a0 Z) : (Jvm.Cond.initialized "com/example/chasm/chasm/model/Atom").before a0 Z = true := hw _ (List.mem_of_getElem? (i := 8) rfl)
theorem w9 {a0 : Array Value} {Z : State} (hw : Hw a0 Z) : (Jvm.Cond.code ({ cls := "com/example/chasm/chasm/model/Atom", name := "root", desc := "([II)I" } : Jvm.MethodName) prog_33_method_9_code (3 : Nat) (Option.some Jvm.ClassFile.FieldType.int)).before a0 Z = true := hw _ (List.mem_of_getElem? (i := 9) rfl)
theorem ef1 (m : MethodId) (x0 : Addr) (x1 : Int32) (x2 : Int32) : entryFrame m #[(.ref x0), (.int x1), (.int x2)] 4 = mkF m 0 #[.val (.ref x0), .val (.int x1), .val (.int x2), .unset] [] := by first | (simp [entryFrame, mkF, argsToLocals, Value.category]; done) | rfl
theorem pn1 : plainFor (⟨"com/example/chasm/chasm/model/AtomRootPinLaw", "swap", "([III)V"⟩ : MethodName) = true := plainFor_of_name (by first | (simp [plainName, overriddenIn]; done) | decide +kernel)
theorem d1_0 : decode method_2_code 0 = .ok (.aload_n 0, 1) := by decide +kernel
theorem d1_1 : decode method_2_code 1 = .ok (.iload_n 1, 1) := by decide +kernel
theorem d1_2 : decode method_2_code 2 = .ok (.iaload, 1) := by decide +kernel
theorem d1_3 : decode method_2_code 3 = .ok (.istore_n 3, 1) := by decide +kernel
theorem d1_4 : decode method_2_code 4 = .ok (.aload_n 0, 1) := by decide +kernel
theorem d1_5 : decode method_2_code 5 = .ok (.iload_n 1, 1) := by decide +kernel
theorem d1_6 : decode method_2_code 6 = .ok (.aload_n 0, 1) := by decide +kernel
theorem d1_7 : decode method_2_code 7 = .ok (.iload_n 2, 1) := by decide +kernel
theorem d1_8 : decode method_2_code 8 = .ok (.iaload, 1) := by decide +kernel
theorem d1_9 : decode method_2_code 9 = .ok (.iastore, 1) := by decide +kernel
theorem d1_10 : decode method_2_code 10 = .ok (.aload_n 0, 1) := by decide +kernel
theorem d1_11 : decode method_2_code 11 = .ok (.iload_n 2, 1) := by decide +kernel
theorem d1_12 : decode method_2_code 12 = .ok (.iload_n 3, 1) := by decide +kernel
theorem d1_13 : decode method_2_code 13 = .ok (.iastore, 1) := by decide +kernel
theorem d1_14 : decode method_2_code 14 = .ok (.return_, 1) := by decide +kernel
theorem ef2 (m : MethodId) (x0 : Addr) (x1 : Int32) : entryFrame m #[(.ref x0), (.int x1)] 3 = mkF m 0 #[.val (.ref x0), .val (.int x1), .unset] [] := by first | (simp [entryFrame, mkF, argsToLocals, Value.category]; done) | rfl
theorem pn2 : plainFor (⟨"com/example/chasm/chasm/model/Atom", "root", "([II)I"⟩ : MethodName) = true := plainFor_of_name (by first | (simp [plainName, overriddenIn]; done) | decide +kernel)
theorem d2_0 : decode prog_33_method_9_code 0 = .ok (.iload_n 1, 1) := by decide +kernel
theorem d2_1 : decode prog_33_method_9_code 1 = .ok (.istore_n 2, 1) := by decide +kernel
theorem d2_2 : decode prog_33_method_9_code 2 = .ok (.aload_n 0, 1) := by decide +kernel
theorem d2_3 : decode prog_33_method_9_code 3 = .ok (.iload_n 2, 1) := by decide +kernel
theorem d2_4 : decode prog_33_method_9_code 4 = .ok (.iaload, 1) := by decide +kernel
theorem d2_5 : decode prog_33_method_9_code 5 = .ok (.iload_n 2, 1) := by decide +kernel
theorem d2_6 : decode prog_33_method_9_code 6 = .ok (.if_icmp .eq 18, 3) := by decide +kernel
theorem d2_24 : decode prog_33_method_9_code 24 = .ok (.iload_n 2, 1) := by decide +kernel
theorem d2_25 : decode prog_33_method_9_code 25 = .ok (.ireturn, 1) := by decide +kernel
theorem d2_9 : decode prog_33_method_9_code 9 = .ok (.aload_n 0, 1) := by decide +kernel
theorem d2_10 : decode prog_33_method_9_code 10 = .ok (.iload_n 2, 1) := by decide +kernel
theorem d2_11 : decode prog_33_method_9_code 11 = .ok (.aload_n 0, 1) := by decide +kernel
theorem d2_12 : decode prog_33_method_9_code 12 = .ok (.aload_n 0, 1) := by decide +kernel
theorem d2_13 : decode prog_33_method_9_code 13 = .ok (.iload_n 2, 1) := by decide +kernel
theorem d2_14 : decode prog_33_method_9_code 14 = .ok (.iaload, 1) := by decide +kernel
theorem d2_15 : decode prog_33_method_9_code 15 = .ok (.iaload, 1) := by decide +kernel
theorem d2_16 : decode prog_33_method_9_code 16 = .ok (.iastore, 1) := by decide +kernel
theorem d2_17 : decode prog_33_method_9_code 17 = .ok (.aload_n 0, 1) := by decide +kernel
theorem d2_18 : decode prog_33_method_9_code 18 = .ok (.iload_n 2, 1) := by decide +kernel
theorem d2_19 : decode prog_33_method_9_code 19 = .ok (.iaload, 1) := by decide +kernel
theorem d2_20 : decode prog_33_method_9_code 20 = .ok (.istore_n 2, 1) := by decide +kernel
theorem d2_21 : decode prog_33_method_9_code 21 = .ok (.goto (-19), 3) := by decide +kernel
theorem ef0 (m : MethodId) (x0 : Int32) (x1 : Int32) (x2 : Int32) : entryFrame m #[(.int x0), (.int x1), (.int x2)] maxLocals = mkF m 0 #[.val (.int x0), .val (.int x1), .val (.int x2), .unset, .unset, .unset, .unset, .unset, .unset, .unset, .unset, .unset, .unset, .unset] [] := by first | (simp [entryFrame, mkF, argsToLocals, Value.category, maxLocals]; done) | rfl
theorem pn0 : plainFor (⟨"com/example/chasm/chasm/model/AtomRootPinLaw", "law", "(III)Z"⟩ : MethodName) = true := plainFor_of_name (by first | (simp [plainName, overriddenIn]; done) | decide +kernel)
theorem pd1 : parseMethodDescriptor "([III)V" = some ⟨[(.array .int), .int, .int], none⟩ := by decide +kernel
theorem pd0 : parseMethodDescriptor "([II)I" = some ⟨[(.array .int), .int], some .int⟩ := by decide +kernel

def ofN (n : Nat) : Int32 := Int32.ofInt (n : Int)
theorem own_oi {n : Nat} (h : n < 5) : (ofN n).toInt = (n : Int) := by
  have e : ((n : Int).bmod (2 ^ 32)) = (n : Int) := Int.bmod_eq_of_le (by omega) (by omega)
  unfold ofN
  rw [Int32.toInt_ofInt]; exact e
theorem own_inj {a b : Nat} (ha : a < 5) (hb : b < 5) (h : ofN a = ofN b) : a = b := by
  have q := congrArg Int32.toInt h
  rw [own_oi ha, own_oi hb] at q; omega
theorem own_of {v : Int32} {k : Nat} (h0 : 0 ≤ v.toInt) (h : v.toInt < k) (hk : k ≤ 5) : ∃ n, v = ofN n ∧ n < k := by
  refine ⟨v.toInt.toNat, ?_, by omega⟩
  rw [← Int32.toInt_inj, own_oi (by omega)]; omega
def own_A (f : Nat → Nat) : List Value := [.int (ofN (f 0)), .int (ofN (f 1)), .int (ofN (f 2)), .int (ofN (f 3)), .int (ofN (f 4))]
def own_upd (f : Nat → Nat) (i x : Nat) : Nat → Nat := fun j => if j = i then x else f j
theorem own_get (f : Nat → Nat) (i : Nat) (h : i < 5) : (own_A f)[i]? = some (.int (ofN (f i))) := by
  match i, h with
  | 0, _ => rfl
  | 1, _ => rfl
  | 2, _ => rfl
  | 3, _ => rfl
  | 4, _ => rfl
  | n + 5, h => omega
theorem own_set (f : Nat → Nat) (i x : Nat) (h : i < 5) : (own_A f).set i (.int (ofN x)) = own_A (own_upd f i x) := by
  match i, h with
  | 0, _ => rfl
  | 1, _ => rfl
  | 2, _ => rfl
  | 3, _ => rfl
  | 4, _ => rfl
  | n + 5, h => omega
def own_swap (f : Nat → Nat) (i j : Nat) : Nat → Nat := own_upd (own_upd f i (f j)) j (f i)
def own_perm (P : Nat → Nat) : Prop := (∀ i, i < 5 → P i < 5) ∧ (∀ i j, i < 5 → j < 5 → P i = P j → i = j) ∧ ∀ m, m < 5 → ∃ k, k < 5 ∧ P k = m
theorem own_perm_swap {P : Nat → Nat} (hP : own_perm P) {i j : Nat} (hi : i < 5) (hj : j < 5) : own_perm (own_swap P i j) := by
  have e : ∀ k, own_swap P i j k = P (if k = j then i else if k = i then j else k) := by
    intro k
    unfold own_swap own_upd
    by_cases h1 : k = j
    · rw [if_pos h1, if_pos h1]
    · rw [if_neg h1, if_neg h1]
      by_cases h2 : k = i
      · rw [if_pos h2, if_pos h2]
      · rw [if_neg h2, if_neg h2]
  refine ⟨fun k hk => ?_, fun a b ha hb q => ?_, fun m hm => ?_⟩
  · rw [e]; apply hP.1; repeat' split
    all_goals assumption
  · rw [e, e] at q
    have q2 := hP.2.1 _ _ (by (repeat' split) <;> assumption) (by (repeat' split) <;> assumption) q
    revert q2
    (repeat' split) <;> intro q2 <;> omega
  · obtain ⟨k, hk, q⟩ := hP.2.2 m hm
    refine ⟨if k = j then i else if k = i then j else k, by (repeat' split) <;> assumption, ?_⟩
    rw [e, ← q]
    congr 1
    (repeat' split) <;> omega
theorem own_id : own_perm (fun i => i) := ⟨fun _ h => h, fun _ _ _ _ h => h, fun m h => ⟨m, h, rfl⟩⟩
theorem own_upF {P F Q : Nat → Nat} (hP : own_perm P) (hF : ∀ i, i < 5 → F (P i) = P (Q i)) {x y : Nat} (hx : x < 5) : ∀ i, i < 5 → own_upd F (P x) (P y) (P i) = P (own_upd Q x y i) := by
  intro i hi
  unfold own_upd
  by_cases h : i = x
  · subst h; rw [if_pos rfl, if_pos rfl]
  · rw [if_neg (fun q => h (hP.2.1 _ _ hi hx q)), if_neg h, hF i hi]
def own_fill (P Q : Nat → Nat) : Nat → Nat := own_upd (own_upd (own_upd (own_upd (own_upd (fun _ => 0) (P 0) (P (Q 0))) (P 1) (P (Q 1))) (P 2) (P (Q 2))) (P 3) (P (Q 3))) (P 4) (P (Q 4))
theorem own_fillF {P Q : Nat → Nat} (hP : own_perm P) : ∀ i, i < 5 → own_fill P Q (P i) = P (Q i) := by
  intro i hi
  have inj : ∀ {a b : Nat}, a < 5 → b < 5 → a ≠ b → ¬ P a = P b := fun ha hb hn q => hn (hP.2.1 _ _ ha hb q)
  unfold own_fill own_upd
  match i, hi with
  | 0, _ => rw [if_neg (inj (by decide) (by decide) (by decide)), if_neg (inj (by decide) (by decide) (by decide)), if_neg (inj (by decide) (by decide) (by decide)), if_neg (inj (by decide) (by decide) (by decide)), if_pos rfl]
  | 1, _ => rw [if_neg (inj (by decide) (by decide) (by decide)), if_neg (inj (by decide) (by decide) (by decide)), if_neg (inj (by decide) (by decide) (by decide)), if_pos rfl]
  | 2, _ => rw [if_neg (inj (by decide) (by decide) (by decide)), if_neg (inj (by decide) (by decide) (by decide)), if_pos rfl]
  | 3, _ => rw [if_neg (inj (by decide) (by decide) (by decide)), if_pos rfl]
  | 4, _ => rw [if_pos rfl]
  | n + 5, h => omega
def own_tab (a b c d : Nat) : Nat → Nat := fun i => match i with | 0 => 0 | 1 => a | 2 => b | 3 => c | 4 => d | _ => 0
theorem own_tlt {a b c d : Nat} (la : a < 2) (lb : b < 3) (lc : c < 4) (ld : d < 5) (i : Nat) : own_tab a b c d i < 5 := by
  unfold own_tab
  split <;> omega
def own_tgt (Q : Nat → Nat) (r : Nat) : Nat → Nat := own_upd (own_upd Q r (Q (Q r))) (Q (Q r)) (Q (Q (Q (Q r))))
def own_n1 (Q : Nat → Nat) (r : Nat) : Nat → Nat := own_upd Q r (Q (Q r))
theorem own_stop0 {a b c d r : Nat} (la : a < 2) (lb : b < 3) (lc : c < 4) (ld : d < 5) (hr : r < 5) (h : own_tab a b c d r = r) : r = own_tab a b c d (own_tab a b c d (own_tab a b c d (own_tab a b c d r))) ∧ ∀ i, i < 5 → own_tab a b c d i = own_tgt (own_tab a b c d) r i :=
  (by decide +kernel : ∀ (a : Fin 2) (b : Fin 3) (c : Fin 4) (d r : Fin 5), own_tab a.val b.val c.val d.val r.val = r.val → r.val = own_tab a.val b.val c.val d.val (own_tab a.val b.val c.val d.val (own_tab a.val b.val c.val d.val (own_tab a.val b.val c.val d.val r.val))) ∧ ∀ i, i < 5 → own_tab a.val b.val c.val d.val i = own_tgt (own_tab a.val b.val c.val d.val) r.val i) ⟨a, la⟩ ⟨b, lb⟩ ⟨c, lc⟩ ⟨d, ld⟩ ⟨r, hr⟩ h
theorem own_stop1 {a b c d r : Nat} (la : a < 2) (lb : b < 3) (lc : c < 4) (ld : d < 5) (hr : r < 5) (h0 : ¬ own_tab a b c d r = r) (h : own_n1 (own_tab a b c d) r (own_tab a b c d (own_tab a b c d r)) = own_tab a b c d (own_tab a b c d r)) : own_tab a b c d (own_tab a b c d r) = own_tab a b c d (own_tab a b c d (own_tab a b c d (own_tab a b c d r))) ∧ ∀ i, i < 5 → own_n1 (own_tab a b c d) r i = own_tgt (own_tab a b c d) r i :=
  (by decide +kernel : ∀ (a : Fin 2) (b : Fin 3) (c : Fin 4) (d r : Fin 5), ¬ own_tab a.val b.val c.val d.val r.val = r.val → own_n1 (own_tab a.val b.val c.val d.val) r.val (own_tab a.val b.val c.val d.val (own_tab a.val b.val c.val d.val r.val)) = own_tab a.val b.val c.val d.val (own_tab a.val b.val c.val d.val r.val) → own_tab a.val b.val c.val d.val (own_tab a.val b.val c.val d.val r.val) = own_tab a.val b.val c.val d.val (own_tab a.val b.val c.val d.val (own_tab a.val b.val c.val d.val (own_tab a.val b.val c.val d.val r.val))) ∧ ∀ i, i < 5 → own_n1 (own_tab a.val b.val c.val d.val) r.val i = own_tgt (own_tab a.val b.val c.val d.val) r.val i) ⟨a, la⟩ ⟨b, lb⟩ ⟨c, lc⟩ ⟨d, ld⟩ ⟨r, hr⟩ h0 h
theorem own_stop2 {a b c d r : Nat} (la : a < 2) (lb : b < 3) (lc : c < 4) (ld : d < 5) (hr : r < 5) (h0 : ¬ own_tab a b c d r = r) (h1 : ¬ own_n1 (own_tab a b c d) r (own_tab a b c d (own_tab a b c d r)) = own_tab a b c d (own_tab a b c d r)) : own_n1 (own_n1 (own_tab a b c d) r) (own_tab a b c d (own_tab a b c d r)) (own_n1 (own_tab a b c d) r (own_n1 (own_tab a b c d) r (own_tab a b c d (own_tab a b c d r)))) = own_n1 (own_tab a b c d) r (own_n1 (own_tab a b c d) r (own_tab a b c d (own_tab a b c d r))) ∧ own_n1 (own_tab a b c d) r (own_n1 (own_tab a b c d) r (own_tab a b c d (own_tab a b c d r))) = own_tab a b c d (own_tab a b c d (own_tab a b c d (own_tab a b c d r))) ∧ ∀ i, i < 5 → own_n1 (own_n1 (own_tab a b c d) r) (own_tab a b c d (own_tab a b c d r)) i = own_tgt (own_tab a b c d) r i :=
  (by decide +kernel : ∀ (a : Fin 2) (b : Fin 3) (c : Fin 4) (d r : Fin 5), ¬ own_tab a.val b.val c.val d.val r.val = r.val → ¬ own_n1 (own_tab a.val b.val c.val d.val) r.val (own_tab a.val b.val c.val d.val (own_tab a.val b.val c.val d.val r.val)) = own_tab a.val b.val c.val d.val (own_tab a.val b.val c.val d.val r.val) → own_n1 (own_n1 (own_tab a.val b.val c.val d.val) r.val) (own_tab a.val b.val c.val d.val (own_tab a.val b.val c.val d.val r.val)) (own_n1 (own_tab a.val b.val c.val d.val) r.val (own_n1 (own_tab a.val b.val c.val d.val) r.val (own_tab a.val b.val c.val d.val (own_tab a.val b.val c.val d.val r.val)))) = own_n1 (own_tab a.val b.val c.val d.val) r.val (own_n1 (own_tab a.val b.val c.val d.val) r.val (own_tab a.val b.val c.val d.val (own_tab a.val b.val c.val d.val r.val))) ∧ own_n1 (own_tab a.val b.val c.val d.val) r.val (own_n1 (own_tab a.val b.val c.val d.val) r.val (own_tab a.val b.val c.val d.val (own_tab a.val b.val c.val d.val r.val))) = own_tab a.val b.val c.val d.val (own_tab a.val b.val c.val d.val (own_tab a.val b.val c.val d.val (own_tab a.val b.val c.val d.val r.val))) ∧ ∀ i, i < 5 → own_n1 (own_n1 (own_tab a.val b.val c.val d.val) r.val) (own_tab a.val b.val c.val d.val (own_tab a.val b.val c.val d.val r.val)) i = own_tgt (own_tab a.val b.val c.val d.val) r.val i) ⟨a, la⟩ ⟨b, lb⟩ ⟨c, lc⟩ ⟨d, ld⟩ ⟨r, hr⟩ h0 h1
theorem own_n1lt {Q : Nat → Nat} (h : ∀ i, Q i < 5) (r : Nat) : ∀ i, own_n1 Q r i < 5 := by
  intro i
  unfold own_n1 own_upd
  split
  · exact h _
  · exact h _
theorem own_same {P F G Q Q' : Nat → Nat} (hP : own_perm P) (hF : ∀ i, i < 5 → F (P i) = P (Q i)) (hG : ∀ i, i < 5 → G (P i) = P (Q i)) (m : Nat) (hm : m < 5) : ofN (F m) = ofN (G m) := by
  obtain ⟨k, hk, rfl⟩ := hP.2.2 m hm
  rw [hF k hk, hG k hk]
theorem own_msk (x : Int32) : 0 ≤ (x &&& 2147483647).toInt := by
  have e : (x &&& 2147483647).toInt = x.toInt % (2 ^ 31 : Nat) := c_mask x 2147483647 31 (by decide) (by decide)
  rw [e]; omega
theorem own_mod {v : Int32} (kk : Int32) (k : Nat) (hk : kk.toInt = (k : Int)) (k0 : 0 < k) (k5 : k ≤ 5) (h : 0 ≤ v.toInt) : ∃ n, v % kk = ofN n ∧ n < k := by
  have q := (c_irem v kk k hk).1 h
  exact own_of (by rw [q]; exact Int.emod_nonneg _ (by omega)) (by rw [q]; exact Int.emod_lt_of_pos _ (by omega)) k5
theorem own_dv {v : Int32} (kk : Int32) (k0 : 0 < kk.toInt) (h : 0 ≤ v.toInt) : 0 ≤ (v / kk).toInt := (c_idivV v kk h k0).1

set_option maxRecDepth 65536 in
set_option maxHeartbeats 40000000 in
theorem c_swap (l : Launch) (Z : State) (a0 : Array Value) (hw : Hw a0 Z) (a : Addr) (ii jj : Int32) (f : Nat → Nat) (i j : Nat) (h0 : Heap) (n0 : Nat) (Z0 : n0 ≤ h0.size) (hi : ii.toInt = (i : Int)) (hj : jj.toInt = (j : Int)) (li : i < 5) (lj : j < 5) (g_a : n0 ≤ a) (V_a : Av Z h0 a .int (own_A f)) :
    Met l Z (⟨"com/example/chasm/chasm/model/AtomRootPinLaw", "swap", "([III)V"⟩ : MethodName) method_2_code 4 none [] ({ frames := 0, cells := 0, slots := 0, locals := 0 } : Room) #[(.ref a), (.int ii), (.int jj)] h0 n0 (Ret0 (fun h => Keep h0 h [a] ∧ Av Z h a .int (own_A (own_swap f i j)))) := by
  refine Met.intro pn1 (own := "com/example/chasm/chasm/model/AtomRootPinLaw") rfl (nm := "swap") rfl (fun m => ef1 m a ii jj) ?_
  intro p e s m below meth c C
  refine s_aloadN C d1_0 (pc' := 1) rfl rfl rfl ?_
  refine s_iloadN C d1_1 (pc' := 2) rfl rfl ?_
  refine s_iaload C d1_2 (pc' := 3) rfl V_a i hi (own_get _ _ li) ?_
  refine s_istoreNP C d1_3 (pc' := 4) rfl #[.val (.ref a), .val (.int ii), .val (.int jj), .val (.int (ofN (f i)))] rfl ?_
  refine s_aloadN C d1_4 (pc' := 5) rfl rfl rfl ?_
  refine s_iloadN C d1_5 (pc' := 6) rfl rfl ?_
  refine s_aloadN C d1_6 (pc' := 7) rfl rfl rfl ?_
  refine s_iloadN C d1_7 (pc' := 8) rfl rfl ?_
  refine s_iaload C d1_8 (pc' := 9) rfl V_a j hj (own_get _ _ lj) ?_
  refine s_iastore C d1_9 (pc' := 10) rfl V_a i hi li g_a (own_A (own_upd f i (f j))) (own_set _ _ _ li) (fun h1 W1 A1 => ?_)
  have sz2 : n0 ≤ h1.size := (Nat.le_trans Z0 (Nat.le_of_eq W1.size.symm))
  have Kp3 : Keep h0 h1 [a] := (Keep.refl h0 [a]).wr W1 (Or.inl (List.mem_of_getElem? (i := 0) rfl))
  refine s_aloadN C d1_10 (pc' := 11) rfl rfl rfl ?_
  refine s_iloadN C d1_11 (pc' := 12) rfl rfl ?_
  refine s_iloadN C d1_12 (pc' := 13) rfl rfl ?_
  refine s_iastore C d1_13 (pc' := 14) rfl A1 j hj lj g_a (own_A (own_swap f i j)) (own_set _ _ _ lj) (fun h4 W4 A4 => ?_)
  have sz5 : n0 ≤ h4.size := (Nat.le_trans sz2 (Nat.le_of_eq W4.size.symm))
  have Kp6 : Keep h0 h4 [a] := Kp3.wr W4 (Or.inl (List.mem_of_getElem? (i := 0) rfl))
  exact s_ret0 C d1_14 (by decide) (by decide) ⟨Kp6, A4⟩
set_option maxRecDepth 65536 in
set_option maxHeartbeats 40000000 in
theorem c_root (l : Launch) (Z : State) (a0 : Array Value) (hw : Hw a0 Z) (pa : Addr) (P F : Nat → Nat) (a1 a2 a3 a4 r : Nat) (h0 : Heap) (n0 : Nat) (Z0 : n0 ≤ h0.size) (la : a1 < 2) (lb : a2 < 3) (lc : a3 < 4) (ld : a4 < 5) (hr : r < 5) (hP : own_perm P) (hF : ∀ i, i < 5 → F (P i) = P ((own_tab a1 a2 a3 a4) i)) (g_a : n0 ≤ pa) (V_a : Av Z h0 pa .int (own_A F)) :
    Met l Z (⟨"com/example/chasm/chasm/model/Atom", "root", "([II)I"⟩ : MethodName) prog_33_method_9_code 3 (some .int) [] ({ frames := 0, cells := 0, slots := 0, locals := 0 } : Room) #[(.ref pa), (.int (ofN (P r)))] h0 n0 (RetI (fun z h => z = ofN (P ((own_tab a1 a2 a3 a4) ((own_tab a1 a2 a3 a4) ((own_tab a1 a2 a3 a4) ((own_tab a1 a2 a3 a4) r))))) ∧ Keep h0 h [pa] ∧ ∃ F', Av Z h pa .int (own_A F') ∧ ∀ i, i < 5 → F' (P i) = P (own_tgt (own_tab a1 a2 a3 a4) r i))) := by
  refine Met.intro pn2 (own := "com/example/chasm/chasm/model/Atom") rfl (nm := "root") rfl (fun m => ef2 m pa (ofN (P r))) ?_
  intro p e s m below meth c C
  have tl := own_tlt la lb lc ld
  refine s_iloadN C d2_0 (pc' := 1) rfl rfl ?_
  refine s_istoreNP C d2_1 (pc' := 2) rfl #[.val (.ref pa), .val (.int (ofN (P r))), .val (.int (ofN (P r)))] rfl ?_
  refine s_aloadN C d2_2 (pc' := 3) rfl rfl rfl ?_
  refine s_iloadN C d2_3 (pc' := 4) rfl rfl ?_
  refine s_iaload C d2_4 (pc' := 5) rfl V_a (P r) (own_oi (hP.1 _ hr)) ((own_get F _ (hP.1 _ hr)).trans (by rw [hF _ hr])) ?_
  refine s_iloadN C d2_5 (pc' := 6) rfl rfl ?_
  refine s_icmp_eq C d2_6 (pc' := 9) rfl (pcY := 24) rfl (fun c1 => ?_) (fun c1 => ?_)
  · skip
    refine s_iloadN C d2_24 (pc' := 25) rfl rfl ?_
    have eq : (own_tab a1 a2 a3 a4) r = r := hP.2.1 _ _ (tl _) hr (own_inj (hP.1 _ (tl _)) (hP.1 _ hr) c1)
    exact s_retI C d2_25 (by decide) (by decide) ⟨congrArg (fun n => ofN (P n)) (own_stop0 la lb lc ld hr eq).1, (Keep.refl h0 [pa]), F, V_a, fun i hi => by rw [hF i hi, (own_stop0 la lb lc ld hr eq).2 i hi]⟩
  · skip
    have nq0 : ¬ (own_tab a1 a2 a3 a4) r = r := fun q => c1 (congrArg (fun n => ofN (P n)) q)
    refine s_aloadN C d2_9 (pc' := 10) rfl rfl rfl ?_
    refine s_iloadN C d2_10 (pc' := 11) rfl rfl ?_
    refine s_aloadN C d2_11 (pc' := 12) rfl rfl rfl ?_
    refine s_aloadN C d2_12 (pc' := 13) rfl rfl rfl ?_
    refine s_iloadN C d2_13 (pc' := 14) rfl rfl ?_
    refine s_iaload C d2_14 (pc' := 15) rfl V_a (P r) (own_oi (hP.1 _ hr)) ((own_get F _ (hP.1 _ hr)).trans (by rw [hF _ hr])) ?_
    refine s_iaload C d2_15 (pc' := 16) rfl V_a (P ((own_tab a1 a2 a3 a4) r)) (own_oi (hP.1 _ (tl _))) ((own_get F _ (hP.1 _ (tl _))).trans (by rw [hF _ (tl _)])) ?_
    have hF1 := own_upF (x := r) (y := (own_tab a1 a2 a3 a4) ((own_tab a1 a2 a3 a4) r)) hP hF hr
    have ql1 : ∀ i, (own_n1 (own_tab a1 a2 a3 a4) r) i < 5 := own_n1lt tl r
    have hG1 : ∀ i, i < 5 → (own_upd F (P r) (P ((own_tab a1 a2 a3 a4) ((own_tab a1 a2 a3 a4) r)))) (P i) = P ((own_n1 (own_tab a1 a2 a3 a4) r) i) := hF1
    refine s_iastore C d2_16 (pc' := 17) rfl V_a (P r) (own_oi (hP.1 _ hr)) (hP.1 _ hr) g_a (own_A (own_upd F (P r) (P ((own_tab a1 a2 a3 a4) ((own_tab a1 a2 a3 a4) r))))) (own_set _ _ _ (hP.1 _ hr)) (fun h2 W2 A2 => ?_)
    have sz3 : n0 ≤ h2.size := (Nat.le_trans Z0 (Nat.le_of_eq W2.size.symm))
    have Kp4 : Keep h0 h2 [pa] := (Keep.refl h0 [pa]).wr W2 (Or.inl (List.mem_of_getElem? (i := 0) rfl))
    refine s_aloadN C d2_17 (pc' := 18) rfl rfl rfl ?_
    refine s_iloadN C d2_18 (pc' := 19) rfl rfl ?_
    refine s_iaload C d2_19 (pc' := 20) rfl A2 (P r) (own_oi (hP.1 _ hr)) ((own_get (own_upd F (P r) (P ((own_tab a1 a2 a3 a4) ((own_tab a1 a2 a3 a4) r)))) _ (hP.1 _ hr)).trans (by unfold own_upd; rw [if_pos rfl])) ?_
    refine s_istoreNP C d2_20 (pc' := 21) rfl #[.val (.ref pa), .val (.int (ofN (P r))), .val (.int (ofN (P ((own_tab a1 a2 a3 a4) ((own_tab a1 a2 a3 a4) r)))))] rfl ?_
    refine s_goto C d2_21 (pc' := 2) rfl ?_
    refine s_aloadN C d2_2 (pc' := 3) rfl rfl rfl ?_
    refine s_iloadN C d2_3 (pc' := 4) rfl rfl ?_
    refine s_iaload C d2_4 (pc' := 5) rfl A2 (P ((own_tab a1 a2 a3 a4) ((own_tab a1 a2 a3 a4) r))) (own_oi (hP.1 _ (tl _))) ((own_get (own_upd F (P r) (P ((own_tab a1 a2 a3 a4) ((own_tab a1 a2 a3 a4) r)))) _ (hP.1 _ (tl _))).trans (by rw [hG1 _ (tl _)])) ?_
    refine s_iloadN C d2_5 (pc' := 6) rfl rfl ?_
    refine s_icmp_eq C d2_6 (pc' := 9) rfl (pcY := 24) rfl (fun c5 => ?_) (fun c5 => ?_)
    · skip
      refine s_iloadN C d2_24 (pc' := 25) rfl rfl ?_
      have eq : (own_n1 (own_tab a1 a2 a3 a4) r) ((own_tab a1 a2 a3 a4) ((own_tab a1 a2 a3 a4) r)) = ((own_tab a1 a2 a3 a4) ((own_tab a1 a2 a3 a4) r)) := hP.2.1 _ _ (ql1 _) (tl _) (own_inj (hP.1 _ (ql1 _)) (hP.1 _ (tl _)) c5)
      exact s_retI C d2_25 (by decide) (by decide) ⟨congrArg (fun n => ofN (P n)) (own_stop1 la lb lc ld hr nq0 eq).1, Kp4, (own_upd F (P r) (P ((own_tab a1 a2 a3 a4) ((own_tab a1 a2 a3 a4) r)))), A2, fun i hi => by rw [hG1 i hi, (own_stop1 la lb lc ld hr nq0 eq).2 i hi]⟩
    · skip
      have nq1 : ¬ (own_n1 (own_tab a1 a2 a3 a4) r) ((own_tab a1 a2 a3 a4) ((own_tab a1 a2 a3 a4) r)) = ((own_tab a1 a2 a3 a4) ((own_tab a1 a2 a3 a4) r)) := fun q => c5 (congrArg (fun n => ofN (P n)) q)
      refine s_aloadN C d2_9 (pc' := 10) rfl rfl rfl ?_
      refine s_iloadN C d2_10 (pc' := 11) rfl rfl ?_
      refine s_aloadN C d2_11 (pc' := 12) rfl rfl rfl ?_
      refine s_aloadN C d2_12 (pc' := 13) rfl rfl rfl ?_
      refine s_iloadN C d2_13 (pc' := 14) rfl rfl ?_
      refine s_iaload C d2_14 (pc' := 15) rfl A2 (P ((own_tab a1 a2 a3 a4) ((own_tab a1 a2 a3 a4) r))) (own_oi (hP.1 _ (tl _))) ((own_get (own_upd F (P r) (P ((own_tab a1 a2 a3 a4) ((own_tab a1 a2 a3 a4) r)))) _ (hP.1 _ (tl _))).trans (by rw [hG1 _ (tl _)])) ?_
      refine s_iaload C d2_15 (pc' := 16) rfl A2 (P ((own_n1 (own_tab a1 a2 a3 a4) r) ((own_tab a1 a2 a3 a4) ((own_tab a1 a2 a3 a4) r)))) (own_oi (hP.1 _ (ql1 _))) ((own_get (own_upd F (P r) (P ((own_tab a1 a2 a3 a4) ((own_tab a1 a2 a3 a4) r)))) _ (hP.1 _ (ql1 _))).trans (by rw [hG1 _ (ql1 _)])) ?_
      have hF2 := own_upF (x := ((own_tab a1 a2 a3 a4) ((own_tab a1 a2 a3 a4) r))) (y := (own_n1 (own_tab a1 a2 a3 a4) r) ((own_n1 (own_tab a1 a2 a3 a4) r) ((own_tab a1 a2 a3 a4) ((own_tab a1 a2 a3 a4) r)))) hP hG1 (tl _)
      have ql2 : ∀ i, (own_n1 (own_n1 (own_tab a1 a2 a3 a4) r) ((own_tab a1 a2 a3 a4) ((own_tab a1 a2 a3 a4) r))) i < 5 := own_n1lt ql1 ((own_tab a1 a2 a3 a4) ((own_tab a1 a2 a3 a4) r))
      have hG2 : ∀ i, i < 5 → (own_upd (own_upd F (P r) (P ((own_tab a1 a2 a3 a4) ((own_tab a1 a2 a3 a4) r)))) (P ((own_tab a1 a2 a3 a4) ((own_tab a1 a2 a3 a4) r))) (P ((own_n1 (own_tab a1 a2 a3 a4) r) ((own_n1 (own_tab a1 a2 a3 a4) r) ((own_tab a1 a2 a3 a4) ((own_tab a1 a2 a3 a4) r)))))) (P i) = P ((own_n1 (own_n1 (own_tab a1 a2 a3 a4) r) ((own_tab a1 a2 a3 a4) ((own_tab a1 a2 a3 a4) r))) i) := hF2
      refine s_iastore C d2_16 (pc' := 17) rfl A2 (P ((own_tab a1 a2 a3 a4) ((own_tab a1 a2 a3 a4) r))) (own_oi (hP.1 _ (tl _))) (hP.1 _ (tl _)) g_a (own_A (own_upd (own_upd F (P r) (P ((own_tab a1 a2 a3 a4) ((own_tab a1 a2 a3 a4) r)))) (P ((own_tab a1 a2 a3 a4) ((own_tab a1 a2 a3 a4) r))) (P ((own_n1 (own_tab a1 a2 a3 a4) r) ((own_n1 (own_tab a1 a2 a3 a4) r) ((own_tab a1 a2 a3 a4) ((own_tab a1 a2 a3 a4) r))))))) (own_set _ _ _ (hP.1 _ (tl _))) (fun h6 W6 A6 => ?_)
      have sz7 : n0 ≤ h6.size := (Nat.le_trans sz3 (Nat.le_of_eq W6.size.symm))
      have Kp8 : Keep h0 h6 [pa] := Kp4.wr W6 (Or.inl (List.mem_of_getElem? (i := 0) rfl))
      refine s_aloadN C d2_17 (pc' := 18) rfl rfl rfl ?_
      refine s_iloadN C d2_18 (pc' := 19) rfl rfl ?_
      refine s_iaload C d2_19 (pc' := 20) rfl A6 (P ((own_tab a1 a2 a3 a4) ((own_tab a1 a2 a3 a4) r))) (own_oi (hP.1 _ (tl _))) ((own_get (own_upd (own_upd F (P r) (P ((own_tab a1 a2 a3 a4) ((own_tab a1 a2 a3 a4) r)))) (P ((own_tab a1 a2 a3 a4) ((own_tab a1 a2 a3 a4) r))) (P ((own_n1 (own_tab a1 a2 a3 a4) r) ((own_n1 (own_tab a1 a2 a3 a4) r) ((own_tab a1 a2 a3 a4) ((own_tab a1 a2 a3 a4) r)))))) _ (hP.1 _ (tl _))).trans (by unfold own_upd; rw [if_pos rfl])) ?_
      refine s_istoreNP C d2_20 (pc' := 21) rfl #[.val (.ref pa), .val (.int (ofN (P r))), .val (.int (ofN (P ((own_n1 (own_tab a1 a2 a3 a4) r) ((own_n1 (own_tab a1 a2 a3 a4) r) ((own_tab a1 a2 a3 a4) ((own_tab a1 a2 a3 a4) r)))))))] rfl ?_
      refine s_goto C d2_21 (pc' := 2) rfl ?_
      refine s_aloadN C d2_2 (pc' := 3) rfl rfl rfl ?_
      refine s_iloadN C d2_3 (pc' := 4) rfl rfl ?_
      refine s_iaload C d2_4 (pc' := 5) rfl A6 (P ((own_n1 (own_tab a1 a2 a3 a4) r) ((own_n1 (own_tab a1 a2 a3 a4) r) ((own_tab a1 a2 a3 a4) ((own_tab a1 a2 a3 a4) r))))) (own_oi (hP.1 _ (ql1 _))) ((own_get (own_upd (own_upd F (P r) (P ((own_tab a1 a2 a3 a4) ((own_tab a1 a2 a3 a4) r)))) (P ((own_tab a1 a2 a3 a4) ((own_tab a1 a2 a3 a4) r))) (P ((own_n1 (own_tab a1 a2 a3 a4) r) ((own_n1 (own_tab a1 a2 a3 a4) r) ((own_tab a1 a2 a3 a4) ((own_tab a1 a2 a3 a4) r)))))) _ (hP.1 _ (ql1 _))).trans (by rw [hG2 _ (ql1 _)])) ?_
      refine s_iloadN C d2_5 (pc' := 6) rfl rfl ?_
      refine s_icmp_eq C d2_6 (pc' := 9) rfl (pcY := 24) rfl (fun c9 => ?_) (fun hc => by exfalso; exact hc (congrArg (fun n => ofN (P n)) (own_stop2 la lb lc ld hr nq0 nq1).1))
      refine s_iloadN C d2_24 (pc' := 25) rfl rfl ?_
      exact s_retI C d2_25 (by decide) (by decide) ⟨congrArg (fun n => ofN (P n)) (own_stop2 la lb lc ld hr nq0 nq1).2.1, Kp8, (own_upd (own_upd F (P r) (P ((own_tab a1 a2 a3 a4) ((own_tab a1 a2 a3 a4) r)))) (P ((own_tab a1 a2 a3 a4) ((own_tab a1 a2 a3 a4) r))) (P ((own_n1 (own_tab a1 a2 a3 a4) r) ((own_n1 (own_tab a1 a2 a3 a4) r) ((own_tab a1 a2 a3 a4) ((own_tab a1 a2 a3 a4) r)))))), A6, fun i hi => by rw [hG2 i hi, (own_stop2 la lb lc ld hr nq0 nq1).2.2 i hi]⟩
set_option maxRecDepth 65536 in
set_option maxHeartbeats 40000000 in
theorem law (l : Launch) (Z : State) (a0 : Array Value) (hw : Hw a0 Z) (x1 x2 x3 : Int32) (h0 : Heap) (n0 : Nat) (Z0 : n0 ≤ h0.size)  :
    Met l Z x code maxLocals ret tables_1 room_1 #[(.int x1), (.int x2), (.int x3)] h0 n0 (RetI (fun z h => z = 1)) := by
  refine Met.intro pn0 (own := "com/example/chasm/chasm/model/AtomRootPinLaw") rfl (nm := "law") rfl (fun m => ef0 m x1 x2 x3) ?_
  intro p e s m below meth c C
  refine s_iloadN C at_0 (pc' := 1) rfl rfl ?_
  refine s_ldc C at_1 (pc' := 3) rfl (w0 hw) ?_
  refine s_iand C at_3 (pc' := 4) rfl ?_
  obtain ⟨v1, hv1⟩ : ∃ y, y = (x1 &&& (2147483647 : Int32)) := ⟨_, rfl⟩
  rw [← hv1]
  have nv1 : 0 ≤ v1.toInt := by rw [hv1]; exact own_msk _
  refine s_istoreNP C at_4 (pc' := 5) rfl #[.val (.int x1), .val (.int x2), .val (.int x3), .val (.int v1), .unset, .unset, .unset, .unset, .unset, .unset, .unset, .unset, .unset, .unset] rfl ?_
  refine s_iconst C at_5 (pc' := 6) rfl (5 : Int32) rfl ?_
  refine s_newarr C (cap := 5) at_6 (pc' := 8) rfl (w1 hw) (by decide) (by decide) (by decide) (k' := 1) rfl (by decide) (n' := 5) rfl (by decide) [(.int (0 : Int32)), (.int (0 : Int32)), (.int (0 : Int32)), (.int (0 : Int32)), (.int (0 : Int32))] rfl (fun h2 a2 E2 g2 A2 => ?_)
  have gn3 : n0 ≤ a2 := by rw [g2]; exact Z0
  have sz4 : n0 ≤ h2.size := (Nat.le_trans Z0 E2.1)
  refine s_astore C at_8 (pc' := 10) rfl rfl #[.val (.int x1), .val (.int x2), .val (.int x3), .val (.int v1), .val (.ref a2), .unset, .unset, .unset, .unset, .unset, .unset, .unset, .unset, .unset] rfl ?_
  refine s_aload C at_10 (pc' := 12) rfl rfl rfl ?_
  refine s_iconst C at_12 (pc' := 13) rfl (0 : Int32) rfl ?_
  refine s_iconst C at_13 (pc' := 14) rfl (0 : Int32) rfl ?_
  refine s_iastore C at_14 (pc' := 15) rfl A2 0 (by decide) (Nat.le_of_ble_eq_true rfl) gn3 [(.int (0 : Int32)), (.int (0 : Int32)), (.int (0 : Int32)), (.int (0 : Int32)), (.int (0 : Int32))] rfl (fun h5 W5 A5 => ?_)
  have sz6 : n0 ≤ h5.size := (Nat.le_trans sz4 (Nat.le_of_eq W5.size.symm))
  refine s_aload C at_15 (pc' := 17) rfl rfl rfl ?_
  refine s_iconst C at_17 (pc' := 18) rfl (1 : Int32) rfl ?_
  refine s_iloadN C at_18 (pc' := 19) rfl rfl ?_
  refine s_iconst C at_19 (pc' := 20) rfl (2 : Int32) rfl ?_
  refine s_irem C at_20 (pc' := 21) rfl (by decide) ?_
  obtain ⟨q1, hq1, lq1⟩ := own_mod (2 : Int32) 2 (by decide) (by decide) (by decide) nv1
  rw [hq1]
  refine s_iastore C at_21 (pc' := 22) rfl A5 1 (by decide) (Nat.le_of_ble_eq_true rfl) gn3 [(.int (0 : Int32)), (.int (ofN q1)), (.int (0 : Int32)), (.int (0 : Int32)), (.int (0 : Int32))] rfl (fun h7 W7 A7 => ?_)
  have sz8 : n0 ≤ h7.size := (Nat.le_trans sz6 (Nat.le_of_eq W7.size.symm))
  refine s_iloadN C at_22 (pc' := 23) rfl rfl ?_
  refine s_iconst C at_23 (pc' := 24) rfl (2 : Int32) rfl ?_
  refine s_idiv C at_24 (pc' := 25) rfl (by decide) ?_
  obtain ⟨v9, hv9⟩ : ∃ y, y = (v1 / (2 : Int32)) := ⟨_, rfl⟩
  rw [← hv9]
  have nv9 : 0 ≤ v9.toInt := by rw [hv9]; exact own_dv _ (by decide) nv1
  refine s_istoreNP C at_25 (pc' := 26) rfl #[.val (.int x1), .val (.int x2), .val (.int x3), .val (.int v9), .val (.ref a2), .unset, .unset, .unset, .unset, .unset, .unset, .unset, .unset, .unset] rfl ?_
  refine s_aload C at_26 (pc' := 28) rfl rfl rfl ?_
  refine s_iconst C at_28 (pc' := 29) rfl (2 : Int32) rfl ?_
  refine s_iloadN C at_29 (pc' := 30) rfl rfl ?_
  refine s_iconst C at_30 (pc' := 31) rfl (3 : Int32) rfl ?_
  refine s_irem C at_31 (pc' := 32) rfl (by decide) ?_
  obtain ⟨q2, hq2, lq2⟩ := own_mod (3 : Int32) 3 (by decide) (by decide) (by decide) nv9
  rw [hq2]
  refine s_iastore C at_32 (pc' := 33) rfl A7 2 (by decide) (Nat.le_of_ble_eq_true rfl) gn3 [(.int (0 : Int32)), (.int (ofN q1)), (.int (ofN q2)), (.int (0 : Int32)), (.int (0 : Int32))] rfl (fun h10 W10 A10 => ?_)
  have sz11 : n0 ≤ h10.size := (Nat.le_trans sz8 (Nat.le_of_eq W10.size.symm))
  refine s_iloadN C at_33 (pc' := 34) rfl rfl ?_
  refine s_iconst C at_34 (pc' := 35) rfl (3 : Int32) rfl ?_
  refine s_idiv C at_35 (pc' := 36) rfl (by decide) ?_
  obtain ⟨v12, hv12⟩ : ∃ y, y = (v9 / (3 : Int32)) := ⟨_, rfl⟩
  rw [← hv12]
  have nv12 : 0 ≤ v12.toInt := by rw [hv12]; exact own_dv _ (by decide) nv9
  refine s_istoreNP C at_36 (pc' := 37) rfl #[.val (.int x1), .val (.int x2), .val (.int x3), .val (.int v12), .val (.ref a2), .unset, .unset, .unset, .unset, .unset, .unset, .unset, .unset, .unset] rfl ?_
  refine s_aload C at_37 (pc' := 39) rfl rfl rfl ?_
  refine s_iconst C at_39 (pc' := 40) rfl (3 : Int32) rfl ?_
  refine s_iloadN C at_40 (pc' := 41) rfl rfl ?_
  refine s_iconst C at_41 (pc' := 42) rfl (4 : Int32) rfl ?_
  refine s_irem C at_42 (pc' := 43) rfl (by decide) ?_
  obtain ⟨q3, hq3, lq3⟩ := own_mod (4 : Int32) 4 (by decide) (by decide) (by decide) nv12
  rw [hq3]
  refine s_iastore C at_43 (pc' := 44) rfl A10 3 (by decide) (Nat.le_of_ble_eq_true rfl) gn3 [(.int (0 : Int32)), (.int (ofN q1)), (.int (ofN q2)), (.int (ofN q3)), (.int (0 : Int32))] rfl (fun h13 W13 A13 => ?_)
  have sz14 : n0 ≤ h13.size := (Nat.le_trans sz11 (Nat.le_of_eq W13.size.symm))
  refine s_iloadN C at_44 (pc' := 45) rfl rfl ?_
  refine s_iconst C at_45 (pc' := 46) rfl (4 : Int32) rfl ?_
  refine s_idiv C at_46 (pc' := 47) rfl (by decide) ?_
  obtain ⟨v15, hv15⟩ : ∃ y, y = (v12 / (4 : Int32)) := ⟨_, rfl⟩
  rw [← hv15]
  have nv15 : 0 ≤ v15.toInt := by rw [hv15]; exact own_dv _ (by decide) nv12
  refine s_istoreNP C at_47 (pc' := 48) rfl #[.val (.int x1), .val (.int x2), .val (.int x3), .val (.int v15), .val (.ref a2), .unset, .unset, .unset, .unset, .unset, .unset, .unset, .unset, .unset] rfl ?_
  refine s_aload C at_48 (pc' := 50) rfl rfl rfl ?_
  refine s_iconst C at_50 (pc' := 51) rfl (4 : Int32) rfl ?_
  refine s_iloadN C at_51 (pc' := 52) rfl rfl ?_
  refine s_iconst C at_52 (pc' := 53) rfl (5 : Int32) rfl ?_
  refine s_irem C at_53 (pc' := 54) rfl (by decide) ?_
  obtain ⟨q4, hq4, lq4⟩ := own_mod (5 : Int32) 5 (by decide) (by decide) (by decide) nv15
  rw [hq4]
  refine s_iastore C at_54 (pc' := 55) rfl A13 4 (by decide) (Nat.le_of_ble_eq_true rfl) gn3 [(.int (0 : Int32)), (.int (ofN q1)), (.int (ofN q2)), (.int (ofN q3)), (.int (ofN q4))] rfl (fun h16 W16 A16 => ?_)
  have sz17 : n0 ≤ h16.size := (Nat.le_trans sz14 (Nat.le_of_eq W16.size.symm))
  have Vq : Av Z h16 a2 .int (own_A (own_tab q1 q2 q3 q4)) := A16
  have tl := own_tlt lq1 lq2 lq3 lq4
  refine s_iloadN C at_55 (pc' := 56) rfl rfl ?_
  refine s_ldc C at_56 (pc' := 58) rfl (w0 hw) ?_
  refine s_iand C at_58 (pc' := 59) rfl ?_
  obtain ⟨v18, hv18⟩ : ∃ y, y = (x2 &&& (2147483647 : Int32)) := ⟨_, rfl⟩
  rw [← hv18]
  have nv18 : 0 ≤ v18.toInt := by rw [hv18]; exact own_msk _
  refine s_istoreP C at_59 (pc' := 61) rfl #[.val (.int x1), .val (.int x2), .val (.int x3), .val (.int v15), .val (.ref a2), .val (.int v18), .unset, .unset, .unset, .unset, .unset, .unset, .unset, .unset] rfl ?_
  refine s_iconst C at_61 (pc' := 62) rfl (5 : Int32) rfl ?_
  refine s_newarr C (cap := 5) at_62 (pc' := 64) rfl (w1 hw) (by decide) (by decide) (by decide) (k' := 2) rfl (by decide) (n' := 10) rfl (by decide) [(.int (0 : Int32)), (.int (0 : Int32)), (.int (0 : Int32)), (.int (0 : Int32)), (.int (0 : Int32))] rfl (fun h19 a19 E19 g19 A19 => ?_)
  have ne20 : a2 ≠ a19 := Nat.ne_of_lt (by rw [g19]; exact Vq.lt)
  have gn21 : n0 ≤ a19 := by rw [g19]; exact sz17
  have sz22 : n0 ≤ h19.size := (Nat.le_trans sz17 E19.1)
  refine s_dup C at_64 (pc' := 65) rfl rfl ?_
  refine s_iconst C at_65 (pc' := 66) rfl (0 : Int32) rfl ?_
  refine s_iconst C at_66 (pc' := 67) rfl (0 : Int32) rfl ?_
  refine s_iastore C at_67 (pc' := 68) rfl A19 0 (by decide) (Nat.le_of_ble_eq_true rfl) gn21 [(.int (0 : Int32)), (.int (0 : Int32)), (.int (0 : Int32)), (.int (0 : Int32)), (.int (0 : Int32))] rfl (fun h23 W23 A23 => ?_)
  have sz24 : n0 ≤ h23.size := (Nat.le_trans sz22 (Nat.le_of_eq W23.size.symm))
  refine s_dup C at_68 (pc' := 69) rfl rfl ?_
  refine s_iconst C at_69 (pc' := 70) rfl (1 : Int32) rfl ?_
  refine s_iconst C at_70 (pc' := 71) rfl (1 : Int32) rfl ?_
  refine s_iastore C at_71 (pc' := 72) rfl A23 1 (by decide) (Nat.le_of_ble_eq_true rfl) gn21 [(.int (0 : Int32)), (.int (1 : Int32)), (.int (0 : Int32)), (.int (0 : Int32)), (.int (0 : Int32))] rfl (fun h25 W25 A25 => ?_)
  have sz26 : n0 ≤ h25.size := (Nat.le_trans sz24 (Nat.le_of_eq W25.size.symm))
  refine s_dup C at_72 (pc' := 73) rfl rfl ?_
  refine s_iconst C at_73 (pc' := 74) rfl (2 : Int32) rfl ?_
  refine s_iconst C at_74 (pc' := 75) rfl (2 : Int32) rfl ?_
  refine s_iastore C at_75 (pc' := 76) rfl A25 2 (by decide) (Nat.le_of_ble_eq_true rfl) gn21 [(.int (0 : Int32)), (.int (1 : Int32)), (.int (2 : Int32)), (.int (0 : Int32)), (.int (0 : Int32))] rfl (fun h27 W27 A27 => ?_)
  have sz28 : n0 ≤ h27.size := (Nat.le_trans sz26 (Nat.le_of_eq W27.size.symm))
  refine s_dup C at_76 (pc' := 77) rfl rfl ?_
  refine s_iconst C at_77 (pc' := 78) rfl (3 : Int32) rfl ?_
  refine s_iconst C at_78 (pc' := 79) rfl (3 : Int32) rfl ?_
  refine s_iastore C at_79 (pc' := 80) rfl A27 3 (by decide) (Nat.le_of_ble_eq_true rfl) gn21 [(.int (0 : Int32)), (.int (1 : Int32)), (.int (2 : Int32)), (.int (3 : Int32)), (.int (0 : Int32))] rfl (fun h29 W29 A29 => ?_)
  have sz30 : n0 ≤ h29.size := (Nat.le_trans sz28 (Nat.le_of_eq W29.size.symm))
  refine s_dup C at_80 (pc' := 81) rfl rfl ?_
  refine s_iconst C at_81 (pc' := 82) rfl (4 : Int32) rfl ?_
  refine s_iconst C at_82 (pc' := 83) rfl (4 : Int32) rfl ?_
  refine s_iastore C at_83 (pc' := 84) rfl A29 4 (by decide) (Nat.le_of_ble_eq_true rfl) gn21 [(.int (0 : Int32)), (.int (1 : Int32)), (.int (2 : Int32)), (.int (3 : Int32)), (.int (4 : Int32))] rfl (fun h31 W31 A31 => ?_)
  have sz32 : n0 ≤ h31.size := (Nat.le_trans sz30 (Nat.le_of_eq W31.size.symm))
  refine s_astore C at_84 (pc' := 86) rfl rfl #[.val (.int x1), .val (.int x2), .val (.int x3), .val (.int v15), .val (.ref a2), .val (.int v18), .val (.ref a19), .unset, .unset, .unset, .unset, .unset, .unset, .unset] rfl ?_
  have Vp : Av Z h31 a19 .int (own_A (fun i => i)) := A31
  refine s_aload C at_86 (pc' := 88) rfl rfl rfl ?_
  refine s_iconst C at_88 (pc' := 89) rfl (4 : Int32) rfl ?_
  refine s_iload C at_89 (pc' := 91) rfl rfl ?_
  refine s_iconst C at_91 (pc' := 92) rfl (5 : Int32) rfl ?_
  refine s_irem C at_92 (pc' := 93) rfl (by decide) ?_
  obtain ⟨j4, hj4, lj4⟩ := own_mod (5 : Int32) 5 (by decide) (by decide) (by decide) nv18
  rw [hj4]
  refine s_callS0 C at_93 (pc' := 96) rfl (w2 hw) (w3 hw) (w4 hw) (w5 hw) (by decide) [(.ref a19), (.int (4 : Int32)), (.int (ofN j4))] [] pd1 rfl rfl (c_swap l Z a0 hw a19 (4 : Int32) (ofN j4) (fun i => i) 4 j4 h31 n0 sz32 (by decide) (own_oi (Nat.lt_of_lt_of_le lj4 (by decide))) (by decide) (Nat.lt_of_lt_of_le lj4 (by decide)) gn21 Vp) rfl (W := 0) rfl (by decide) (by decide) (k' := 2) rfl (by decide) (n' := 10) rfl (by decide) (fun h33 q33 => ?_)
  obtain ⟨K33, V33⟩ := q33
  have sz34 : n0 ≤ h33.size := (Nat.le_trans sz32 K33.1)
  refine s_iload C at_96 (pc' := 98) rfl rfl ?_
  refine s_iconst C at_98 (pc' := 99) rfl (5 : Int32) rfl ?_
  refine s_idiv C at_99 (pc' := 100) rfl (by decide) ?_
  obtain ⟨v35, hv35⟩ : ∃ y, y = (v18 / (5 : Int32)) := ⟨_, rfl⟩
  rw [← hv35]
  have nv35 : 0 ≤ v35.toInt := by rw [hv35]; exact own_dv _ (by decide) nv18
  refine s_istoreP C at_100 (pc' := 102) rfl #[.val (.int x1), .val (.int x2), .val (.int x3), .val (.int v15), .val (.ref a2), .val (.int v35), .val (.ref a19), .unset, .unset, .unset, .unset, .unset, .unset, .unset] rfl ?_
  refine s_aload C at_102 (pc' := 104) rfl rfl rfl ?_
  refine s_iconst C at_104 (pc' := 105) rfl (3 : Int32) rfl ?_
  refine s_iload C at_105 (pc' := 107) rfl rfl ?_
  refine s_iconst C at_107 (pc' := 108) rfl (4 : Int32) rfl ?_
  refine s_irem C at_108 (pc' := 109) rfl (by decide) ?_
  obtain ⟨j3, hj3, lj3⟩ := own_mod (4 : Int32) 4 (by decide) (by decide) (by decide) nv35
  rw [hj3]
  refine s_callS0 C at_109 (pc' := 112) rfl (w2 hw) (w3 hw) (w4 hw) (w5 hw) (by decide) [(.ref a19), (.int (3 : Int32)), (.int (ofN j3))] [] pd1 rfl rfl (c_swap l Z a0 hw a19 (3 : Int32) (ofN j3) (own_swap (fun i => i) 4 j4) 3 j3 h33 n0 sz34 (by decide) (own_oi (Nat.lt_of_lt_of_le lj3 (by decide))) (by decide) (Nat.lt_of_lt_of_le lj3 (by decide)) gn21 V33) rfl (W := 0) rfl (by decide) (by decide) (k' := 2) rfl (by decide) (n' := 10) rfl (by decide) (fun h36 q36 => ?_)
  obtain ⟨K36, V36⟩ := q36
  have sz37 : n0 ≤ h36.size := (Nat.le_trans sz34 K36.1)
  refine s_iload C at_112 (pc' := 114) rfl rfl ?_
  refine s_iconst C at_114 (pc' := 115) rfl (4 : Int32) rfl ?_
  refine s_idiv C at_115 (pc' := 116) rfl (by decide) ?_
  obtain ⟨v38, hv38⟩ : ∃ y, y = (v35 / (4 : Int32)) := ⟨_, rfl⟩
  rw [← hv38]
  have nv38 : 0 ≤ v38.toInt := by rw [hv38]; exact own_dv _ (by decide) nv35
  refine s_istoreP C at_116 (pc' := 118) rfl #[.val (.int x1), .val (.int x2), .val (.int x3), .val (.int v15), .val (.ref a2), .val (.int v38), .val (.ref a19), .unset, .unset, .unset, .unset, .unset, .unset, .unset] rfl ?_
  refine s_aload C at_118 (pc' := 120) rfl rfl rfl ?_
  refine s_iconst C at_120 (pc' := 121) rfl (2 : Int32) rfl ?_
  refine s_iload C at_121 (pc' := 123) rfl rfl ?_
  refine s_iconst C at_123 (pc' := 124) rfl (3 : Int32) rfl ?_
  refine s_irem C at_124 (pc' := 125) rfl (by decide) ?_
  obtain ⟨j2, hj2, lj2⟩ := own_mod (3 : Int32) 3 (by decide) (by decide) (by decide) nv38
  rw [hj2]
  refine s_callS0 C at_125 (pc' := 128) rfl (w2 hw) (w3 hw) (w4 hw) (w5 hw) (by decide) [(.ref a19), (.int (2 : Int32)), (.int (ofN j2))] [] pd1 rfl rfl (c_swap l Z a0 hw a19 (2 : Int32) (ofN j2) (own_swap (own_swap (fun i => i) 4 j4) 3 j3) 2 j2 h36 n0 sz37 (by decide) (own_oi (Nat.lt_of_lt_of_le lj2 (by decide))) (by decide) (Nat.lt_of_lt_of_le lj2 (by decide)) gn21 V36) rfl (W := 0) rfl (by decide) (by decide) (k' := 2) rfl (by decide) (n' := 10) rfl (by decide) (fun h39 q39 => ?_)
  obtain ⟨K39, V39⟩ := q39
  have sz40 : n0 ≤ h39.size := (Nat.le_trans sz37 K39.1)
  refine s_iload C at_128 (pc' := 130) rfl rfl ?_
  refine s_iconst C at_130 (pc' := 131) rfl (3 : Int32) rfl ?_
  refine s_idiv C at_131 (pc' := 132) rfl (by decide) ?_
  obtain ⟨v41, hv41⟩ : ∃ y, y = (v38 / (3 : Int32)) := ⟨_, rfl⟩
  rw [← hv41]
  have nv41 : 0 ≤ v41.toInt := by rw [hv41]; exact own_dv _ (by decide) nv38
  refine s_istoreP C at_132 (pc' := 134) rfl #[.val (.int x1), .val (.int x2), .val (.int x3), .val (.int v15), .val (.ref a2), .val (.int v41), .val (.ref a19), .unset, .unset, .unset, .unset, .unset, .unset, .unset] rfl ?_
  refine s_aload C at_134 (pc' := 136) rfl rfl rfl ?_
  refine s_iconst C at_136 (pc' := 137) rfl (1 : Int32) rfl ?_
  refine s_iload C at_137 (pc' := 139) rfl rfl ?_
  refine s_iconst C at_139 (pc' := 140) rfl (2 : Int32) rfl ?_
  refine s_irem C at_140 (pc' := 141) rfl (by decide) ?_
  obtain ⟨j1, hj1, lj1⟩ := own_mod (2 : Int32) 2 (by decide) (by decide) (by decide) nv41
  rw [hj1]
  refine s_callS0 C at_141 (pc' := 144) rfl (w2 hw) (w3 hw) (w4 hw) (w5 hw) (by decide) [(.ref a19), (.int (1 : Int32)), (.int (ofN j1))] [] pd1 rfl rfl (c_swap l Z a0 hw a19 (1 : Int32) (ofN j1) (own_swap (own_swap (own_swap (fun i => i) 4 j4) 3 j3) 2 j2) 1 j1 h39 n0 sz40 (by decide) (own_oi (Nat.lt_of_lt_of_le lj1 (by decide))) (by decide) (Nat.lt_of_lt_of_le lj1 (by decide)) gn21 V39) rfl (W := 0) rfl (by decide) (by decide) (k' := 2) rfl (by decide) (n' := 10) rfl (by decide) (fun h42 q42 => ?_)
  obtain ⟨K42, V42⟩ := q42
  have sz43 : n0 ≤ h42.size := (Nat.le_trans sz40 K42.1)
  obtain ⟨P, ePP, hP⟩ : ∃ P, P = (own_swap (own_swap (own_swap (own_swap (fun i => i) 4 j4) 3 j3) 2 j2) 1 j1) ∧ own_perm P := ⟨_, rfl, (own_perm_swap (own_perm_swap (own_perm_swap (own_perm_swap own_id (by decide) (Nat.lt_of_lt_of_le lj4 (by decide))) (by decide) (Nat.lt_of_lt_of_le lj3 (by decide))) (by decide) (Nat.lt_of_lt_of_le lj2 (by decide))) (by decide) (Nat.lt_of_lt_of_le lj1 (by decide)))⟩
  rw [← ePP] at V42
  refine s_iloadN C at_144 (pc' := 145) rfl rfl ?_
  refine s_ldc C at_145 (pc' := 147) rfl (w0 hw) ?_
  refine s_iand C at_147 (pc' := 148) rfl ?_
  refine s_iconst C at_148 (pc' := 149) rfl (5 : Int32) rfl ?_
  refine s_irem C at_149 (pc' := 150) rfl (by decide) ?_
  obtain ⟨r, hr, lr⟩ := own_mod (5 : Int32) 5 (by decide) (by decide) (by decide) (own_msk _)
  rw [hr]
  refine s_istoreP C at_150 (pc' := 152) rfl #[.val (.int x1), .val (.int x2), .val (.int x3), .val (.int v15), .val (.ref a2), .val (.int v41), .val (.ref a19), .val (.int (ofN r)), .unset, .unset, .unset, .unset, .unset, .unset] rfl ?_
  refine s_iconst C at_152 (pc' := 153) rfl (5 : Int32) rfl ?_
  refine s_newarr C (cap := 5) at_153 (pc' := 155) rfl (w1 hw) (by decide) (by decide) (by decide) (k' := 3) rfl (by decide) (n' := 15) rfl (by decide) [(.int (0 : Int32)), (.int (0 : Int32)), (.int (0 : Int32)), (.int (0 : Int32)), (.int (0 : Int32))] rfl (fun h44 a44 E44 g44 A44 => ?_)
  have ne45 : a19 ≠ a44 := Nat.ne_of_lt (by rw [g44]; exact V42.lt)
  have Vx46 := ((((((((((Vq.ext E19).other W23 ne20).other W25 ne20).other W27 ne20).other W29 ne20).other W31 ne20).keep K33 (ninS ne20 nin0)).keep K36 (ninS ne20 nin0)).keep K39 (ninS ne20 nin0)).keep K42 (ninS ne20 nin0))
  have ne47 : a2 ≠ a44 := Nat.ne_of_lt (by rw [g44]; exact Vx46.lt)
  have gn48 : n0 ≤ a44 := by rw [g44]; exact sz43
  have sz49 : n0 ≤ h44.size := (Nat.le_trans sz43 E44.1)
  refine s_astore C at_155 (pc' := 157) rfl rfl #[.val (.int x1), .val (.int x2), .val (.int x3), .val (.int v15), .val (.ref a2), .val (.int v41), .val (.ref a19), .val (.int (ofN r)), .val (.ref a44), .unset, .unset, .unset, .unset, .unset] rfl ?_
  refine s_iconst C at_157 (pc' := 158) rfl (5 : Int32) rfl ?_
  refine s_newarr C (cap := 5) at_158 (pc' := 160) rfl (w1 hw) (by decide) (by decide) (by decide) (k' := 4) rfl (by decide) (n' := 20) rfl (by decide) [(.int (0 : Int32)), (.int (0 : Int32)), (.int (0 : Int32)), (.int (0 : Int32)), (.int (0 : Int32))] rfl (fun h50 a50 E50 g50 A50 => ?_)
  have Vx51 := (V42.ext E44)
  have ne52 : a19 ≠ a50 := Nat.ne_of_lt (by rw [g50]; exact Vx51.lt)
  have Vx53 := (Vx46.ext E44)
  have ne54 : a2 ≠ a50 := Nat.ne_of_lt (by rw [g50]; exact Vx53.lt)
  have ne55 : a44 ≠ a50 := Nat.ne_of_lt (by rw [g50]; exact A44.lt)
  have gn56 : n0 ≤ a50 := by rw [g50]; exact sz49
  have sz57 : n0 ≤ h50.size := (Nat.le_trans sz49 E50.1)
  refine s_astore C at_160 (pc' := 162) rfl rfl #[.val (.int x1), .val (.int x2), .val (.int x3), .val (.int v15), .val (.ref a2), .val (.int v41), .val (.ref a19), .val (.int (ofN r)), .val (.ref a44), .val (.ref a50), .unset, .unset, .unset, .unset] rfl ?_
  have Vx58 := (A44.ext E50)
  have Va : Av Z h50 a44 .int (own_A (fun _ => 0)) := Vx58
  have Vb : Av Z h50 a50 .int (own_A (fun _ => 0)) := A50
  refine s_aload C at_162 (pc' := 164) rfl rfl rfl ?_
  refine s_aload C at_164 (pc' := 166) rfl rfl rfl ?_
  refine s_iconst C at_166 (pc' := 167) rfl (0 : Int32) rfl ?_
  have Vx59 := (Vx51.ext E50)
  refine s_iaload C at_167 (pc' := 168) rfl Vx59 0 (by decide) (own_get P _ (by decide : (0 : Nat) < 5)) ?_
  refine s_aload C at_168 (pc' := 170) rfl rfl rfl ?_
  refine s_aload C at_170 (pc' := 172) rfl rfl rfl ?_
  refine s_iconst C at_172 (pc' := 173) rfl (0 : Int32) rfl ?_
  have Vx60 := (Vx53.ext E50)
  refine s_iaload C at_173 (pc' := 174) rfl Vx60 0 (by decide) (own_get (own_tab q1 q2 q3 q4) _ (by decide : (0 : Nat) < 5)) ?_
  refine s_iaload C at_174 (pc' := 175) rfl Vx59 0 (own_oi (by decide : (0 : Nat) < 5)) (own_get P _ (by decide : (0 : Nat) < 5)) ?_
  refine s_iastore C at_175 (pc' := 176) rfl Va (P 0) (own_oi (hP.1 _ (by decide : (0 : Nat) < 5))) (hP.1 _ (by decide : (0 : Nat) < 5)) gn48 (own_A (own_upd (fun _ => 0) (P 0) (P 0))) (own_set _ _ _ (hP.1 _ (by decide : (0 : Nat) < 5))) (fun h61 W61 A61 => ?_)
  have sz62 : n0 ≤ h61.size := (Nat.le_trans sz57 (Nat.le_of_eq W61.size.symm))
  refine s_aload C at_176 (pc' := 178) rfl rfl rfl ?_
  refine s_aload C at_178 (pc' := 180) rfl rfl rfl ?_
  refine s_iconst C at_180 (pc' := 181) rfl (0 : Int32) rfl ?_
  have Vx63 := (Vx59.other W61 ne45)
  refine s_iaload C at_181 (pc' := 182) rfl Vx63 0 (by decide) (own_get P _ (by decide : (0 : Nat) < 5)) ?_
  refine s_aload C at_182 (pc' := 184) rfl rfl rfl ?_
  refine s_aload C at_184 (pc' := 186) rfl rfl rfl ?_
  refine s_iconst C at_186 (pc' := 187) rfl (0 : Int32) rfl ?_
  have Vx64 := (Vx60.other W61 ne47)
  refine s_iaload C at_187 (pc' := 188) rfl Vx64 0 (by decide) (own_get (own_tab q1 q2 q3 q4) _ (by decide : (0 : Nat) < 5)) ?_
  refine s_iaload C at_188 (pc' := 189) rfl Vx63 0 (own_oi (by decide : (0 : Nat) < 5)) (own_get P _ (by decide : (0 : Nat) < 5)) ?_
  have Vx66 := (Vb.other W61 (Ne.symm ne55))
  refine s_iastore C at_189 (pc' := 190) rfl Vx66 (P 0) (own_oi (hP.1 _ (by decide : (0 : Nat) < 5))) (hP.1 _ (by decide : (0 : Nat) < 5)) gn56 (own_A (own_upd (fun _ => 0) (P 0) (P 0))) (own_set _ _ _ (hP.1 _ (by decide : (0 : Nat) < 5))) (fun h65 W65 A65 => ?_)
  have sz67 : n0 ≤ h65.size := (Nat.le_trans sz62 (Nat.le_of_eq W65.size.symm))
  refine s_aload C at_190 (pc' := 192) rfl rfl rfl ?_
  refine s_aload C at_192 (pc' := 194) rfl rfl rfl ?_
  refine s_iconst C at_194 (pc' := 195) rfl (1 : Int32) rfl ?_
  have Vx68 := (Vx63.other W65 ne52)
  refine s_iaload C at_195 (pc' := 196) rfl Vx68 1 (by decide) (own_get P _ (by decide : (1 : Nat) < 5)) ?_
  refine s_aload C at_196 (pc' := 198) rfl rfl rfl ?_
  refine s_aload C at_198 (pc' := 200) rfl rfl rfl ?_
  refine s_iconst C at_200 (pc' := 201) rfl (1 : Int32) rfl ?_
  have Vx69 := (Vx64.other W65 ne54)
  refine s_iaload C at_201 (pc' := 202) rfl Vx69 1 (by decide) (own_get (own_tab q1 q2 q3 q4) _ (by decide : (1 : Nat) < 5)) ?_
  refine s_iaload C at_202 (pc' := 203) rfl Vx68 q1 (own_oi (Nat.lt_of_lt_of_le lq1 (by decide))) (own_get P _ (Nat.lt_of_lt_of_le lq1 (by decide))) ?_
  have Vx71 := (A61.other W65 ne55)
  refine s_iastore C at_203 (pc' := 204) rfl Vx71 (P 1) (own_oi (hP.1 _ (by decide : (1 : Nat) < 5))) (hP.1 _ (by decide : (1 : Nat) < 5)) gn48 (own_A (own_upd (own_upd (fun _ => 0) (P 0) (P 0)) (P 1) (P q1))) (own_set _ _ _ (hP.1 _ (by decide : (1 : Nat) < 5))) (fun h70 W70 A70 => ?_)
  have sz72 : n0 ≤ h70.size := (Nat.le_trans sz67 (Nat.le_of_eq W70.size.symm))
  refine s_aload C at_204 (pc' := 206) rfl rfl rfl ?_
  refine s_aload C at_206 (pc' := 208) rfl rfl rfl ?_
  refine s_iconst C at_208 (pc' := 209) rfl (1 : Int32) rfl ?_
  have Vx73 := (Vx68.other W70 ne45)
  refine s_iaload C at_209 (pc' := 210) rfl Vx73 1 (by decide) (own_get P _ (by decide : (1 : Nat) < 5)) ?_
  refine s_aload C at_210 (pc' := 212) rfl rfl rfl ?_
  refine s_aload C at_212 (pc' := 214) rfl rfl rfl ?_
  refine s_iconst C at_214 (pc' := 215) rfl (1 : Int32) rfl ?_
  have Vx74 := (Vx69.other W70 ne47)
  refine s_iaload C at_215 (pc' := 216) rfl Vx74 1 (by decide) (own_get (own_tab q1 q2 q3 q4) _ (by decide : (1 : Nat) < 5)) ?_
  refine s_iaload C at_216 (pc' := 217) rfl Vx73 q1 (own_oi (Nat.lt_of_lt_of_le lq1 (by decide))) (own_get P _ (Nat.lt_of_lt_of_le lq1 (by decide))) ?_
  have Vx76 := (A65.other W70 (Ne.symm ne55))
  refine s_iastore C at_217 (pc' := 218) rfl Vx76 (P 1) (own_oi (hP.1 _ (by decide : (1 : Nat) < 5))) (hP.1 _ (by decide : (1 : Nat) < 5)) gn56 (own_A (own_upd (own_upd (fun _ => 0) (P 0) (P 0)) (P 1) (P q1))) (own_set _ _ _ (hP.1 _ (by decide : (1 : Nat) < 5))) (fun h75 W75 A75 => ?_)
  have sz77 : n0 ≤ h75.size := (Nat.le_trans sz72 (Nat.le_of_eq W75.size.symm))
  refine s_aload C at_218 (pc' := 220) rfl rfl rfl ?_
  refine s_aload C at_220 (pc' := 222) rfl rfl rfl ?_
  refine s_iconst C at_222 (pc' := 223) rfl (2 : Int32) rfl ?_
  have Vx78 := (Vx73.other W75 ne52)
  refine s_iaload C at_223 (pc' := 224) rfl Vx78 2 (by decide) (own_get P _ (by decide : (2 : Nat) < 5)) ?_
  refine s_aload C at_224 (pc' := 226) rfl rfl rfl ?_
  refine s_aload C at_226 (pc' := 228) rfl rfl rfl ?_
  refine s_iconst C at_228 (pc' := 229) rfl (2 : Int32) rfl ?_
  have Vx79 := (Vx74.other W75 ne54)
  refine s_iaload C at_229 (pc' := 230) rfl Vx79 2 (by decide) (own_get (own_tab q1 q2 q3 q4) _ (by decide : (2 : Nat) < 5)) ?_
  refine s_iaload C at_230 (pc' := 231) rfl Vx78 q2 (own_oi (Nat.lt_of_lt_of_le lq2 (by decide))) (own_get P _ (Nat.lt_of_lt_of_le lq2 (by decide))) ?_
  have Vx81 := (A70.other W75 ne55)
  refine s_iastore C at_231 (pc' := 232) rfl Vx81 (P 2) (own_oi (hP.1 _ (by decide : (2 : Nat) < 5))) (hP.1 _ (by decide : (2 : Nat) < 5)) gn48 (own_A (own_upd (own_upd (own_upd (fun _ => 0) (P 0) (P 0)) (P 1) (P q1)) (P 2) (P q2))) (own_set _ _ _ (hP.1 _ (by decide : (2 : Nat) < 5))) (fun h80 W80 A80 => ?_)
  have sz82 : n0 ≤ h80.size := (Nat.le_trans sz77 (Nat.le_of_eq W80.size.symm))
  refine s_aload C at_232 (pc' := 234) rfl rfl rfl ?_
  refine s_aload C at_234 (pc' := 236) rfl rfl rfl ?_
  refine s_iconst C at_236 (pc' := 237) rfl (2 : Int32) rfl ?_
  have Vx83 := (Vx78.other W80 ne45)
  refine s_iaload C at_237 (pc' := 238) rfl Vx83 2 (by decide) (own_get P _ (by decide : (2 : Nat) < 5)) ?_
  refine s_aload C at_238 (pc' := 240) rfl rfl rfl ?_
  refine s_aload C at_240 (pc' := 242) rfl rfl rfl ?_
  refine s_iconst C at_242 (pc' := 243) rfl (2 : Int32) rfl ?_
  have Vx84 := (Vx79.other W80 ne47)
  refine s_iaload C at_243 (pc' := 244) rfl Vx84 2 (by decide) (own_get (own_tab q1 q2 q3 q4) _ (by decide : (2 : Nat) < 5)) ?_
  refine s_iaload C at_244 (pc' := 245) rfl Vx83 q2 (own_oi (Nat.lt_of_lt_of_le lq2 (by decide))) (own_get P _ (Nat.lt_of_lt_of_le lq2 (by decide))) ?_
  have Vx86 := (A75.other W80 (Ne.symm ne55))
  refine s_iastore C at_245 (pc' := 246) rfl Vx86 (P 2) (own_oi (hP.1 _ (by decide : (2 : Nat) < 5))) (hP.1 _ (by decide : (2 : Nat) < 5)) gn56 (own_A (own_upd (own_upd (own_upd (fun _ => 0) (P 0) (P 0)) (P 1) (P q1)) (P 2) (P q2))) (own_set _ _ _ (hP.1 _ (by decide : (2 : Nat) < 5))) (fun h85 W85 A85 => ?_)
  have sz87 : n0 ≤ h85.size := (Nat.le_trans sz82 (Nat.le_of_eq W85.size.symm))
  refine s_aload C at_246 (pc' := 248) rfl rfl rfl ?_
  refine s_aload C at_248 (pc' := 250) rfl rfl rfl ?_
  refine s_iconst C at_250 (pc' := 251) rfl (3 : Int32) rfl ?_
  have Vx88 := (Vx83.other W85 ne52)
  refine s_iaload C at_251 (pc' := 252) rfl Vx88 3 (by decide) (own_get P _ (by decide : (3 : Nat) < 5)) ?_
  refine s_aload C at_252 (pc' := 254) rfl rfl rfl ?_
  refine s_aload C at_254 (pc' := 256) rfl rfl rfl ?_
  refine s_iconst C at_256 (pc' := 257) rfl (3 : Int32) rfl ?_
  have Vx89 := (Vx84.other W85 ne54)
  refine s_iaload C at_257 (pc' := 258) rfl Vx89 3 (by decide) (own_get (own_tab q1 q2 q3 q4) _ (by decide : (3 : Nat) < 5)) ?_
  refine s_iaload C at_258 (pc' := 259) rfl Vx88 q3 (own_oi (Nat.lt_of_lt_of_le lq3 (by decide))) (own_get P _ (Nat.lt_of_lt_of_le lq3 (by decide))) ?_
  have Vx91 := (A80.other W85 ne55)
  refine s_iastore C at_259 (pc' := 260) rfl Vx91 (P 3) (own_oi (hP.1 _ (by decide : (3 : Nat) < 5))) (hP.1 _ (by decide : (3 : Nat) < 5)) gn48 (own_A (own_upd (own_upd (own_upd (own_upd (fun _ => 0) (P 0) (P 0)) (P 1) (P q1)) (P 2) (P q2)) (P 3) (P q3))) (own_set _ _ _ (hP.1 _ (by decide : (3 : Nat) < 5))) (fun h90 W90 A90 => ?_)
  have sz92 : n0 ≤ h90.size := (Nat.le_trans sz87 (Nat.le_of_eq W90.size.symm))
  refine s_aload C at_260 (pc' := 262) rfl rfl rfl ?_
  refine s_aload C at_262 (pc' := 264) rfl rfl rfl ?_
  refine s_iconst C at_264 (pc' := 265) rfl (3 : Int32) rfl ?_
  have Vx93 := (Vx88.other W90 ne45)
  refine s_iaload C at_265 (pc' := 266) rfl Vx93 3 (by decide) (own_get P _ (by decide : (3 : Nat) < 5)) ?_
  refine s_aload C at_266 (pc' := 268) rfl rfl rfl ?_
  refine s_aload C at_268 (pc' := 270) rfl rfl rfl ?_
  refine s_iconst C at_270 (pc' := 271) rfl (3 : Int32) rfl ?_
  have Vx94 := (Vx89.other W90 ne47)
  refine s_iaload C at_271 (pc' := 272) rfl Vx94 3 (by decide) (own_get (own_tab q1 q2 q3 q4) _ (by decide : (3 : Nat) < 5)) ?_
  refine s_iaload C at_272 (pc' := 273) rfl Vx93 q3 (own_oi (Nat.lt_of_lt_of_le lq3 (by decide))) (own_get P _ (Nat.lt_of_lt_of_le lq3 (by decide))) ?_
  have Vx96 := (A85.other W90 (Ne.symm ne55))
  refine s_iastore C at_273 (pc' := 274) rfl Vx96 (P 3) (own_oi (hP.1 _ (by decide : (3 : Nat) < 5))) (hP.1 _ (by decide : (3 : Nat) < 5)) gn56 (own_A (own_upd (own_upd (own_upd (own_upd (fun _ => 0) (P 0) (P 0)) (P 1) (P q1)) (P 2) (P q2)) (P 3) (P q3))) (own_set _ _ _ (hP.1 _ (by decide : (3 : Nat) < 5))) (fun h95 W95 A95 => ?_)
  have sz97 : n0 ≤ h95.size := (Nat.le_trans sz92 (Nat.le_of_eq W95.size.symm))
  refine s_aload C at_274 (pc' := 276) rfl rfl rfl ?_
  refine s_aload C at_276 (pc' := 278) rfl rfl rfl ?_
  refine s_iconst C at_278 (pc' := 279) rfl (4 : Int32) rfl ?_
  have Vx98 := (Vx93.other W95 ne52)
  refine s_iaload C at_279 (pc' := 280) rfl Vx98 4 (by decide) (own_get P _ (by decide : (4 : Nat) < 5)) ?_
  refine s_aload C at_280 (pc' := 282) rfl rfl rfl ?_
  refine s_aload C at_282 (pc' := 284) rfl rfl rfl ?_
  refine s_iconst C at_284 (pc' := 285) rfl (4 : Int32) rfl ?_
  have Vx99 := (Vx94.other W95 ne54)
  refine s_iaload C at_285 (pc' := 286) rfl Vx99 4 (by decide) (own_get (own_tab q1 q2 q3 q4) _ (by decide : (4 : Nat) < 5)) ?_
  refine s_iaload C at_286 (pc' := 287) rfl Vx98 q4 (own_oi (Nat.lt_of_lt_of_le lq4 (by decide))) (own_get P _ (Nat.lt_of_lt_of_le lq4 (by decide))) ?_
  have Vx101 := (A90.other W95 ne55)
  refine s_iastore C at_287 (pc' := 288) rfl Vx101 (P 4) (own_oi (hP.1 _ (by decide : (4 : Nat) < 5))) (hP.1 _ (by decide : (4 : Nat) < 5)) gn48 (own_A (own_upd (own_upd (own_upd (own_upd (own_upd (fun _ => 0) (P 0) (P 0)) (P 1) (P q1)) (P 2) (P q2)) (P 3) (P q3)) (P 4) (P q4))) (own_set _ _ _ (hP.1 _ (by decide : (4 : Nat) < 5))) (fun h100 W100 A100 => ?_)
  have sz102 : n0 ≤ h100.size := (Nat.le_trans sz97 (Nat.le_of_eq W100.size.symm))
  refine s_aload C at_288 (pc' := 290) rfl rfl rfl ?_
  refine s_aload C at_290 (pc' := 292) rfl rfl rfl ?_
  refine s_iconst C at_292 (pc' := 293) rfl (4 : Int32) rfl ?_
  have Vx103 := (Vx98.other W100 ne45)
  refine s_iaload C at_293 (pc' := 294) rfl Vx103 4 (by decide) (own_get P _ (by decide : (4 : Nat) < 5)) ?_
  refine s_aload C at_294 (pc' := 296) rfl rfl rfl ?_
  refine s_aload C at_296 (pc' := 298) rfl rfl rfl ?_
  refine s_iconst C at_298 (pc' := 299) rfl (4 : Int32) rfl ?_
  have Vx104 := (Vx99.other W100 ne47)
  refine s_iaload C at_299 (pc' := 300) rfl Vx104 4 (by decide) (own_get (own_tab q1 q2 q3 q4) _ (by decide : (4 : Nat) < 5)) ?_
  refine s_iaload C at_300 (pc' := 301) rfl Vx103 q4 (own_oi (Nat.lt_of_lt_of_le lq4 (by decide))) (own_get P _ (Nat.lt_of_lt_of_le lq4 (by decide))) ?_
  have Vx106 := (A95.other W100 (Ne.symm ne55))
  refine s_iastore C at_301 (pc' := 302) rfl Vx106 (P 4) (own_oi (hP.1 _ (by decide : (4 : Nat) < 5))) (hP.1 _ (by decide : (4 : Nat) < 5)) gn56 (own_A (own_upd (own_upd (own_upd (own_upd (own_upd (fun _ => 0) (P 0) (P 0)) (P 1) (P q1)) (P 2) (P q2)) (P 3) (P q3)) (P 4) (P q4))) (own_set _ _ _ (hP.1 _ (by decide : (4 : Nat) < 5))) (fun h105 W105 A105 => ?_)
  have sz107 : n0 ≤ h105.size := (Nat.le_trans sz102 (Nat.le_of_eq W105.size.symm))
  refine s_aload C at_302 (pc' := 304) rfl rfl rfl ?_
  refine s_aload C at_304 (pc' := 306) rfl rfl rfl ?_
  refine s_iload C at_306 (pc' := 308) rfl rfl ?_
  have Vx108 := (Vx104.other W105 ne54)
  refine s_iaload C at_308 (pc' := 309) rfl Vx108 r (own_oi (Nat.lt_of_lt_of_le lr (by decide))) (own_get (own_tab q1 q2 q3 q4) _ (Nat.lt_of_lt_of_le lr (by decide))) ?_
  refine s_iaload C at_309 (pc' := 310) rfl Vx108 ((own_tab q1 q2 q3 q4) r) (own_oi (tl _)) (own_get (own_tab q1 q2 q3 q4) _ (tl _)) ?_
  refine s_istoreP C at_310 (pc' := 312) rfl #[.val (.int x1), .val (.int x2), .val (.int x3), .val (.int v15), .val (.ref a2), .val (.int v41), .val (.ref a19), .val (.int (ofN r)), .val (.ref a44), .val (.ref a50), .val (.int (ofN ((own_tab q1 q2 q3 q4) ((own_tab q1 q2 q3 q4) r)))), .unset, .unset, .unset] rfl ?_
  refine s_aload C at_312 (pc' := 314) rfl rfl rfl ?_
  refine s_aload C at_314 (pc' := 316) rfl rfl rfl ?_
  refine s_iload C at_316 (pc' := 318) rfl rfl ?_
  refine s_iaload C at_318 (pc' := 319) rfl Vx108 ((own_tab q1 q2 q3 q4) ((own_tab q1 q2 q3 q4) r)) (own_oi (tl _)) (own_get (own_tab q1 q2 q3 q4) _ (tl _)) ?_
  refine s_iaload C at_319 (pc' := 320) rfl Vx108 ((own_tab q1 q2 q3 q4) ((own_tab q1 q2 q3 q4) ((own_tab q1 q2 q3 q4) r))) (own_oi (tl _)) (own_get (own_tab q1 q2 q3 q4) _ (tl _)) ?_
  refine s_istoreP C at_320 (pc' := 322) rfl #[.val (.int x1), .val (.int x2), .val (.int x3), .val (.int v15), .val (.ref a2), .val (.int v41), .val (.ref a19), .val (.int (ofN r)), .val (.ref a44), .val (.ref a50), .val (.int (ofN ((own_tab q1 q2 q3 q4) ((own_tab q1 q2 q3 q4) r)))), .val (.int (ofN ((own_tab q1 q2 q3 q4) ((own_tab q1 q2 q3 q4) ((own_tab q1 q2 q3 q4) ((own_tab q1 q2 q3 q4) r)))))), .unset, .unset] rfl ?_
  refine s_aload C at_322 (pc' := 324) rfl rfl rfl ?_
  refine s_aload C at_324 (pc' := 326) rfl rfl rfl ?_
  refine s_iload C at_326 (pc' := 328) rfl rfl ?_
  have Vx109 := (Vx103.other W105 ne52)
  refine s_iaload C at_328 (pc' := 329) rfl Vx109 r (own_oi (Nat.lt_of_lt_of_le lr (by decide))) (own_get P _ (Nat.lt_of_lt_of_le lr (by decide))) ?_
  refine s_aload C at_329 (pc' := 331) rfl rfl rfl ?_
  refine s_iload C at_331 (pc' := 333) rfl rfl ?_
  refine s_iaload C at_333 (pc' := 334) rfl Vx109 ((own_tab q1 q2 q3 q4) ((own_tab q1 q2 q3 q4) r)) (own_oi (tl _)) (own_get P _ (tl _)) ?_
  refine s_iastore C at_334 (pc' := 335) rfl A105 (P r) (own_oi (hP.1 _ (Nat.lt_of_lt_of_le lr (by decide)))) (hP.1 _ (Nat.lt_of_lt_of_le lr (by decide))) gn56 (own_A (own_upd (own_upd (own_upd (own_upd (own_upd (own_upd (fun _ => 0) (P 0) (P 0)) (P 1) (P q1)) (P 2) (P q2)) (P 3) (P q3)) (P 4) (P q4)) (P r) (P ((own_tab q1 q2 q3 q4) ((own_tab q1 q2 q3 q4) r))))) (own_set _ _ _ (hP.1 _ (Nat.lt_of_lt_of_le lr (by decide)))) (fun h110 W110 A110 => ?_)
  have sz111 : n0 ≤ h110.size := (Nat.le_trans sz107 (Nat.le_of_eq W110.size.symm))
  refine s_aload C at_335 (pc' := 337) rfl rfl rfl ?_
  refine s_aload C at_337 (pc' := 339) rfl rfl rfl ?_
  refine s_iload C at_339 (pc' := 341) rfl rfl ?_
  have Vx112 := (Vx109.other W110 ne52)
  refine s_iaload C at_341 (pc' := 342) rfl Vx112 ((own_tab q1 q2 q3 q4) ((own_tab q1 q2 q3 q4) r)) (own_oi (tl _)) (own_get P _ (tl _)) ?_
  refine s_aload C at_342 (pc' := 344) rfl rfl rfl ?_
  refine s_iload C at_344 (pc' := 346) rfl rfl ?_
  refine s_iaload C at_346 (pc' := 347) rfl Vx112 ((own_tab q1 q2 q3 q4) ((own_tab q1 q2 q3 q4) ((own_tab q1 q2 q3 q4) ((own_tab q1 q2 q3 q4) r)))) (own_oi (tl _)) (own_get P _ (tl _)) ?_
  refine s_iastore C at_347 (pc' := 348) rfl A110 (P ((own_tab q1 q2 q3 q4) ((own_tab q1 q2 q3 q4) r))) (own_oi (hP.1 _ (tl _))) (hP.1 _ (tl _)) gn56 (own_A (own_upd (own_upd (own_upd (own_upd (own_upd (own_upd (own_upd (fun _ => 0) (P 0) (P 0)) (P 1) (P q1)) (P 2) (P q2)) (P 3) (P q3)) (P 4) (P q4)) (P r) (P ((own_tab q1 q2 q3 q4) ((own_tab q1 q2 q3 q4) r)))) (P ((own_tab q1 q2 q3 q4) ((own_tab q1 q2 q3 q4) r))) (P ((own_tab q1 q2 q3 q4) ((own_tab q1 q2 q3 q4) ((own_tab q1 q2 q3 q4) ((own_tab q1 q2 q3 q4) r))))))) (own_set _ _ _ (hP.1 _ (tl _))) (fun h113 W113 A113 => ?_)
  have sz114 : n0 ≤ h113.size := (Nat.le_trans sz111 (Nat.le_of_eq W113.size.symm))
  refine s_aload C at_348 (pc' := 350) rfl rfl rfl ?_
  refine s_aload C at_350 (pc' := 352) rfl rfl rfl ?_
  refine s_aload C at_352 (pc' := 354) rfl rfl rfl ?_
  refine s_aload C at_354 (pc' := 356) rfl rfl rfl ?_
  refine s_iload C at_356 (pc' := 358) rfl rfl ?_
  have Vx115 := ((Vx108.other W110 ne54).other W113 ne54)
  refine s_iaload C at_358 (pc' := 359) rfl Vx115 r (own_oi (Nat.lt_of_lt_of_le lr (by decide))) (own_get (own_tab q1 q2 q3 q4) _ (Nat.lt_of_lt_of_le lr (by decide))) ?_
  refine s_iaload C at_359 (pc' := 360) rfl Vx115 ((own_tab q1 q2 q3 q4) r) (own_oi (tl _)) (own_get (own_tab q1 q2 q3 q4) _ (tl _)) ?_
  refine s_iaload C at_360 (pc' := 361) rfl Vx115 ((own_tab q1 q2 q3 q4) ((own_tab q1 q2 q3 q4) r)) (own_oi (tl _)) (own_get (own_tab q1 q2 q3 q4) _ (tl _)) ?_
  refine s_iaload C at_361 (pc' := 362) rfl Vx115 ((own_tab q1 q2 q3 q4) ((own_tab q1 q2 q3 q4) ((own_tab q1 q2 q3 q4) r))) (own_oi (tl _)) (own_get (own_tab q1 q2 q3 q4) _ (tl _)) ?_
  refine s_istoreP C at_362 (pc' := 364) rfl #[.val (.int x1), .val (.int x2), .val (.int x3), .val (.int v15), .val (.ref a2), .val (.int v41), .val (.ref a19), .val (.int (ofN r)), .val (.ref a44), .val (.ref a50), .val (.int (ofN ((own_tab q1 q2 q3 q4) ((own_tab q1 q2 q3 q4) r)))), .val (.int (ofN ((own_tab q1 q2 q3 q4) ((own_tab q1 q2 q3 q4) ((own_tab q1 q2 q3 q4) ((own_tab q1 q2 q3 q4) r)))))), .val (.int (ofN ((own_tab q1 q2 q3 q4) ((own_tab q1 q2 q3 q4) ((own_tab q1 q2 q3 q4) ((own_tab q1 q2 q3 q4) r)))))), .unset] rfl ?_
  refine s_aload C at_364 (pc' := 366) rfl rfl rfl ?_
  refine s_aload C at_366 (pc' := 368) rfl rfl rfl ?_
  refine s_iload C at_368 (pc' := 370) rfl rfl ?_
  have Vx116 := (Vx112.other W113 ne52)
  refine s_iaload C at_370 (pc' := 371) rfl Vx116 r (own_oi (Nat.lt_of_lt_of_le lr (by decide))) (own_get P _ (Nat.lt_of_lt_of_le lr (by decide))) ?_
  have hfl : ∀ i, i < 5 → (own_upd (own_upd (own_upd (own_upd (own_upd (fun _ => 0) (P 0) (P 0)) (P 1) (P q1)) (P 2) (P q2)) (P 3) (P q3)) (P 4) (P q4)) (P i) = P ((own_tab q1 q2 q3 q4) i) := own_fillF (Q := (own_tab q1 q2 q3 q4)) hP
  have Vx118 := (((A100.other W105 ne55).other W110 ne55).other W113 ne55)
  refine s_callSI C at_371 (pc' := 374) rfl (w6 hw) (w7 hw) (w8 hw) (w9 hw) (by decide) [(.ref a44), (.int (ofN (P r)))] [] pd0 rfl rfl (c_root l Z a0 hw a44 P (own_upd (own_upd (own_upd (own_upd (own_upd (fun _ => 0) (P 0) (P 0)) (P 1) (P q1)) (P 2) (P q2)) (P 3) (P q3)) (P 4) (P q4)) q1 q2 q3 q4 r h113 n0 sz114 lq1 lq2 lq3 lq4 lr hP hfl gn48 Vx118) rfl (W := 0) rfl (by decide) (by decide) (k' := 4) rfl (by decide) (n' := 20) rfl (by decide) (fun _ h117 q117 => ?_)
  obtain ⟨rfl, K117, FF, V117, hFF⟩ := q117
  have sz119 : n0 ≤ h117.size := (Nat.le_trans sz114 K117.1)
  have hGG := own_upF (y := (own_tab q1 q2 q3 q4) ((own_tab q1 q2 q3 q4) ((own_tab q1 q2 q3 q4) ((own_tab q1 q2 q3 q4) r)))) hP (own_upF (y := (own_tab q1 q2 q3 q4) ((own_tab q1 q2 q3 q4) r)) hP hfl lr) (tl ((own_tab q1 q2 q3 q4) r))
  refine s_istoreP C at_374 (pc' := 376) rfl #[.val (.int x1), .val (.int x2), .val (.int x3), .val (.int v15), .val (.ref a2), .val (.int v41), .val (.ref a19), .val (.int (ofN r)), .val (.ref a44), .val (.ref a50), .val (.int (ofN ((own_tab q1 q2 q3 q4) ((own_tab q1 q2 q3 q4) r)))), .val (.int (ofN ((own_tab q1 q2 q3 q4) ((own_tab q1 q2 q3 q4) ((own_tab q1 q2 q3 q4) ((own_tab q1 q2 q3 q4) r)))))), .val (.int (ofN ((own_tab q1 q2 q3 q4) ((own_tab q1 q2 q3 q4) ((own_tab q1 q2 q3 q4) ((own_tab q1 q2 q3 q4) r)))))), .val (.int (ofN (P ((own_tab q1 q2 q3 q4) ((own_tab q1 q2 q3 q4) ((own_tab q1 q2 q3 q4) ((own_tab q1 q2 q3 q4) r)))))))] rfl ?_
  refine s_iload C at_376 (pc' := 378) rfl rfl ?_
  refine s_aload C at_378 (pc' := 380) rfl rfl rfl ?_
  refine s_iload C at_380 (pc' := 382) rfl rfl ?_
  have Vx120 := (Vx116.keep K117 (ninS ne45 nin0))
  refine s_iaload C at_382 (pc' := 383) rfl Vx120 ((own_tab q1 q2 q3 q4) ((own_tab q1 q2 q3 q4) ((own_tab q1 q2 q3 q4) ((own_tab q1 q2 q3 q4) r)))) (own_oi (tl _)) (own_get P _ (tl _)) ?_
  refine s_icmp_ne C at_383 (pc' := 386) rfl (pcY := 445) rfl (fun hc => by exfalso; first | exact hc rfl | (simp at hc)) (fun c121 => ?_)
  refine s_aload C at_386 (pc' := 388) rfl rfl rfl ?_
  refine s_iconst C at_388 (pc' := 389) rfl (0 : Int32) rfl ?_
  refine s_iaload C at_389 (pc' := 390) rfl V117 0 (by decide) (own_get FF _ (by decide : (0 : Nat) < 5)) ?_
  refine s_aload C at_390 (pc' := 392) rfl rfl rfl ?_
  refine s_iconst C at_392 (pc' := 393) rfl (0 : Int32) rfl ?_
  have Vx122 := (A113.keep K117 (ninS (Ne.symm ne55) nin0))
  refine s_iaload C at_393 (pc' := 394) rfl Vx122 0 (by decide) (own_get (own_upd (own_upd (own_upd (own_upd (own_upd (own_upd (own_upd (fun _ => 0) (P 0) (P 0)) (P 1) (P q1)) (P 2) (P q2)) (P 3) (P q3)) (P 4) (P q4)) (P r) (P ((own_tab q1 q2 q3 q4) ((own_tab q1 q2 q3 q4) r)))) (P ((own_tab q1 q2 q3 q4) ((own_tab q1 q2 q3 q4) r))) (P ((own_tab q1 q2 q3 q4) ((own_tab q1 q2 q3 q4) ((own_tab q1 q2 q3 q4) ((own_tab q1 q2 q3 q4) r)))))) _ (by decide : (0 : Nat) < 5)) ?_
  refine s_icmp_ne C at_394 (pc' := 397) rfl (pcY := 445) rfl (fun hc => by exfalso; exact hc (own_same (Q' := id) hP hFF hGG 0 (by decide))) (fun c123 => ?_)
  refine s_aload C at_397 (pc' := 399) rfl rfl rfl ?_
  refine s_iconst C at_399 (pc' := 400) rfl (1 : Int32) rfl ?_
  refine s_iaload C at_400 (pc' := 401) rfl V117 1 (by decide) (own_get FF _ (by decide : (1 : Nat) < 5)) ?_
  refine s_aload C at_401 (pc' := 403) rfl rfl rfl ?_
  refine s_iconst C at_403 (pc' := 404) rfl (1 : Int32) rfl ?_
  refine s_iaload C at_404 (pc' := 405) rfl Vx122 1 (by decide) (own_get (own_upd (own_upd (own_upd (own_upd (own_upd (own_upd (own_upd (fun _ => 0) (P 0) (P 0)) (P 1) (P q1)) (P 2) (P q2)) (P 3) (P q3)) (P 4) (P q4)) (P r) (P ((own_tab q1 q2 q3 q4) ((own_tab q1 q2 q3 q4) r)))) (P ((own_tab q1 q2 q3 q4) ((own_tab q1 q2 q3 q4) r))) (P ((own_tab q1 q2 q3 q4) ((own_tab q1 q2 q3 q4) ((own_tab q1 q2 q3 q4) ((own_tab q1 q2 q3 q4) r)))))) _ (by decide : (1 : Nat) < 5)) ?_
  refine s_icmp_ne C at_405 (pc' := 408) rfl (pcY := 445) rfl (fun hc => by exfalso; exact hc (own_same (Q' := id) hP hFF hGG 1 (by decide))) (fun c124 => ?_)
  refine s_aload C at_408 (pc' := 410) rfl rfl rfl ?_
  refine s_iconst C at_410 (pc' := 411) rfl (2 : Int32) rfl ?_
  refine s_iaload C at_411 (pc' := 412) rfl V117 2 (by decide) (own_get FF _ (by decide : (2 : Nat) < 5)) ?_
  refine s_aload C at_412 (pc' := 414) rfl rfl rfl ?_
  refine s_iconst C at_414 (pc' := 415) rfl (2 : Int32) rfl ?_
  refine s_iaload C at_415 (pc' := 416) rfl Vx122 2 (by decide) (own_get (own_upd (own_upd (own_upd (own_upd (own_upd (own_upd (own_upd (fun _ => 0) (P 0) (P 0)) (P 1) (P q1)) (P 2) (P q2)) (P 3) (P q3)) (P 4) (P q4)) (P r) (P ((own_tab q1 q2 q3 q4) ((own_tab q1 q2 q3 q4) r)))) (P ((own_tab q1 q2 q3 q4) ((own_tab q1 q2 q3 q4) r))) (P ((own_tab q1 q2 q3 q4) ((own_tab q1 q2 q3 q4) ((own_tab q1 q2 q3 q4) ((own_tab q1 q2 q3 q4) r)))))) _ (by decide : (2 : Nat) < 5)) ?_
  refine s_icmp_ne C at_416 (pc' := 419) rfl (pcY := 445) rfl (fun hc => by exfalso; exact hc (own_same (Q' := id) hP hFF hGG 2 (by decide))) (fun c125 => ?_)
  refine s_aload C at_419 (pc' := 421) rfl rfl rfl ?_
  refine s_iconst C at_421 (pc' := 422) rfl (3 : Int32) rfl ?_
  refine s_iaload C at_422 (pc' := 423) rfl V117 3 (by decide) (own_get FF _ (by decide : (3 : Nat) < 5)) ?_
  refine s_aload C at_423 (pc' := 425) rfl rfl rfl ?_
  refine s_iconst C at_425 (pc' := 426) rfl (3 : Int32) rfl ?_
  refine s_iaload C at_426 (pc' := 427) rfl Vx122 3 (by decide) (own_get (own_upd (own_upd (own_upd (own_upd (own_upd (own_upd (own_upd (fun _ => 0) (P 0) (P 0)) (P 1) (P q1)) (P 2) (P q2)) (P 3) (P q3)) (P 4) (P q4)) (P r) (P ((own_tab q1 q2 q3 q4) ((own_tab q1 q2 q3 q4) r)))) (P ((own_tab q1 q2 q3 q4) ((own_tab q1 q2 q3 q4) r))) (P ((own_tab q1 q2 q3 q4) ((own_tab q1 q2 q3 q4) ((own_tab q1 q2 q3 q4) ((own_tab q1 q2 q3 q4) r)))))) _ (by decide : (3 : Nat) < 5)) ?_
  refine s_icmp_ne C at_427 (pc' := 430) rfl (pcY := 445) rfl (fun hc => by exfalso; exact hc (own_same (Q' := id) hP hFF hGG 3 (by decide))) (fun c126 => ?_)
  refine s_aload C at_430 (pc' := 432) rfl rfl rfl ?_
  refine s_iconst C at_432 (pc' := 433) rfl (4 : Int32) rfl ?_
  refine s_iaload C at_433 (pc' := 434) rfl V117 4 (by decide) (own_get FF _ (by decide : (4 : Nat) < 5)) ?_
  refine s_aload C at_434 (pc' := 436) rfl rfl rfl ?_
  refine s_iconst C at_436 (pc' := 437) rfl (4 : Int32) rfl ?_
  refine s_iaload C at_437 (pc' := 438) rfl Vx122 4 (by decide) (own_get (own_upd (own_upd (own_upd (own_upd (own_upd (own_upd (own_upd (fun _ => 0) (P 0) (P 0)) (P 1) (P q1)) (P 2) (P q2)) (P 3) (P q3)) (P 4) (P q4)) (P r) (P ((own_tab q1 q2 q3 q4) ((own_tab q1 q2 q3 q4) r)))) (P ((own_tab q1 q2 q3 q4) ((own_tab q1 q2 q3 q4) r))) (P ((own_tab q1 q2 q3 q4) ((own_tab q1 q2 q3 q4) ((own_tab q1 q2 q3 q4) ((own_tab q1 q2 q3 q4) r)))))) _ (by decide : (4 : Nat) < 5)) ?_
  refine s_icmp_ne C at_438 (pc' := 441) rfl (pcY := 445) rfl (fun hc => by exfalso; exact hc (own_same (Q' := id) hP hFF hGG 4 (by decide))) (fun c127 => ?_)
  refine s_iconst C at_441 (pc' := 442) rfl (1 : Int32) rfl ?_
  refine s_goto C at_442 (pc' := 446) rfl ?_
  exact s_retN C (by simp) at_446 (by decide) (by decide) rfl
end Own
end Jvm.Pilot.@@N@@
namespace Jvm.Pilot.@@N@@
open Jvm Jvm.ClassFile Sem Op Lib Jvm.Free Jvm.Stand Jvm.LawKit Jvm.RoadKit Bundle Own Jvm.Pilot.@@N@@.Jvm.D
set_option maxRecDepth 65536 in
set_option maxHeartbeats 40000000 in
theorem comes_1 {Post : Tables → Env → Array Value → State → Outcome → State → Prop} (hpost : ∀ tb e args s v u, (limb_1_1.after args s (.returned v) u = true ∧ limb_1_2.after args s (.returned v) u = true ∧ True) → FrameEnd s (.returned v) u (Jvm.fieldLocs frame_1_writes args s ++ Jvm.arrayLocs frame_1_arrays args s ++ Jvm.staticLocs frame_1_statics s) 16 128 → Post tb e args s (.returned v) u) :
    ArmFor flags0 classFile x code maxLocals ret World_1 tables_1 room_1 Calls_1 rest_1 Pre_1 Post := by
  intro l hfl _ _ p e ha hc hk s m args below hf hA hF happ hP
  obtain ⟨hcalls, hrest, hpre⟩ := hP
  obtain ⟨-, -, -, hnamed, -, -, -, hat⟩ := (Spec.applies_iff hf).mp happ
  obtain ⟨hg, hn⟩ := and_e (Cond.before_iff.mp (show (Jvm.Cond.and given_1 narrow_1).before args s = true from hpre))
  obtain ⟨g1, g2⟩ := and_e hg
  obtain ⟨g3, g4⟩ := and_e g2
  obtain ⟨g5, g6⟩ := and_e g4
  obtain ⟨w0, w1, w2, rfl⟩ : ∃ w0 w1 w2 : Value, args = #[w0, w1, w2] := by
    have hs : args.size = 3 := by simpa [Cond.value, given_1] using g1
    obtain ⟨L⟩ := args
    match L, hs with
    | [w0, w1, w2], _ => exact ⟨w0, w1, w2, rfl⟩
  have hw := fun d (hd : d ∈ tables_1) => atoms_spec (ws := Jvm.Cond.code x code maxLocals ret :: tables_1) hat d (List.mem_cons_of_mem _ hd)
  have hfit : Fit s := fun {y c} hc i hi => by
    obtain ⟨ha, rfl⟩ := Array.getElem?_eq_some_iff.mp hc
    have q := List.all_eq_true.mp ((Array.all_eq_true_iff_forall_mem.mp hF) _ (Array.getElem_mem ha)) i (List.mem_range.mpr hi)
    simpa [Array.getElem?_eq_getElem hi] using q
  obtain ⟨i0, ei0⟩ := is_v g3
  obtain rfl : w0 = (.int i0) := Option.some.inj ei0
  obtain ⟨i1, ei1⟩ := is_v g5
  obtain rfl : w1 = (.int i1) := Option.some.inj ei1
  obtain ⟨i2, ei2⟩ := is_v g6
  obtain rfl : w2 = (.int i2) := Option.some.inj ei2
  obtain ⟨n, o, h1, h2, h3, _, L, rfl, ⟨⟨_, rfl, rfl⟩, N⟩, hq⟩ := law l s _ hw i0 i1 i2 s.heap s.heap.size (Nat.le_refl _)  p e ha hc hk s m _ below hf ((Spec.applies_iff_loose hf).mp happ).1 ⟨rfl, State.Warmed39.refl s, rfl⟩ trivial
  refine ⟨n, _, h1, h2, h3, hpost _ _ _ _ _ _ ⟨Cond.after_iff.mpr rfl, Cond.after_iff.mpr (eq_i res_at (Term.int_eval (1)) rfl), trivial⟩ ⟨hq.1, hq.2.1, (hq.2.2.sift fun y hy => Or.inr (N y hy)).mono (by decide) (by decide)⟩⟩
theorem main_1_1 : Claimed_1_1 := comes_1 fun _ _ _ _ _ _ h hF => ⟨h.1, hF⟩
theorem main_1_2 : Claimed_1_2 := comes_1 fun _ _ _ _ _ _ h hF => ⟨h.2.1, hF⟩
end Jvm.Pilot.@@N@@
namespace Jvm.Pilot.@@N@@
open Jvm Jvm.ClassFile Sem Op Lib Jvm.Free Jvm.Stand Jvm.Pilot.@@N@@.Jvm.D
/-! MADE BY PROGRAM (witnessworld.py) out of the Statement's table words and the real class files: 10 classes; the members and pool entries that the words name. The judged class is class 1, her method 2. -/
namespace start1
open Jvm.ClassFile
def u (s : String) : CpInfo := .utf8 (stringToUtf16 s)
/-- a pool by its gaps: so many unusable entries, then the entry; so many at the end -/
def gap : Nat → List CpInfo → List CpInfo
  | 0, r => r
  | n + 1, r => .unusable :: gap n r
def poolList (es : List (Nat × CpInfo)) (last : Nat) : List CpInfo := es.foldr (fun e r => gap e.1 (e.2 :: r)) (gap last [])
def pool (es : List (Nat × CpInfo)) (last : Nat) : Array CpInfo := ⟨poolList es last⟩
def fileOf (pool : Array CpInfo) (this : Nat) (attrs : Array Attribute := #[]) (ms : Array MethodInfo := #[]) (fl : Nat := 33) (sup : Nat := 0) (ifs : Array Nat := #[]) (fds : Array FieldInfo := #[]) : ClassFile where
  minorVersion := 0
  majorVersion := 65
  constantPool := pool
  accessFlags := fl
  thisClass := this
  superClass := sup
  interfaces := ifs
  fields := fds
  methods := ms
  attributes := attrs
def plain (name : String) (sup : Option ClassId) : Class where
  name := name
  kind := .ordinary
  loader := none
  accessFlags := 33
  super := sup
  interfaces := #[]
  cf := none
  fields := #[]
  methods := #[]
  instanceTypes := #[]
  staticTypes := #[]
  resolved := #[]
  callSites := []
  init := .initialized
  statics := none
  mirror := none

def pool0 : Array CpInfo := pool [(5, u "<init>"), (0, u "()V"), (1, .class_ 10), (1, u "java/lang/Object")] 113

def k0m0 : Method := { name := "<init>", desc := "()V", sig := { parameters := [], returnType := none }, accessFlags := 1, code := none }
/-- java/lang/Object -/
def k0 : Class := { plain "java/lang/Object" none with
  accessFlags := 33
  interfaces := #[]
  cf := some (fileOf pool0 8 #[] #[{ accessFlags := 1, nameIndex := 5, descriptorIndex := 6, attributes := #[] }] 33 0 #[] #[])
  fields := #[]
  methods := #[k0m0]
  instanceTypes := #[]
  staticTypes := #[]
  resolved := Array.replicate 124 none
  statics := none }

def pool1 : Array CpInfo := pool [(2, .class_ 4), (1, u "java/lang/Object"), (0, u "<init>"), (0, u "()V"), (0, .integer 2147483647), (0, .methodref 9 10), (0, .class_ 11), (0, .nameAndType 12 13), (0, u "com/example/chasm/chasm/model/AtomRootPinLaw"), (0, u "swap"), (0, u "([III)V"), (0, .methodref 15 16), (0, .class_ 17), (0, .nameAndType 18 19), (0, u "com/example/chasm/chasm/model/Atom"), (0, u "root"), (0, u "([II)I"), (2, u "law"), (0, u "(III)Z")] 5

def k1m0 : Method := { name := "<init>", desc := "()V", sig := { parameters := [], returnType := none }, accessFlags := 1, code := none }
def k1c1 : Code := { maxStack := 4, maxLocals := 4, code := method_2_code, exceptionTable := #[], attributes := #[] }
def k1m1 : Method := { name := "swap", desc := "([III)V", sig := { parameters := [(.array .int), .int, .int], returnType := none }, accessFlags := 10, code := some k1c1 }
def k1c2 : Code := { maxStack := 5, maxLocals := 14, code := code, exceptionTable := #[], attributes := #[] }
def k1m2 : Method := { name := "law", desc := "(III)Z", sig := { parameters := [.int, .int, .int], returnType := some .boolean }, accessFlags := 9, code := some k1c2 }
/-- com/example/chasm/chasm/model/AtomRootPinLaw -/
def k1 : Class := { plain "com/example/chasm/chasm/model/AtomRootPinLaw" (some 0) with
  accessFlags := 49
  interfaces := #[]
  cf := some (fileOf pool1 9 #[] #[{ accessFlags := 1, nameIndex := 5, descriptorIndex := 6, attributes := #[] }, { accessFlags := 10, nameIndex := 12, descriptorIndex := 13, attributes := #[] }, { accessFlags := 9, nameIndex := 22, descriptorIndex := 23, attributes := #[] }] 49 2 #[] #[])
  fields := #[]
  methods := #[k1m0, k1m1, k1m2]
  instanceTypes := #[]
  staticTypes := #[]
  resolved := Array.replicate 29 none
  statics := none }

def pool2 : Array CpInfo := pool [(2, .class_ 4), (1, u "java/lang/Object"), (0, u "<init>"), (0, u "()V"), (0, .class_ 8), (0, u "java/lang/Record")] 13

def k2m0 : Method := { name := "<init>", desc := "()V", sig := { parameters := [], returnType := none }, accessFlags := 4, code := none }
/-- java/lang/Record -/
def k2 : Class := { plain "java/lang/Record" (some 0) with
  accessFlags := 1057
  interfaces := #[]
  cf := some (fileOf pool2 7 #[] #[{ accessFlags := 4, nameIndex := 5, descriptorIndex := 6, attributes := #[] }] 1057 2 #[] #[])
  fields := #[]
  methods := #[k2m0]
  instanceTypes := #[]
  staticTypes := #[]
  resolved := Array.replicate 22 none
  statics := none }

def pool3 : Array CpInfo := pool [(2, .class_ 4), (1, u "java/lang/Record"), (33, .class_ 40), (1, u "com/example/chasm/chasm/model/Atom"), (0, u "predicate"), (0, u "Lcom/example/chasm/chasm/model/Predicate;"), (2, u "terms"), (0, u "Ljava/util/List;"), (136, u "root"), (0, u "([II)I")] 143

def k3c0 : Code := { maxStack := 5, maxLocals := 3, code := prog_33_method_9_code, exceptionTable := #[], attributes := #[] }
def k3m0 : Method := { name := "root", desc := "([II)I", sig := { parameters := [(.array .int), .int], returnType := some .int }, accessFlags := 9, code := some k3c0 }
/-- com/example/chasm/chasm/model/Atom -/
def k3 : Class := { plain "com/example/chasm/chasm/model/Atom" (some 2) with
  accessFlags := 49
  interfaces := #[]
  cf := some (fileOf pool3 38 #[] #[{ accessFlags := 9, nameIndex := 183, descriptorIndex := 184, attributes := #[] }] 49 2 #[] #[{ accessFlags := 18, nameIndex := 41, descriptorIndex := 42, attributes := #[] }, { accessFlags := 18, nameIndex := 45, descriptorIndex := 46, attributes := #[] }])
  fields := #[{ name := "predicate", type := (.object "com/example/chasm/chasm/model/Predicate"), accessFlags := 18, slot := 0, constantValue := 0 }, { name := "terms", type := (.object "java/util/List"), accessFlags := 18, slot := 1, constantValue := 0 }]
  methods := #[k3m0]
  instanceTypes := #[(.object "com/example/chasm/chasm/model/Predicate"), (.object "java/util/List")]
  staticTypes := #[]
  resolved := Array.replicate 328 none
  statics := none }

def pool4 : Array CpInfo := pool [(1, u "java/lang/Cloneable"), (0, .class_ 1), (0, u "java/lang/Object"), (0, .class_ 3)] 3

/-- java/lang/Cloneable -/
def k4 : Class := { plain "java/lang/Cloneable" (some 0) with
  accessFlags := 1537
  interfaces := #[]
  cf := some (fileOf pool4 2 #[] #[] 1537 4 #[] #[])
  fields := #[]
  methods := #[]
  instanceTypes := #[]
  staticTypes := #[]
  resolved := Array.replicate 8 none
  statics := none }

def pool5 : Array CpInfo := pool [(1, u "java/io/Serializable"), (0, .class_ 1), (0, u "java/lang/Object"), (0, .class_ 3)] 3

/-- java/io/Serializable -/
def k5 : Class := { plain "java/io/Serializable" (some 0) with
  accessFlags := 1537
  interfaces := #[]
  cf := some (fileOf pool5 2 #[] #[] 1537 4 #[] #[])
  fields := #[]
  methods := #[]
  instanceTypes := #[]
  staticTypes := #[]
  resolved := Array.replicate 8 none
  statics := none }

/-- the primitive byte -/
def k6 : Class := { plain "byte" none with kind := .primitive 'B', accessFlags := 0x411 }
/-- [B -/
def k7 : Class := { plain "[B" (some 0) with kind := .array 6 .byte, interfaces := #[4, 5], accessFlags := 1041 }

/-- the primitive int -/
def k8 : Class := { plain "int" none with kind := .primitive 'I', accessFlags := 0x411 }
/-- [I -/
def k9 : Class := { plain "[I" (some 0) with kind := .array 8 .int, interfaces := #[4, 5], accessFlags := 1041 }

def heap : Heap := #[]
def classes : Array Class := #[k0, k1, k2, k3, k4, k5, k6, k7, k8, k9]
def interned : List (Array UInt16 × Addr) := []
def slotsUsed : Nat := 0
def theMethod : MethodId := ⟨1, 2⟩
def args0 : Array Value := #[.int 3, .int 5, .int 7]
def aboutOver (below : List Frame) : State where
  vm := { classes := classes, interned := interned.toArray }
  heap := heap
  slotsUsed := slotsUsed
  threads := #[{ frames := .invoking theMethod args0 :: below }]
def below0 : List Frame := [.native { method := ⟨0, 0⟩, args := #[] }]
def about1 : State := aboutOver below0
def p0 : Program := .bare "" "" ""
def e0 : Env := launch0.env 0 0 0
theorem w_frames : about1.frames = Frame.invoking theMethod args0 :: below0 := rfl
set_option maxRecDepth 65536 in
theorem w_args : argsFit about1.vm theMethod args0 = true := by decide +kernel
set_option maxRecDepth 65536 in
theorem w_heap : heapFits about1 = true := by decide +kernel
set_option maxRecDepth 65536 in
theorem w_runnable : about1.curStatus? = some .runnable := by decide +kernel
set_option maxRecDepth 65536 in
theorem w_alone : about1.alone = true := by decide +kernel
set_option maxRecDepth 65536 in
theorem w_named : about1.methodNamed? x = some theMethod := by decide +kernel
set_option maxRecDepth 65536 in
theorem w_hears : about1.hears theMethod below0 = true := by decide +kernel
set_option maxRecDepth 65536 in
theorem w_ripe : about1.ripe theMethod args0 below0 = true := by decide +kernel
theorem w_running : about1.status = .running := rfl
set_option maxRecDepth 65536 in
theorem w_room : about1.hasRoom e0.platform room_1 = true :=
  launch0.hasRoom_least _ room_1 (by decide +kernel) (by decide +kernel) (by decide +kernel) (by decide +kernel) (by decide +kernel) (by decide +kernel)
theorem allAtoms_all (ts : List Jvm.Cond) (a : Array Jvm.Value) (st : Jvm.State) : (allAtoms ts).before a st = ts.all (fun c => c.before a st) := by
  induction ts with
  | nil => rfl
  | cons c t ih =>
    show (Jvm.Cond.and c (allAtoms t)).before a st = _
    rw [Jvm.Cond.before_and, ih, List.all_cons]
def words1 : List Jvm.Cond := Jvm.Cond.code x code maxLocals ret :: tables_1
/-- a 'code' word, met by the world's own term for the bytes: nothing is compared byte by byte -/
theorem code_word {y : MethodName} {bytes : ByteArray} {mx : Nat} {rt : Option FieldType} {a : Array Value} {s : State} {m : MethodId} {meth : Method} {c : Code} (h1 : s.methodNamed? y = some m) (h2 : s.vm.method? m = some meth) (h3 : meth.code = some c) (h4 : c.code = bytes)
    (h5 : (c.maxLocals == mx && c.exceptionTable.isEmpty && decide (c.maxStack ≤ mostOperands) && decide (meth.sig.returnType = rt) && !meth.locks && decide (parseMethodDescriptor y.desc = some meth.sig)) = true) : (Jvm.Cond.code y bytes mx rt).before a s = true := by
  simp only [Bool.and_eq_true, beq_iff_eq, Bool.not_eq_true', decide_eq_true_eq] at h5
  obtain ⟨⟨⟨⟨⟨g1, g2⟩, g3⟩, g4⟩, g5⟩, g6⟩ := h5
  simp [Cond.before, Cond.holds, Cond.value, h1, h2, h3, h4, g1, g2, g3, g4, g5, g6]
def isCode : Jvm.Cond → Bool
  | .code _ _ _ _ => true
  | _ => false
theorem all_split {L : List Jvm.Cond} {P : Jvm.Cond → Bool} (h1 : L.all (fun c => isCode c || P c) = true) (h2 : ∀ c ∈ L.filter isCode, P c = true) : L.all P = true := by
  refine List.all_eq_true.mpr fun c hc => ?_
  have h := List.all_eq_true.mp h1 c hc
  rcases Bool.eq_false_or_eq_true (isCode c) with hi | hi
  · exact h2 c (List.mem_filter.mpr ⟨hc, hi⟩)
  · simpa [hi] using h
set_option maxRecDepth 65536 in
theorem w_c0 : (Jvm.Cond.code x code maxLocals ret).before args0 about1 = true := code_word (m := ⟨1, 2⟩) (meth := k1m2) (c := k1c2) (by decide +kernel) rfl rfl rfl (by decide +kernel)
set_option maxRecDepth 65536 in
theorem w_c1 : (Jvm.Cond.code ({ cls := "com/example/chasm/chasm/model/AtomRootPinLaw", name := "swap", desc := "([III)V" } : Jvm.MethodName) method_2_code (4 : Nat) (Option.none : Option Jvm.ClassFile.FieldType)).before args0 about1 = true := code_word (m := ⟨1, 1⟩) (meth := k1m1) (c := k1c1) (by decide +kernel) rfl rfl rfl (by decide +kernel)
set_option maxRecDepth 65536 in
theorem w_c2 : (Jvm.Cond.code ({ cls := "com/example/chasm/chasm/model/Atom", name := "root", desc := "([II)I" } : Jvm.MethodName) prog_33_method_9_code (3 : Nat) (Option.some Jvm.ClassFile.FieldType.int)).before args0 about1 = true := code_word (m := ⟨3, 0⟩) (meth := k3m0) (c := k3c0) (by decide +kernel) rfl rfl rfl (by decide +kernel)
def codes1 : List Jvm.Cond := [Jvm.Cond.code x code maxLocals ret, Jvm.Cond.code ({ cls := "com/example/chasm/chasm/model/AtomRootPinLaw", name := "swap", desc := "([III)V" } : Jvm.MethodName) method_2_code (4 : Nat) (Option.none : Option Jvm.ClassFile.FieldType), Jvm.Cond.code ({ cls := "com/example/chasm/chasm/model/Atom", name := "root", desc := "([II)I" } : Jvm.MethodName) prog_33_method_9_code (3 : Nat) (Option.some Jvm.ClassFile.FieldType.int)]
set_option maxRecDepth 65536 in
theorem codes_eq : words1.filter isCode = codes1 := rfl
theorem w_codes : ∀ c ∈ words1.filter isCode, c.before args0 about1 = true := by
  rw [codes_eq]
  intro c hc
  simp only [codes1, List.mem_cons, List.not_mem_nil, or_false] at hc
  rcases hc with rfl | rfl | rfl
  · exact w_c0
  · exact w_c1
  · exact w_c2
set_option maxRecDepth 65536 in
theorem w_t1 : words1.all (fun c => isCode c || c.before args0 about1) = true := by decide +kernel
theorem w_tables : (allAtoms (Jvm.Cond.code x code maxLocals ret :: tables_1)).before args0 about1 = true := by
  rw [allAtoms_all]
  show words1.all (fun c => c.before args0 about1) = true
  refine all_split ?_ w_codes
  rw [w_t1]
set_option maxRecDepth 65536 in
theorem w_case : (Jvm.Cond.and given_1 narrow_1).before args0 about1 = true := by decide +kernel
theorem w_applies : (headSpec (Jvm.Cond.code x code maxLocals ret :: tables_1) room_1).applies x e0.platform about1 = true :=
  (Spec.applies_iff w_frames).mpr ⟨w_running, w_runnable, w_alone, w_named, w_hears, w_ripe, w_room, w_tables⟩
theorem atStart : AtStart classFile x code maxLocals ret World_1 tables_1 room_1 Calls_1 rest_1 Pre_1 launch0 p0 e0 about1 theMethod args0 below0 :=
  ⟨lists_1, trivial, launch0.admits_env _ _ _, launch0.least_env, fairChoices_fair.cas, fairChoices_fair.clock, w_frames, w_args, w_heap, w_applies, trivial, trivial, w_case⟩
end start1
theorem witness_1 : WitnessClaimed_1 := ⟨start1.p0, start1.e0, start1.about1, start1.theMethod, start1.args0, start1.below0, start1.atStart⟩
end Jvm.Pilot.@@N@@
