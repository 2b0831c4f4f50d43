import JvmDerived
import JvmDerived.Pilot.@@N@@Statement
import JvmDerived.Pilot.@@N@@Code
set_option linter.unusedVariables false
set_option linter.unusedSimpArgs false
namespace Jvm.Pilot.@@N@@
open Jvm Jvm.ClassFile Sem Op Lib Jvm.Free Jvm.Stand Jvm.LawKit Jvm.RoadKit Bundle Jvm.Pilot.@@N@@.Jvm.D
open Jvm.Free.XT (ushr ushrL cmpL)

section OwnKit
variable {p : Program} {l : Launch} {e : Env} {R : Room} {s : State} {m : MethodId} {args : Array Value} {below : List Frame} {meth : Method} {c : Code} {Z : State} {h0 : Heap} {ws ws' : List Addr} {own nm : String} {bytes : ByteArray} {maxL : Nat} {ret : Option FieldType} {kc ks : Nat} {Q : Option Value → Heap → Prop} {Φ : Outcome → State → Prop} {h : Heap} {cells slots pc pc' : Nat} {Ls Ls' : Array Slot} {st st' rest : List Value} {a0 : Array Value}
/-- what a walk knows of its own method -/
def Cx (p : Program) (s : State) (m : MethodId) (meth : Method) (c : Code) (Z : State) (h0 : Heap) (ws : List Addr) (own nm : String) (bytes : ByteArray) (maxL : Nat) (ret : Option FieldType) : Prop :=
  p.tables.exec = Jvm.exec ∧ Z.Warmed39 s.vm ∧ s.vm.findClass own = some m.cls ∧ c.code = bytes ∧ c.maxLocals = maxL ∧ meth.sig.returnType = ret ∧ meth.locks = false ∧ meth.name = nm ∧ s.heap = h0 ∧ Ext Z.heap h0 ∧ ∀ x ∈ ws, Z.heap.size ≤ x
/-- every place written lies in a cell of ws or in one made since -/
def Lw (k : Nat) (ws : List Addr) (L : List Loc) : Prop := ∀ y ∈ L, y.base ∈ ws ∨ k ≤ y.base
theorem Lw.app {k : Nat} {L L' : List Loc} (N : Lw k ws L) (N' : Lw k ws L') : Lw k ws (L ++ L') := fun y q => (List.mem_append.mp q).elim (N y) (N' y)
theorem Lw.nil {k : Nat} : Lw k ws [] := fun _ q => nomatch q
theorem Lw.one {k : Nat} {a : Addr} {i : Nat} (q : a ∈ ws ∨ k ≤ a) : Lw k ws [⟨a, i⟩] := fun y hy => by cases List.mem_singleton.mp hy; exact q
/-- from every state that stands at pc with this heap the walk comes to a good return -/
def G (p : Program) (l : Launch) (e : Env) (R : Room) (s : State) (m : MethodId) (args : Array Value) (below : List Frame) (meth : Method) (c : Code) (ws : List Addr) (Φ : Outcome → State → Prop) (h : Heap) (cells slots pc : Nat) (Ls : Array Slot) (st : List Value) : Prop :=
  ∀ (T : State) (locs : List Loc), Stand p l e R s m args below meth c T locs cells slots → T.heap = h → Lw s.heap.size ws locs →
    ∃ s₂ o, Steps p.tables e below (T.setTop (mkF m pc Ls st)) s₂ ∧ s₂.status = .running ∧ Ended s₂ below o ∧ Φ o s₂
/-- a good end, where nothing was interned -/
def EndA (s : State) (ws : List Addr) (Q : Option Value → Heap → Prop) (kc ks : Nat) (o : Outcome) (s₂ : State) : Prop := ∃ v L, o = .returned v ∧ (Q v s₂.heap ∧ Keep s.heap s₂.heap ws ∧ Lw s.heap.size ws L) ∧ FrameEnd s o s₂ L kc ks
/-- a contract: from the heap h, with the arguments as', the method returns and Q holds; nothing old is written but in ws -/
def Con (l : Launch) (Z : State) (ws : List Addr) (y : MethodName) (bytes : ByteArray) (maxL : Nat) (ret : Option FieldType) (rm : Room) (as' : Array Value) (h : Heap) (tw : List Jvm.Cond) (Q : Option Value → Heap → Prop) : Prop :=
  Ext Z.heap h → (∀ x ∈ ws, Z.heap.size ≤ x) → MetFree l y (head1 (Jvm.Cond.code y bytes maxL ret :: tw) rm) (fun a U => a = as' ∧ Z.Warmed39 U.vm ∧ U.heap = h) (fun _ _ _ _ _ => True) (fun _ U o U' => ∃ v L, o = .returned v ∧ (Q v U'.heap ∧ Keep h U'.heap ws ∧ Lw h.size ws L) ∧ FrameEnd U o U' L rm.cells rm.slots)
/-- what pays a call, in the shape of backOf and of the String laws -/
abbrev Bk (l : Launch) (R : Room) (p : Program) (e : Env) (below : List Frame) (s : State) (args : Array Value) (y : MethodName) (len W : Nat) (as' : Array Value) (h : Heap) (kb sb : Nat) (Qb : Option Value → Heap → List Loc → Prop) : Prop :=
  Back l R p e below s args y len W (fun P a => a = as' ∧ P.U.heap = h ∧ P.cells + kb ≤ R.cells ∧ P.slots + sb ≤ R.slots) (fun P _ v B => ∃ L, Qb v B.U.heap L ∧ B.locs = P.locs ++ L ∧ B.cells = P.cells + kb ∧ B.slots = P.slots + sb)
theorem keep_of {T : State} {locs : List Loc} (X : Stand p l e R s m args below meth c T locs cells slots) (N : Lw s.heap.size ws locs) : Keep s.heap T.heap ws := by
  obtain ⟨-, h1, -, -, -, h2⟩ := X.same
  refine ⟨h1, fun x k hk hx => ?_, fun x k hk => ?_⟩
  · obtain ⟨k', q1, q2, q3, q4⟩ := h2 x k hk
    have e1 : k'.slots = k.slots := Array.ext_getElem? fun i => q4 i fun hm => (N _ hm).elim hx fun z => absurd (Array.getElem?_eq_some_iff.mp hk).1 (Nat.not_lt.mpr z)
    have e2 : k' = k := by rw [q2, e1]
    rw [← e2]; exact q1
  · obtain ⟨k', q1, q2, q3, -⟩ := h2 x k hk
    exact ⟨k', q1, by rw [q2], by rw [q2], q3⟩
theorem ext_keep {hz h h' : Heap} (E : Ext hz h) (K : Keep h h' ws) (q : ∀ x ∈ ws, hz.size ≤ x) : Ext hz h' :=
  ⟨Nat.le_trans E.1 K.1, fun x k r => K.2.1 x k (E.2 x k r) fun z => absurd (Array.getElem?_eq_some_iff.mp r).1 (Nat.not_lt.mpr (q x z))⟩
theorem g_ctx (C : Cx p s m meth c Z h0 ws own nm bytes maxL ret) (k : Keep h0 h ws → Ext Z.heap h → G p l e R s m args below meth c ws Φ h cells slots pc Ls st) : G p l e R s m args below meth c ws Φ h cells slots pc Ls st := by
  intro T locs X e1 N
  obtain ⟨hx, hZ, hown, hby, hml, hret, hlk, hnm, rfl, hE, hws⟩ := C
  have K : Keep s.heap h ws := e1 ▸ keep_of X N
  exact k K (ext_keep hE K hws) T locs X e1 N
theorem g_norm {cells' slots' : Nat} (hc : cells ≤ cells') (hs : slots ≤ slots') (hst : st = st') (k : G p l e R s m args below meth c ws Φ h cells' slots' pc Ls st') : G p l e R s m args below meth c ws Φ h cells slots pc Ls st := by
  intro T locs X e1 N
  subst hst
  exact k T locs (X.more hc hs) e1 N
theorem g_of (hk : ∀ T, At T m c below → ∀ t, Steps p.tables e below (T.setTop (mkF m pc' Ls' st')) t → Steps p.tables e below (T.setTop (mkF m pc Ls st)) t) (k : G p l e R s m args below meth c ws Φ h cells slots pc' Ls' st') : G p l e R s m args below meth c ws Φ h cells slots pc Ls st := by
  intro T locs X e1 N
  obtain ⟨s2, o, h1, r⟩ := k T locs X e1 N
  exact ⟨s2, o, hk T X.here _ h1, r⟩
theorem g_ofX (hk : ∀ T locs, Stand p l e R s m args below meth c T locs cells slots → T.heap = h → ∀ t, Steps p.tables e below (T.setTop (mkF m pc' Ls' st')) t → Steps p.tables e below (T.setTop (mkF m pc Ls st)) t) (k : G p l e R s m args below meth c ws Φ h cells slots pc' Ls' st') : G p l e R s m args below meth c ws Φ h cells slots pc Ls st := by
  intro T locs X e1 N
  obtain ⟨s2, o, h1, r⟩ := k T locs X e1 N
  exact ⟨s2, o, hk T locs X e1 _ h1, r⟩
/-- a class whose own method is selected somewhere is no interface -/
theorem nf_same {b : State} {y y' : MethodName} {Cn : String} {a1 : Array Value} (w : (Jvm.Cond.selects Cn y' y').before a1 b = true) (hc : y'.cls = y.cls) : NotFace b y := fun r0 hr => by
  obtain ⟨c2, r2, m2, -, -, q3, -, kP, hkP, hkPi⟩ := Cond.selects_spec w
  have e1 := findClass_of_methodNamed hr
  have e2 := findClass_of_methodNamed q3
  rw [hc] at e2
  have e3 : r0.cls = m2.cls := Option.some.inj (e1.symm.trans e2)
  exact ⟨kP, by rw [e3]; exact hkP, hkPi⟩
theorem nfOf {y y' : MethodName} {Cn : String} (w : (Jvm.Cond.selects Cn y' y').before a0 Z = true) (hc : y'.cls = y.cls) (b : State) (hZ : Z.Warmed39 b.vm) : NotFace b y := nf_same (a1 := #[]) (mvT hZ w) hc
theorem same_self {y y' : MethodName} {Cn : String} (wi : (Jvm.Cond.instanceMethod y).before a0 Z = true) (w : (Jvm.Cond.selects Cn y' y').before a0 Z = true) (hc : y'.cls = y.cls) (hy : y.cls ≠ "java/lang/invoke/MethodHandle" ∧ y.cls ≠ "java/lang/invoke/VarHandle") : (Jvm.Cond.sameMethod y.cls y.cls y.name y.desc).before a0 Z = true := by
  obtain ⟨mk, methM, hn, -, -, -⟩ := Cond.instanceMethod_spec wi
  obtain ⟨c2, r2, m2, -, -, q3, -, kP, hkP, hkPi⟩ := Cond.selects_spec w
  have e1 := findClass_of_methodNamed hn
  have e2 := findClass_of_methodNamed q3
  rw [hc] at e2
  have e3 : mk.cls = m2.cls := Option.some.inj (e1.symm.trans e2)
  have e4 := State.methodFound?_of_named hn hy
  have e5 : Z.vm.classes[mk.cls]? = some kP := by rw [e3]; exact hkP
  simp [Cond.before, Cond.holds, Cond.value, e1, e4, hn, e5, hkPi]
theorem g_iload_n (C : Cx p s m meth c Z h0 ws own nm bytes maxL ret) {i : Fin 4} {v : Int32} (hd : decode bytes pc = .ok (.iload_n i, 1)) (hl : Ls[i.val]? = some (.val (.int v))) (hp : pc + 1 = pc') (k : G p l e R s m args below meth c ws Φ h cells slots pc' Ls (.int v :: st)) : G p l e R s m args below meth c ws Φ h cells slots pc Ls st := by
  subst hp
  exact g_of (fun T A t q => XS.iloadN A C.1 rfl (hb C.2.2.2.1 hd) hl q) k
theorem g_iload (C : Cx p s m meth c Z h0 ws own nm bytes maxL ret) {i : Nat} {v : Int32} (hd : decode bytes pc = .ok (.iload i, 2)) (hl : Ls[i]? = some (.val (.int v))) (hp : pc + 2 = pc') (k : G p l e R s m args below meth c ws Φ h cells slots pc' Ls (.int v :: st)) : G p l e R s m args below meth c ws Φ h cells slots pc Ls st := by
  subst hp
  exact g_of (fun T A t q => XS.iload A C.1 rfl (hb C.2.2.2.1 hd) hl q) k
theorem g_lload_n (C : Cx p s m meth c Z h0 ws own nm bytes maxL ret) {i : Fin 4} {v : Int64} (hd : decode bytes pc = .ok (.lload_n i, 1)) (hl : Ls[i.val]? = some (.val (.long v))) (hp : pc + 1 = pc') (k : G p l e R s m args below meth c ws Φ h cells slots pc' Ls (.long v :: st)) : G p l e R s m args below meth c ws Φ h cells slots pc Ls st := by
  subst hp
  exact g_of (fun T A t q => XS.lloadN A C.1 rfl (hb C.2.2.2.1 hd) hl q) k
theorem g_lload (C : Cx p s m meth c Z h0 ws own nm bytes maxL ret) {i : Nat} {v : Int64} (hd : decode bytes pc = .ok (.lload i, 2)) (hl : Ls[i]? = some (.val (.long v))) (hp : pc + 2 = pc') (k : G p l e R s m args below meth c ws Φ h cells slots pc' Ls (.long v :: st)) : G p l e R s m args below meth c ws Φ h cells slots pc Ls st := by
  subst hp
  exact g_of (fun T A t q => XS.lload A C.1 rfl (hb C.2.2.2.1 hd) hl q) k
theorem g_aload_n (C : Cx p s m meth c Z h0 ws own nm bytes maxL ret) {i : Fin 4} {v : Value} (hd : decode bytes pc = .ok (.aload_n i, 1)) (hl : Ls[i.val]? = some (.val v)) (hv : v.isRef = true) (hp : pc + 1 = pc') (k : G p l e R s m args below meth c ws Φ h cells slots pc' Ls (v :: st)) : G p l e R s m args below meth c ws Φ h cells slots pc Ls st := by
  subst hp
  exact g_of (fun T A t q => XS.aloadN A C.1 rfl (hb C.2.2.2.1 hd) hl hv q) k
theorem g_aload (C : Cx p s m meth c Z h0 ws own nm bytes maxL ret) {i : Nat} {v : Value} (hd : decode bytes pc = .ok (.aload i, 2)) (hl : Ls[i]? = some (.val v)) (hv : v.isRef = true) (hp : pc + 2 = pc') (k : G p l e R s m args below meth c ws Φ h cells slots pc' Ls (v :: st)) : G p l e R s m args below meth c ws Φ h cells slots pc Ls st := by
  subst hp
  exact g_of (fun T A t q => XS.aload A C.1 rfl (hb C.2.2.2.1 hd) hl hv q) k
theorem g_istore_n (C : Cx p s m meth c Z h0 ws own nm bytes maxL ret) {i : Fin 4} {x : Int32} (hd : decode bytes pc = .ok (.istore_n i, 1)) (hl : storeLocals Ls i.val (.int x) = some Ls') (hp : pc + 1 = pc') (k : G p l e R s m args below meth c ws Φ h cells slots pc' Ls' st) : G p l e R s m args below meth c ws Φ h cells slots pc Ls (.int x :: st) := by
  subst hp
  exact g_of (fun T A t q => XS.istoreN A C.1 rfl (hb C.2.2.2.1 hd) rfl hl q) k
theorem g_istore (C : Cx p s m meth c Z h0 ws own nm bytes maxL ret) {i : Nat} {x : Int32} (hd : decode bytes pc = .ok (.istore i, 2)) (hl : storeLocals Ls i (.int x) = some Ls') (hp : pc + 2 = pc') (k : G p l e R s m args below meth c ws Φ h cells slots pc' Ls' st) : G p l e R s m args below meth c ws Φ h cells slots pc Ls (.int x :: st) := by
  subst hp
  exact g_of (fun T A t q => XS.istore A C.1 rfl (hb C.2.2.2.1 hd) rfl hl q) k
theorem g_lstore_n (C : Cx p s m meth c Z h0 ws own nm bytes maxL ret) {i : Fin 4} {x : Int64} (hd : decode bytes pc = .ok (.lstore_n i, 1)) (hl : storeLocals Ls i.val (.long x) = some Ls') (hp : pc + 1 = pc') (k : G p l e R s m args below meth c ws Φ h cells slots pc' Ls' st) : G p l e R s m args below meth c ws Φ h cells slots pc Ls (.long x :: st) := by
  subst hp
  exact g_of (fun T A t q => XS.lstoreN A C.1 rfl (hb C.2.2.2.1 hd) rfl hl q) k
theorem g_lstore (C : Cx p s m meth c Z h0 ws own nm bytes maxL ret) {i : Nat} {x : Int64} (hd : decode bytes pc = .ok (.lstore i, 2)) (hl : storeLocals Ls i (.long x) = some Ls') (hp : pc + 2 = pc') (k : G p l e R s m args below meth c ws Φ h cells slots pc' Ls' st) : G p l e R s m args below meth c ws Φ h cells slots pc Ls (.long x :: st) := by
  subst hp
  exact g_of (fun T A t q => XS.lstore A C.1 rfl (hb C.2.2.2.1 hd) rfl hl q) k
theorem g_astore_n (C : Cx p s m meth c Z h0 ws own nm bytes maxL ret) {i : Fin 4} {v : Value} (hd : decode bytes pc = .ok (.astore_n i, 1)) (hv : v.isRef = true) (hl : storeLocals Ls i.val v = some Ls') (hp : pc + 1 = pc') (k : G p l e R s m args below meth c ws Φ h cells slots pc' Ls' st) : G p l e R s m args below meth c ws Φ h cells slots pc Ls (v :: st) := by
  subst hp
  exact g_of (fun T A t q => XS.astoreN A C.1 rfl (hb C.2.2.2.1 hd) rfl hv hl q) k
theorem g_astore (C : Cx p s m meth c Z h0 ws own nm bytes maxL ret) {i : Nat} {v : Value} (hd : decode bytes pc = .ok (.astore i, 2)) (hv : v.isRef = true) (hl : storeLocals Ls i v = some Ls') (hp : pc + 2 = pc') (k : G p l e R s m args below meth c ws Φ h cells slots pc' Ls' st) : G p l e R s m args below meth c ws Φ h cells slots pc Ls (v :: st) := by
  subst hp
  exact g_of (fun T A t q => XS.astore A C.1 rfl (hb C.2.2.2.1 hd) rfl hv hl q) k
theorem g_iconst (C : Cx p s m meth c Z h0 ws own nm bytes maxL ret) {i : Int} {x : Int32} (hd : decode bytes pc = .ok (.iconst i, 1)) (hx : Int32.ofInt i = x) (hp : pc + 1 = pc') (k : G p l e R s m args below meth c ws Φ h cells slots pc' Ls (.int x :: st)) : G p l e R s m args below meth c ws Φ h cells slots pc Ls st := by
  subst hp
  exact g_of (fun T A t q => XS.iconst A C.1 rfl (hb C.2.2.2.1 hd) (by rw [hx]; exact q)) k
theorem g_bipush (C : Cx p s m meth c Z h0 ws own nm bytes maxL ret) {i : Int} {x : Int32} (hd : decode bytes pc = .ok (.bipush i, 2)) (hx : (Int8.ofInt i).toInt32 = x) (hp : pc + 2 = pc') (k : G p l e R s m args below meth c ws Φ h cells slots pc' Ls (.int x :: st)) : G p l e R s m args below meth c ws Φ h cells slots pc Ls st := by
  subst hp
  exact g_of (fun T A t q => XS.bipush A C.1 rfl (hb C.2.2.2.1 hd) (by rw [hx]; exact q)) k
theorem g_sipush (C : Cx p s m meth c Z h0 ws own nm bytes maxL ret) {i : Int} {x : Int32} (hd : decode bytes pc = .ok (.sipush i, 3)) (hx : (Int16.ofInt i).toInt32 = x) (hp : pc + 3 = pc') (k : G p l e R s m args below meth c ws Φ h cells slots pc' Ls (.int x :: st)) : G p l e R s m args below meth c ws Φ h cells slots pc Ls st := by
  subst hp
  exact g_of (fun T A t q => XS.sipush A C.1 rfl (hb C.2.2.2.1 hd) (by rw [hx]; exact q)) k
theorem g_lconst (C : Cx p s m meth c Z h0 ws own nm bytes maxL ret) {i : Fin 2} {x : Int64} (hd : decode bytes pc = .ok (.lconst i, 1)) (hx : Int64.ofNat i = x) (hp : pc + 1 = pc') (k : G p l e R s m args below meth c ws Φ h cells slots pc' Ls (.long x :: st)) : G p l e R s m args below meth c ws Φ h cells slots pc Ls st := by
  subst hp
  exact g_of (fun T A t q => XS.lconst A C.1 rfl (hb C.2.2.2.1 hd) (by rw [hx]; exact q)) k
theorem g_aconst_null (C : Cx p s m meth c Z h0 ws own nm bytes maxL ret) (hd : decode bytes pc = .ok (.aconst_null, 1)) (hp : pc + 1 = pc') (k : G p l e R s m args below meth c ws Φ h cells slots pc' Ls (.null :: st)) : G p l e R s m args below meth c ws Φ h cells slots pc Ls st := by
  subst hp
  exact g_of (fun T A t q => XS.aconstNull A C.1 rfl (hb C.2.2.2.1 hd) q) k
theorem g_iadd (C : Cx p s m meth c Z h0 ws own nm bytes maxL ret) {x y : Int32} (hd : decode bytes pc = .ok (.iadd, 1)) (hp : pc + 1 = pc') (k : G p l e R s m args below meth c ws Φ h cells slots pc' Ls (.int (x + y) :: st)) : G p l e R s m args below meth c ws Φ h cells slots pc Ls (.int y :: .int x :: st) := by
  subst hp
  exact g_of (fun T A t q => XS.iadd A C.1 rfl (hb C.2.2.2.1 hd) rfl q) k
theorem g_isub (C : Cx p s m meth c Z h0 ws own nm bytes maxL ret) {x y : Int32} (hd : decode bytes pc = .ok (.isub, 1)) (hp : pc + 1 = pc') (k : G p l e R s m args below meth c ws Φ h cells slots pc' Ls (.int (x - y) :: st)) : G p l e R s m args below meth c ws Φ h cells slots pc Ls (.int y :: .int x :: st) := by
  subst hp
  exact g_of (fun T A t q => XS.isub A C.1 rfl (hb C.2.2.2.1 hd) rfl q) k
theorem g_imul (C : Cx p s m meth c Z h0 ws own nm bytes maxL ret) {x y : Int32} (hd : decode bytes pc = .ok (.imul, 1)) (hp : pc + 1 = pc') (k : G p l e R s m args below meth c ws Φ h cells slots pc' Ls (.int (x * y) :: st)) : G p l e R s m args below meth c ws Φ h cells slots pc Ls (.int y :: .int x :: st) := by
  subst hp
  exact g_of (fun T A t q => XS.imul A C.1 rfl (hb C.2.2.2.1 hd) rfl q) k
theorem g_iand (C : Cx p s m meth c Z h0 ws own nm bytes maxL ret) {x y : Int32} (hd : decode bytes pc = .ok (.iand, 1)) (hp : pc + 1 = pc') (k : G p l e R s m args below meth c ws Φ h cells slots pc' Ls (.int (x &&& y) :: st)) : G p l e R s m args below meth c ws Φ h cells slots pc Ls (.int y :: .int x :: st) := by
  subst hp
  exact g_of (fun T A t q => XS.iand A C.1 rfl (hb C.2.2.2.1 hd) rfl q) k
theorem g_ior (C : Cx p s m meth c Z h0 ws own nm bytes maxL ret) {x y : Int32} (hd : decode bytes pc = .ok (.ior, 1)) (hp : pc + 1 = pc') (k : G p l e R s m args below meth c ws Φ h cells slots pc' Ls (.int (x ||| y) :: st)) : G p l e R s m args below meth c ws Φ h cells slots pc Ls (.int y :: .int x :: st) := by
  subst hp
  exact g_of (fun T A t q => XS.ior A C.1 rfl (hb C.2.2.2.1 hd) rfl q) k
theorem g_ixor (C : Cx p s m meth c Z h0 ws own nm bytes maxL ret) {x y : Int32} (hd : decode bytes pc = .ok (.ixor, 1)) (hp : pc + 1 = pc') (k : G p l e R s m args below meth c ws Φ h cells slots pc' Ls (.int (x ^^^ y) :: st)) : G p l e R s m args below meth c ws Φ h cells slots pc Ls (.int y :: .int x :: st) := by
  subst hp
  exact g_of (fun T A t q => XS.ixor A C.1 rfl (hb C.2.2.2.1 hd) rfl q) k
theorem g_ishl (C : Cx p s m meth c Z h0 ws own nm bytes maxL ret) {x y : Int32} (hd : decode bytes pc = .ok (.ishl, 1)) (hp : pc + 1 = pc') (k : G p l e R s m args below meth c ws Φ h cells slots pc' Ls (.int (x <<< (y &&& 31)) :: st)) : G p l e R s m args below meth c ws Φ h cells slots pc Ls (.int y :: .int x :: st) := by
  subst hp
  exact g_of (fun T A t q => XS.ishl A C.1 rfl (hb C.2.2.2.1 hd) rfl q) k
theorem g_ishr (C : Cx p s m meth c Z h0 ws own nm bytes maxL ret) {x y : Int32} (hd : decode bytes pc = .ok (.ishr, 1)) (hp : pc + 1 = pc') (k : G p l e R s m args below meth c ws Φ h cells slots pc' Ls (.int (x >>> (y &&& 31)) :: st)) : G p l e R s m args below meth c ws Φ h cells slots pc Ls (.int y :: .int x :: st) := by
  subst hp
  exact g_of (fun T A t q => XS.ishr A C.1 rfl (hb C.2.2.2.1 hd) rfl q) k
theorem g_iushr (C : Cx p s m meth c Z h0 ws own nm bytes maxL ret) {x y : Int32} (hd : decode bytes pc = .ok (.iushr, 1)) (hp : pc + 1 = pc') (k : G p l e R s m args below meth c ws Φ h cells slots pc' Ls (.int (ushr x y) :: st)) : G p l e R s m args below meth c ws Φ h cells slots pc Ls (.int y :: .int x :: st) := by
  subst hp
  exact g_of (fun T A t q => XS.iushr A C.1 rfl (hb C.2.2.2.1 hd) rfl q) k
theorem g_idiv (C : Cx p s m meth c Z h0 ws own nm bytes maxL ret) {x y : Int32} (hd : decode bytes pc = .ok (.idiv, 1)) (hy : y ≠ 0) (hp : pc + 1 = pc') (k : G p l e R s m args below meth c ws Φ h cells slots pc' Ls (.int (x / y) :: st)) : G p l e R s m args below meth c ws Φ h cells slots pc Ls (.int y :: .int x :: st) := by
  subst hp
  exact g_of (fun T A t q => XS.idiv A C.1 rfl (hb C.2.2.2.1 hd) rfl hy q) k
theorem g_irem (C : Cx p s m meth c Z h0 ws own nm bytes maxL ret) {x y : Int32} (hd : decode bytes pc = .ok (.irem, 1)) (hy : y ≠ 0) (hp : pc + 1 = pc') (k : G p l e R s m args below meth c ws Φ h cells slots pc' Ls (.int (x % y) :: st)) : G p l e R s m args below meth c ws Φ h cells slots pc Ls (.int y :: .int x :: st) := by
  subst hp
  exact g_of (fun T A t q => XS.irem A C.1 rfl (hb C.2.2.2.1 hd) rfl hy (by rw [irem_eq_mod]; exact q)) k
theorem g_ineg (C : Cx p s m meth c Z h0 ws own nm bytes maxL ret) {x : Int32} (hd : decode bytes pc = .ok (.ineg, 1)) (hp : pc + 1 = pc') (k : G p l e R s m args below meth c ws Φ h cells slots pc' Ls (.int (-x) :: st)) : G p l e R s m args below meth c ws Φ h cells slots pc Ls (.int x :: st) := by
  subst hp
  exact g_of (fun T A t q => XS.ineg A C.1 rfl (hb C.2.2.2.1 hd) rfl q) k
theorem g_ladd (C : Cx p s m meth c Z h0 ws own nm bytes maxL ret) {x y : Int64} (hd : decode bytes pc = .ok (.ladd, 1)) (hp : pc + 1 = pc') (k : G p l e R s m args below meth c ws Φ h cells slots pc' Ls (.long (x + y) :: st)) : G p l e R s m args below meth c ws Φ h cells slots pc Ls (.long y :: .long x :: st) := by
  subst hp
  exact g_of (fun T A t q => XS.ladd A C.1 rfl (hb C.2.2.2.1 hd) rfl q) k
theorem g_lsub (C : Cx p s m meth c Z h0 ws own nm bytes maxL ret) {x y : Int64} (hd : decode bytes pc = .ok (.lsub, 1)) (hp : pc + 1 = pc') (k : G p l e R s m args below meth c ws Φ h cells slots pc' Ls (.long (x - y) :: st)) : G p l e R s m args below meth c ws Φ h cells slots pc Ls (.long y :: .long x :: st) := by
  subst hp
  exact g_of (fun T A t q => XS.lsub A C.1 rfl (hb C.2.2.2.1 hd) rfl q) k
theorem g_lmul (C : Cx p s m meth c Z h0 ws own nm bytes maxL ret) {x y : Int64} (hd : decode bytes pc = .ok (.lmul, 1)) (hp : pc + 1 = pc') (k : G p l e R s m args below meth c ws Φ h cells slots pc' Ls (.long (x * y) :: st)) : G p l e R s m args below meth c ws Φ h cells slots pc Ls (.long y :: .long x :: st) := by
  subst hp
  exact g_of (fun T A t q => XS.lmul A C.1 rfl (hb C.2.2.2.1 hd) rfl q) k
theorem g_land (C : Cx p s m meth c Z h0 ws own nm bytes maxL ret) {x y : Int64} (hd : decode bytes pc = .ok (.land, 1)) (hp : pc + 1 = pc') (k : G p l e R s m args below meth c ws Φ h cells slots pc' Ls (.long (x &&& y) :: st)) : G p l e R s m args below meth c ws Φ h cells slots pc Ls (.long y :: .long x :: st) := by
  subst hp
  exact g_of (fun T A t q => XS.land A C.1 rfl (hb C.2.2.2.1 hd) rfl q) k
theorem g_lor (C : Cx p s m meth c Z h0 ws own nm bytes maxL ret) {x y : Int64} (hd : decode bytes pc = .ok (.lor, 1)) (hp : pc + 1 = pc') (k : G p l e R s m args below meth c ws Φ h cells slots pc' Ls (.long (x ||| y) :: st)) : G p l e R s m args below meth c ws Φ h cells slots pc Ls (.long y :: .long x :: st) := by
  subst hp
  exact g_of (fun T A t q => XS.lor A C.1 rfl (hb C.2.2.2.1 hd) rfl q) k
theorem g_lxor (C : Cx p s m meth c Z h0 ws own nm bytes maxL ret) {x y : Int64} (hd : decode bytes pc = .ok (.lxor, 1)) (hp : pc + 1 = pc') (k : G p l e R s m args below meth c ws Φ h cells slots pc' Ls (.long (x ^^^ y) :: st)) : G p l e R s m args below meth c ws Φ h cells slots pc Ls (.long y :: .long x :: st) := by
  subst hp
  exact g_of (fun T A t q => XS.lxor A C.1 rfl (hb C.2.2.2.1 hd) rfl q) k
theorem g_lshl (C : Cx p s m meth c Z h0 ws own nm bytes maxL ret) {x : Int64} {y : Int32} (hd : decode bytes pc = .ok (.lshl, 1)) (hp : pc + 1 = pc') (k : G p l e R s m args below meth c ws Φ h cells slots pc' Ls (.long (x <<< (y &&& 63).toInt64) :: st)) : G p l e R s m args below meth c ws Φ h cells slots pc Ls (.int y :: .long x :: st) := by
  subst hp
  exact g_of (fun T A t q => XS.lshl A C.1 rfl (hb C.2.2.2.1 hd) rfl q) k
theorem g_lshr (C : Cx p s m meth c Z h0 ws own nm bytes maxL ret) {x : Int64} {y : Int32} (hd : decode bytes pc = .ok (.lshr, 1)) (hp : pc + 1 = pc') (k : G p l e R s m args below meth c ws Φ h cells slots pc' Ls (.long (x >>> (y &&& 63).toInt64) :: st)) : G p l e R s m args below meth c ws Φ h cells slots pc Ls (.int y :: .long x :: st) := by
  subst hp
  exact g_of (fun T A t q => XS.lshr A C.1 rfl (hb C.2.2.2.1 hd) rfl q) k
theorem g_lushr (C : Cx p s m meth c Z h0 ws own nm bytes maxL ret) {x : Int64} {y : Int32} (hd : decode bytes pc = .ok (.lushr, 1)) (hp : pc + 1 = pc') (k : G p l e R s m args below meth c ws Φ h cells slots pc' Ls (.long (ushrL x y) :: st)) : G p l e R s m args below meth c ws Φ h cells slots pc Ls (.int y :: .long x :: st) := by
  subst hp
  exact g_of (fun T A t q => XT.lushr A C.1 rfl (hb C.2.2.2.1 hd) rfl q) k
theorem g_lcmp (C : Cx p s m meth c Z h0 ws own nm bytes maxL ret) {x y : Int64} (hd : decode bytes pc = .ok (.lcmp, 1)) (hp : pc + 1 = pc') (k : G p l e R s m args below meth c ws Φ h cells slots pc' Ls (.int (cmpL x y) :: st)) : G p l e R s m args below meth c ws Φ h cells slots pc Ls (.long y :: .long x :: st) := by
  subst hp
  exact g_of (fun T A t q => XS.lcmp A C.1 rfl (hb C.2.2.2.1 hd) rfl q) k
theorem g_i2l (C : Cx p s m meth c Z h0 ws own nm bytes maxL ret) {x : Int32} (hd : decode bytes pc = .ok (.i2l, 1)) (hp : pc + 1 = pc') (k : G p l e R s m args below meth c ws Φ h cells slots pc' Ls (.long x.toInt64 :: st)) : G p l e R s m args below meth c ws Φ h cells slots pc Ls (.int x :: st) := by
  subst hp
  exact g_of (fun T A t q => XS.i2l A C.1 rfl (hb C.2.2.2.1 hd) rfl q) k
theorem g_l2i (C : Cx p s m meth c Z h0 ws own nm bytes maxL ret) {x : Int64} (hd : decode bytes pc = .ok (.l2i, 1)) (hp : pc + 1 = pc') (k : G p l e R s m args below meth c ws Φ h cells slots pc' Ls (.int x.toInt32 :: st)) : G p l e R s m args below meth c ws Φ h cells slots pc Ls (.long x :: st) := by
  subst hp
  exact g_of (fun T A t q => XS.l2i A C.1 rfl (hb C.2.2.2.1 hd) rfl q) k
theorem g_i2b (C : Cx p s m meth c Z h0 ws own nm bytes maxL ret) {x : Int32} (hd : decode bytes pc = .ok (.i2b, 1)) (hp : pc + 1 = pc') (k : G p l e R s m args below meth c ws Φ h cells slots pc' Ls (.int x.toInt8.toInt32 :: st)) : G p l e R s m args below meth c ws Φ h cells slots pc Ls (.int x :: st) := by
  subst hp
  exact g_of (fun T A t q => XS.i2b A C.1 rfl (hb C.2.2.2.1 hd) rfl q) k
theorem g_i2c (C : Cx p s m meth c Z h0 ws own nm bytes maxL ret) {x : Int32} (hd : decode bytes pc = .ok (.i2c, 1)) (hp : pc + 1 = pc') (k : G p l e R s m args below meth c ws Φ h cells slots pc' Ls (.int (nar .char x) :: st)) : G p l e R s m args below meth c ws Φ h cells slots pc Ls (.int x :: st) := by
  subst hp
  exact g_of (fun T A t q => XS.i2c A C.1 rfl (hb C.2.2.2.1 hd) rfl q) k
theorem g_pop (C : Cx p s m meth c Z h0 ws own nm bytes maxL ret) {v : Value} (hd : decode bytes pc = .ok (.pop, 1)) (hv : v.category = 1) (hp : pc + 1 = pc') (k : G p l e R s m args below meth c ws Φ h cells slots pc' Ls st) : G p l e R s m args below meth c ws Φ h cells slots pc Ls (v :: st) := by
  subst hp
  exact g_of (fun T A t q => XS.pop A C.1 rfl (hb C.2.2.2.1 hd) rfl hv q) k
theorem g_dup (C : Cx p s m meth c Z h0 ws own nm bytes maxL ret) {v : Value} (hd : decode bytes pc = .ok (.dup, 1)) (hv : v.category = 1) (hp : pc + 1 = pc') (k : G p l e R s m args below meth c ws Φ h cells slots pc' Ls (v :: v :: st)) : G p l e R s m args below meth c ws Φ h cells slots pc Ls (v :: st) := by
  subst hp
  exact g_of (fun T A t q => XS.dup A C.1 rfl (hb C.2.2.2.1 hd) rfl hv q) k
theorem g_dup_x1 (C : Cx p s m meth c Z h0 ws own nm bytes maxL ret) {v w : Value} (hd : decode bytes pc = .ok (.dup_x1, 1)) (hv : v.category = 1) (hw' : w.category = 1) (hp : pc + 1 = pc') (k : G p l e R s m args below meth c ws Φ h cells slots pc' Ls (v :: w :: v :: st)) : G p l e R s m args below meth c ws Φ h cells slots pc Ls (v :: w :: st) := by
  subst hp
  exact g_of (fun T A t q => XS.dupX1 A C.1 rfl (hb C.2.2.2.1 hd) rfl hv hw' q) k
theorem g_dup2 (C : Cx p s m meth c Z h0 ws own nm bytes maxL ret) {v w : Value} (hd : decode bytes pc = .ok (.dup2, 1)) (hv : v.category = 1) (hw' : w.category = 1) (hp : pc + 1 = pc') (k : G p l e R s m args below meth c ws Φ h cells slots pc' Ls (v :: w :: v :: w :: st)) : G p l e R s m args below meth c ws Φ h cells slots pc Ls (v :: w :: st) := by
  subst hp
  exact g_of (fun T A t q => XT.dup2 A C.1 rfl (hb C.2.2.2.1 hd) rfl hv hw' q) k
theorem g_dup2L (C : Cx p s m meth c Z h0 ws own nm bytes maxL ret) {x : Int64} (hd : decode bytes pc = .ok (.dup2, 1)) (hp : pc + 1 = pc') (k : G p l e R s m args below meth c ws Φ h cells slots pc' Ls (.long x :: .long x :: st)) : G p l e R s m args below meth c ws Φ h cells slots pc Ls (.long x :: st) := by
  subst hp
  exact g_of (fun T A t q => XT.dup2L A C.1 rfl (hb C.2.2.2.1 hd) rfl q) k
theorem g_iinc (C : Cx p s m meth c Z h0 ws own nm bytes maxL ret) {i : Nat} {cst : Int} {x y : Int32} (hd : decode bytes pc = .ok (.iinc i cst, 3)) (hl : Ls[i]? = some (.val (.int x))) (hy : x + Int32.ofInt cst = y) (hl' : storeLocals Ls i (.int y) = some Ls') (hp : pc + 3 = pc') (k : G p l e R s m args below meth c ws Φ h cells slots pc' Ls' st) : G p l e R s m args below meth c ws Φ h cells slots pc Ls st := by
  subst hp
  exact g_of (fun T A t q => XS.iinc A C.1 rfl (hb C.2.2.2.1 hd) hl (by rw [hy]; exact hl') q) k
theorem g_goto (C : Cx p s m meth c Z h0 ws own nm bytes maxL ret) {o : Int} (hd : decode bytes pc = .ok (.goto o, 3)) (ho : 0 ≤ (pc : Int) + o) (hp : ((pc : Int) + o).toNat = pc') (k : G p l e R s m args below meth c ws Φ h cells slots pc' Ls st) : G p l e R s m args below meth c ws Φ h cells slots pc Ls st :=
  g_of (fun T A t q => XS.goto A C.1 rfl rfl (hb C.2.2.2.1 hd) ho hp q) k
theorem g_if_icmplt (C : Cx p s m meth c Z h0 ws own nm bytes maxL ret) {o : Int} {x y : Int32} {pcT pcF : Nat} (hd : decode bytes pc = .ok (.if_icmp .lt o, 3)) (ho : 0 ≤ (pc : Int) + o) (hT : ((pc : Int) + o).toNat = pcT) (hF : pc + 3 = pcF) (kT : x < y → G p l e R s m args below meth c ws Φ h cells slots pcT Ls st) (kF : ¬ x < y → G p l e R s m args below meth c ws Φ h cells slots pcF Ls st) : G p l e R s m args below meth c ws Φ h cells slots pc Ls (.int y :: .int x :: st) := by
  subst hF
  by_cases z : x < y
  · exact g_of (fun T A t q => XS.icmpYes A C.1 rfl rfl (hb C.2.2.2.1 hd) rfl (tlt z).1 ho hT q) (kT z)
  · exact g_of (fun T A t q => XS.icmpNo A C.1 rfl (hb C.2.2.2.1 hd) rfl (flt z).1 q) (kF z)
theorem g_iflt (C : Cx p s m meth c Z h0 ws own nm bytes maxL ret) {o : Int} {x : Int32} {pcT pcF : Nat} (hd : decode bytes pc = .ok (.ifCond .lt o, 3)) (ho : 0 ≤ (pc : Int) + o) (hT : ((pc : Int) + o).toNat = pcT) (hF : pc + 3 = pcF) (kT : x < 0 → G p l e R s m args below meth c ws Φ h cells slots pcT Ls st) (kF : ¬ x < 0 → G p l e R s m args below meth c ws Φ h cells slots pcF Ls st) : G p l e R s m args below meth c ws Φ h cells slots pc Ls (.int x :: st) := by
  subst hF
  by_cases z : x < 0
  · exact g_of (fun T A t q => XS.ifYes A C.1 rfl rfl (hb C.2.2.2.1 hd) rfl ((if0 _ _).trans (tlt z).1) ho hT q) (kT z)
  · exact g_of (fun T A t q => XS.ifNo A C.1 rfl (hb C.2.2.2.1 hd) rfl ((if0 _ _).trans (flt z).1) q) (kF z)
theorem g_if_icmpge (C : Cx p s m meth c Z h0 ws own nm bytes maxL ret) {o : Int} {x y : Int32} {pcT pcF : Nat} (hd : decode bytes pc = .ok (.if_icmp .ge o, 3)) (ho : 0 ≤ (pc : Int) + o) (hT : ((pc : Int) + o).toNat = pcT) (hF : pc + 3 = pcF) (kT : ¬ x < y → G p l e R s m args below meth c ws Φ h cells slots pcT Ls st) (kF : x < y → G p l e R s m args below meth c ws Φ h cells slots pcF Ls st) : G p l e R s m args below meth c ws Φ h cells slots pc Ls (.int y :: .int x :: st) := by
  subst hF
  by_cases z : x < y
  · exact g_of (fun T A t q => XS.icmpNo A C.1 rfl (hb C.2.2.2.1 hd) rfl (tlt z).2.1 q) (kF z)
  · exact g_of (fun T A t q => XS.icmpYes A C.1 rfl rfl (hb C.2.2.2.1 hd) rfl (flt z).2.1 ho hT q) (kT z)
theorem g_ifge (C : Cx p s m meth c Z h0 ws own nm bytes maxL ret) {o : Int} {x : Int32} {pcT pcF : Nat} (hd : decode bytes pc = .ok (.ifCond .ge o, 3)) (ho : 0 ≤ (pc : Int) + o) (hT : ((pc : Int) + o).toNat = pcT) (hF : pc + 3 = pcF) (kT : ¬ x < 0 → G p l e R s m args below meth c ws Φ h cells slots pcT Ls st) (kF : x < 0 → G p l e R s m args below meth c ws Φ h cells slots pcF Ls st) : G p l e R s m args below meth c ws Φ h cells slots pc Ls (.int x :: st) := by
  subst hF
  by_cases z : x < 0
  · exact g_of (fun T A t q => XS.ifNo A C.1 rfl (hb C.2.2.2.1 hd) rfl ((if0 _ _).trans (tlt z).2.1) q) (kF z)
  · exact g_of (fun T A t q => XS.ifYes A C.1 rfl rfl (hb C.2.2.2.1 hd) rfl ((if0 _ _).trans (flt z).2.1) ho hT q) (kT z)
theorem g_if_icmpgt (C : Cx p s m meth c Z h0 ws own nm bytes maxL ret) {o : Int} {x y : Int32} {pcT pcF : Nat} (hd : decode bytes pc = .ok (.if_icmp .gt o, 3)) (ho : 0 ≤ (pc : Int) + o) (hT : ((pc : Int) + o).toNat = pcT) (hF : pc + 3 = pcF) (kT : y < x → G p l e R s m args below meth c ws Φ h cells slots pcT Ls st) (kF : ¬ y < x → G p l e R s m args below meth c ws Φ h cells slots pcF Ls st) : G p l e R s m args below meth c ws Φ h cells slots pc Ls (.int y :: .int x :: st) := by
  subst hF
  by_cases z : y < x
  · exact g_of (fun T A t q => XS.icmpYes A C.1 rfl rfl (hb C.2.2.2.1 hd) rfl (tlt z).2.2.1 ho hT q) (kT z)
  · exact g_of (fun T A t q => XS.icmpNo A C.1 rfl (hb C.2.2.2.1 hd) rfl (flt z).2.2.1 q) (kF z)
theorem g_ifgt (C : Cx p s m meth c Z h0 ws own nm bytes maxL ret) {o : Int} {x : Int32} {pcT pcF : Nat} (hd : decode bytes pc = .ok (.ifCond .gt o, 3)) (ho : 0 ≤ (pc : Int) + o) (hT : ((pc : Int) + o).toNat = pcT) (hF : pc + 3 = pcF) (kT : 0 < x → G p l e R s m args below meth c ws Φ h cells slots pcT Ls st) (kF : ¬ 0 < x → G p l e R s m args below meth c ws Φ h cells slots pcF Ls st) : G p l e R s m args below meth c ws Φ h cells slots pc Ls (.int x :: st) := by
  subst hF
  by_cases z : 0 < x
  · exact g_of (fun T A t q => XS.ifYes A C.1 rfl rfl (hb C.2.2.2.1 hd) rfl ((if0 _ _).trans (tlt z).2.2.1) ho hT q) (kT z)
  · exact g_of (fun T A t q => XS.ifNo A C.1 rfl (hb C.2.2.2.1 hd) rfl ((if0 _ _).trans (flt z).2.2.1) q) (kF z)
theorem g_if_icmple (C : Cx p s m meth c Z h0 ws own nm bytes maxL ret) {o : Int} {x y : Int32} {pcT pcF : Nat} (hd : decode bytes pc = .ok (.if_icmp .le o, 3)) (ho : 0 ≤ (pc : Int) + o) (hT : ((pc : Int) + o).toNat = pcT) (hF : pc + 3 = pcF) (kT : ¬ y < x → G p l e R s m args below meth c ws Φ h cells slots pcT Ls st) (kF : y < x → G p l e R s m args below meth c ws Φ h cells slots pcF Ls st) : G p l e R s m args below meth c ws Φ h cells slots pc Ls (.int y :: .int x :: st) := by
  subst hF
  by_cases z : y < x
  · exact g_of (fun T A t q => XS.icmpNo A C.1 rfl (hb C.2.2.2.1 hd) rfl (tlt z).2.2.2 q) (kF z)
  · exact g_of (fun T A t q => XS.icmpYes A C.1 rfl rfl (hb C.2.2.2.1 hd) rfl (flt z).2.2.2 ho hT q) (kT z)
theorem g_ifle (C : Cx p s m meth c Z h0 ws own nm bytes maxL ret) {o : Int} {x : Int32} {pcT pcF : Nat} (hd : decode bytes pc = .ok (.ifCond .le o, 3)) (ho : 0 ≤ (pc : Int) + o) (hT : ((pc : Int) + o).toNat = pcT) (hF : pc + 3 = pcF) (kT : ¬ 0 < x → G p l e R s m args below meth c ws Φ h cells slots pcT Ls st) (kF : 0 < x → G p l e R s m args below meth c ws Φ h cells slots pcF Ls st) : G p l e R s m args below meth c ws Φ h cells slots pc Ls (.int x :: st) := by
  subst hF
  by_cases z : 0 < x
  · exact g_of (fun T A t q => XS.ifNo A C.1 rfl (hb C.2.2.2.1 hd) rfl ((if0 _ _).trans (tlt z).2.2.2) q) (kF z)
  · exact g_of (fun T A t q => XS.ifYes A C.1 rfl rfl (hb C.2.2.2.1 hd) rfl ((if0 _ _).trans (flt z).2.2.2) ho hT q) (kT z)
theorem g_if_icmpeq (C : Cx p s m meth c Z h0 ws own nm bytes maxL ret) {o : Int} {x y : Int32} {pcT pcF : Nat} (hd : decode bytes pc = .ok (.if_icmp .eq o, 3)) (ho : 0 ≤ (pc : Int) + o) (hT : ((pc : Int) + o).toNat = pcT) (hF : pc + 3 = pcF) (kT : x = y → G p l e R s m args below meth c ws Φ h cells slots pcT Ls st) (kF : ¬ x = y → G p l e R s m args below meth c ws Φ h cells slots pcF Ls st) : G p l e R s m args below meth c ws Φ h cells slots pc Ls (.int y :: .int x :: st) := by
  subst hF
  by_cases z : x = y
  · exact g_of (fun T A t q => XS.icmpYes A C.1 rfl rfl (hb C.2.2.2.1 hd) rfl (teq z).1 ho hT q) (kT z)
  · exact g_of (fun T A t q => XS.icmpNo A C.1 rfl (hb C.2.2.2.1 hd) rfl (feq z).1 q) (kF z)
theorem g_ifeq (C : Cx p s m meth c Z h0 ws own nm bytes maxL ret) {o : Int} {x : Int32} {pcT pcF : Nat} (hd : decode bytes pc = .ok (.ifCond .eq o, 3)) (ho : 0 ≤ (pc : Int) + o) (hT : ((pc : Int) + o).toNat = pcT) (hF : pc + 3 = pcF) (kT : x = 0 → G p l e R s m args below meth c ws Φ h cells slots pcT Ls st) (kF : ¬ x = 0 → G p l e R s m args below meth c ws Φ h cells slots pcF Ls st) : G p l e R s m args below meth c ws Φ h cells slots pc Ls (.int x :: st) := by
  subst hF
  by_cases z : x = 0
  · exact g_of (fun T A t q => XS.ifYes A C.1 rfl rfl (hb C.2.2.2.1 hd) rfl ((if0 _ _).trans (teq z).1) ho hT q) (kT z)
  · exact g_of (fun T A t q => XS.ifNo A C.1 rfl (hb C.2.2.2.1 hd) rfl ((if0 _ _).trans (feq z).1) q) (kF z)
theorem g_if_icmpne (C : Cx p s m meth c Z h0 ws own nm bytes maxL ret) {o : Int} {x y : Int32} {pcT pcF : Nat} (hd : decode bytes pc = .ok (.if_icmp .ne o, 3)) (ho : 0 ≤ (pc : Int) + o) (hT : ((pc : Int) + o).toNat = pcT) (hF : pc + 3 = pcF) (kT : ¬ x = y → G p l e R s m args below meth c ws Φ h cells slots pcT Ls st) (kF : x = y → G p l e R s m args below meth c ws Φ h cells slots pcF Ls st) : G p l e R s m args below meth c ws Φ h cells slots pc Ls (.int y :: .int x :: st) := by
  subst hF
  by_cases z : x = y
  · exact g_of (fun T A t q => XS.icmpNo A C.1 rfl (hb C.2.2.2.1 hd) rfl (teq z).2 q) (kF z)
  · exact g_of (fun T A t q => XS.icmpYes A C.1 rfl rfl (hb C.2.2.2.1 hd) rfl (feq z).2 ho hT q) (kT z)
theorem g_ifne (C : Cx p s m meth c Z h0 ws own nm bytes maxL ret) {o : Int} {x : Int32} {pcT pcF : Nat} (hd : decode bytes pc = .ok (.ifCond .ne o, 3)) (ho : 0 ≤ (pc : Int) + o) (hT : ((pc : Int) + o).toNat = pcT) (hF : pc + 3 = pcF) (kT : ¬ x = 0 → G p l e R s m args below meth c ws Φ h cells slots pcT Ls st) (kF : x = 0 → G p l e R s m args below meth c ws Φ h cells slots pcF Ls st) : G p l e R s m args below meth c ws Φ h cells slots pc Ls (.int x :: st) := by
  subst hF
  by_cases z : x = 0
  · exact g_of (fun T A t q => XS.ifNo A C.1 rfl (hb C.2.2.2.1 hd) rfl ((if0 _ _).trans (teq z).2) q) (kF z)
  · exact g_of (fun T A t q => XS.ifYes A C.1 rfl rfl (hb C.2.2.2.1 hd) rfl ((if0 _ _).trans (feq z).2) ho hT q) (kT z)
theorem g_ifnull (C : Cx p s m meth c Z h0 ws own nm bytes maxL ret) {o : Int} {v : Value} {pcT pcF : Nat} (hv : v.isRef = true) (hd : decode bytes pc = .ok (.ifnull o, 3)) (ho : 0 ≤ (pc : Int) + o) (hT : ((pc : Int) + o).toNat = pcT) (hF : pc + 3 = pcF) (kT : v = .null → G p l e R s m args below meth c ws Φ h cells slots pcT Ls st) (kF : ∀ a, v = .ref a → G p l e R s m args below meth c ws Φ h cells slots pcF Ls st) : G p l e R s m args below meth c ws Φ h cells slots pc Ls (v :: st) := by
  subst hF
  rcases ref_cases hv with rfl | ⟨a, rfl⟩
  · exact g_of (fun T A t q => XS.ifnullYes A C.1 rfl rfl (hb C.2.2.2.1 hd) rfl ho hT q) (kT rfl)
  · exact g_of (fun T A t q => XS.ifnullNo A C.1 rfl (hb C.2.2.2.1 hd) rfl q) (kF a rfl)
theorem g_ifnonnull (C : Cx p s m meth c Z h0 ws own nm bytes maxL ret) {o : Int} {v : Value} {pcT pcF : Nat} (hv : v.isRef = true) (hd : decode bytes pc = .ok (.ifnonnull o, 3)) (ho : 0 ≤ (pc : Int) + o) (hT : ((pc : Int) + o).toNat = pcT) (hF : pc + 3 = pcF) (kT : ∀ a, v = .ref a → G p l e R s m args below meth c ws Φ h cells slots pcT Ls st) (kF : v = .null → G p l e R s m args below meth c ws Φ h cells slots pcF Ls st) : G p l e R s m args below meth c ws Φ h cells slots pc Ls (v :: st) := by
  subst hF
  rcases ref_cases hv with rfl | ⟨a, rfl⟩
  · exact g_of (fun T A t q => XS.ifnonnullNo A C.1 rfl (hb C.2.2.2.1 hd) rfl q) (kF rfl)
  · exact g_of (fun T A t q => XS.ifnonnullYes A C.1 rfl rfl (hb C.2.2.2.1 hd) rfl ho hT q) (kT a rfl)
theorem g_if_acmpeq (C : Cx p s m meth c Z h0 ws own nm bytes maxL ret) {o : Int} {v w : Value} {pcT pcF : Nat} (hv : v.isRef = true) (hw' : w.isRef = true) (hd : decode bytes pc = .ok (.if_acmp .eq o, 3)) (ho : 0 ≤ (pc : Int) + o) (hT : ((pc : Int) + o).toNat = pcT) (hF : pc + 3 = pcF) (kT : v = w → G p l e R s m args below meth c ws Φ h cells slots pcT Ls st) (kF : ¬ v = w → G p l e R s m args below meth c ws Φ h cells slots pcF Ls st) : G p l e R s m args below meth c ws Φ h cells slots pc Ls (w :: v :: st) := by
  subst hF hT
  by_cases z : v = w
  · exact g_ofX (fun T locs X _ t q => RoadKit.acmp X C.1 rfl hv hw' (same := true) rfl (hb C.2.2.2.1 hd) rfl (by simp [z]) ho rfl q) (kT z)
  · exact g_ofX (fun T locs X _ t q => RoadKit.acmp X C.1 rfl hv hw' (same := false) rfl (hb C.2.2.2.1 hd) rfl (by simp [z]) ho rfl q) (kF z)
theorem g_if_acmpne (C : Cx p s m meth c Z h0 ws own nm bytes maxL ret) {o : Int} {v w : Value} {pcT pcF : Nat} (hv : v.isRef = true) (hw' : w.isRef = true) (hd : decode bytes pc = .ok (.if_acmp .ne o, 3)) (ho : 0 ≤ (pc : Int) + o) (hT : ((pc : Int) + o).toNat = pcT) (hF : pc + 3 = pcF) (kT : ¬ v = w → G p l e R s m args below meth c ws Φ h cells slots pcT Ls st) (kF : v = w → G p l e R s m args below meth c ws Φ h cells slots pcF Ls st) : G p l e R s m args below meth c ws Φ h cells slots pc Ls (w :: v :: st) := by
  subst hF hT
  by_cases z : v = w
  · exact g_ofX (fun T locs X _ t q => RoadKit.acmp X C.1 rfl hv hw' (same := true) rfl (hb C.2.2.2.1 hd) rfl (by simp [z]) ho rfl q) (kF z)
  · exact g_ofX (fun T locs X _ t q => RoadKit.acmp X C.1 rfl hv hw' (same := false) rfl (hb C.2.2.2.1 hd) rfl (by simp [z]) ho rfl q) (kT z)
theorem g_getfield (C : Cx p s m meth c Z h0 ws own nm bytes maxL ret) {R0 O n d : String} {index : Nat} (w : (Jvm.Cond.fieldLink own index R0 n d).before a0 Z = true) (via : Via Z R0 O n d) {a : Addr} {v : Value} (F : Fld Z h a O n d v) (hd : decode bytes pc = .ok (.getfield index, 3)) (hp : pc + 3 = pc') (k : G p l e R s m args below meth c ws Φ h cells slots pc' Ls (v :: st)) : G p l e R s m args below meth c ws Φ h cells slots pc Ls (.ref a :: st) := by
  intro T locs X e1 N
  subst hp
  obtain ⟨hx, hZ, hown, hby, hml, hret, hlk, hnm, rfl, hE, hws⟩ := C
  obtain ⟨T', X', e2, stp⟩ := getF X hx hZ hown (host := "") (Or.inl w) via e1 F (g := mkF m pc Ls (.ref a :: st)) rfl rfl (hb hby hd)
  obtain ⟨s2, o, q, r⟩ := k T' locs X' e2 N
  exact ⟨s2, o, stp _ q, r⟩
theorem g_getfieldN (C : Cx p s m meth c Z h0 ws own nm bytes maxL ret) {R0 O n d host : String} {index : Nat} (w : (Jvm.Cond.fieldLinkNest own index R0 n d host).before a0 Z = true) (via : Via Z R0 O n d) {a : Addr} {v : Value} (F : Fld Z h a O n d v) (hd : decode bytes pc = .ok (.getfield index, 3)) (hp : pc + 3 = pc') (k : G p l e R s m args below meth c ws Φ h cells slots pc' Ls (v :: st)) : G p l e R s m args below meth c ws Φ h cells slots pc Ls (.ref a :: st) := by
  intro T locs X e1 N
  subst hp
  obtain ⟨hx, hZ, hown, hby, hml, hret, hlk, hnm, rfl, hE, hws⟩ := C
  obtain ⟨T', X', e2, stp⟩ := getF X hx hZ hown (Or.inr w) via e1 F (g := mkF m pc Ls (.ref a :: st)) rfl rfl (hb hby hd)
  obtain ⟨s2, o, q, r⟩ := k T' locs X' e2 N
  exact ⟨s2, o, stp _ q, r⟩
theorem g_getstatic (C : Cx p s m meth c Z h0 ws own nm bytes maxL ret) {R0 O n d : String} {index : Nat} (w : (Jvm.Cond.fieldLink own index R0 n d).before a0 Z = true) (via : Via Z R0 O n d) {v : Value} (F : Sta Z h O n d v) (hd : decode bytes pc = .ok (.getstatic index, 3)) (hp : pc + 3 = pc') (k : G p l e R s m args below meth c ws Φ h cells slots pc' Ls (v :: st)) : G p l e R s m args below meth c ws Φ h cells slots pc Ls st := by
  intro T locs X e1 N
  subst hp
  obtain ⟨hx, hZ, hown, hby, hml, hret, hlk, hnm, rfl, hE, hws⟩ := C
  obtain ⟨T', X', e2, stp⟩ := getS X hx hZ hown (host := "") w via e1 F (g := mkF m pc Ls st) rfl (hb hby hd)
  obtain ⟨s2, o, q, r⟩ := k T' locs X' e2 N
  exact ⟨s2, o, stp _ q, r⟩
theorem g_putfield (C : Cx p s m meth c Z h0 ws own nm bytes maxL ret) {R0 O n d Cn : String} {index kk : Nat} {ty : FieldType} (w : (Jvm.Cond.fieldLink own index R0 n d).before a0 Z = true) (via : Via Z R0 O n d) {a : Addr} {v v' old : Value} (F : Fld Z h a O n d old) (E : Exa Z h a Cn) (L : (Jvm.Cond.lays Cn O n d).before a0 Z = true ∨ ((Jvm.Cond.laysFinal Cn O n d).before a0 Z = true ∧ own = O ∧ nm = "<init>")) (wi : (Jvm.Cond.instantiable Cn kk).before a0 Z = true) (hty : parseFieldDescriptor d = some ty) (hn : narrow ty v = v') (hf : fits ty v' = true) (ha : a ∈ ws ∨ h0.size ≤ a) (hd : decode bytes pc = .ok (.putfield index, 3)) (hp : pc + 3 = pc') (k : ∀ h', Wr h h' a (RoadKit.slotOf Z O n d) v' → G p l e R s m args below meth c ws Φ h' cells slots pc' Ls st) : G p l e R s m args below meth c ws Φ h cells slots pc Ls (v :: .ref a :: st) := by
  intro T locs X e1 N
  subst hp
  obtain ⟨hx, hZ, hown, hby, hml, hret, hlk, hnm, rfl, hE, hws⟩ := C
  subst hnm
  obtain ⟨T', h', X', e2, W, stp⟩ := putFN X hx hZ hown w via e1 F E L wi hty hn hf (g := mkF m pc Ls (v :: .ref a :: st)) rfl rfl (hb hby hd)
  obtain ⟨s2, o, q, r⟩ := k h' W T' _ X' e2 (N.app (Lw.one ha))
  exact ⟨s2, o, stp _ q, r⟩
theorem g_new (C : Cx p s m meth c Z h0 ws own nm bytes maxL ret) {Cn : String} {index n : Nat} (w : (Jvm.Cond.classLink own index Cn).before a0 Z = true) (wi : (Jvm.Cond.instantiable Cn n).before a0 Z = true) (wz : (Jvm.Cond.initialized Cn).before a0 Z = true) (hd : decode bytes pc = .ok (.new index, 3)) (hp : pc + 3 = pc') (hc : cells + 1 ≤ R.cells) (hs : slots + n ≤ R.slots) (k : ∀ h' a, a = h.size → h0.size ≤ a → Ext h h' → Exa Z h' a Cn → (∀ {O nm d : String} {ty : FieldType}, Laid Z a0 Cn O nm d → parseFieldDescriptor d = some ty → Fld Z h' a O nm d (defaultValue ty)) → G p l e R s m args below meth c ws Φ h' (cells + 1) (slots + n) pc' Ls (.ref a :: st)) : G p l e R s m args below meth c ws Φ h cells slots pc Ls st := by
  intro T locs X e1 N
  subst hp
  obtain ⟨hx, hZ, hown, hby, hml, hret, hlk, hnm, rfl, hE, hws⟩ := C
  obtain ⟨T', h', X', e2, E, A, Dd, -, stp⟩ := newO X hx hZ hown w wi wz e1 (g := mkF m pc Ls st) rfl (hb hby hd) hc hs
  obtain ⟨s2, o, q, r⟩ := k h' h.size rfl (e1 ▸ X.same.2.1) E A Dd T' locs X' e2 N
  exact ⟨s2, o, stp _ q, r⟩
/-- an array of n places, place i holding f i -/
def Af (Z : State) (h : Heap) (a : Addr) (ty : FieldType) (n : Nat) (f : Nat → Value) : Prop := ∃ k : Cell, Arr Z h a k ty ∧ k.slots.size = n ∧ n < 2 ^ 31 ∧ (∀ i, i < n → k.slots[i]? = some (f i)) ∧ ∀ i, i < n → fits ty (f i) = true
def upd (f : Nat → Value) (i : Nat) (v : Value) : Nat → Value := fun j => if j = i then v else f j
theorem upd_same {f : Nat → Value} {i : Nat} {v : Value} : upd f i v i = v := if_pos rfl
theorem upd_other {f : Nat → Value} {i j : Nat} {v : Value} (q : j ≠ i) : upd f i v j = f j := if_neg q
theorem Af.lt {a : Addr} {ty : FieldType} {n : Nat} {f : Nat → Value} (A : Af Z h a ty n f) : a < h.size := by obtain ⟨k, A, -⟩ := A; exact A.lt
theorem Af.ext {h' : Heap} {a : Addr} {ty : FieldType} {n : Nat} {f : Nat → Value} (A : Af Z h a ty n f) (E : Ext h h') : Af Z h' a ty n f := by obtain ⟨k, A, r⟩ := A; exact ⟨k, A.ext E, r⟩
theorem Af.keep {h' : Heap} {a : Addr} {ty : FieldType} {n : Nat} {f : Nat → Value} (A : Af Z h a ty n f) (K : Keep h h' ws) (q : a ∉ ws) : Af Z h' a ty n f := by obtain ⟨k, A, r⟩ := A; exact ⟨k, ⟨K.2.1 a k A.1 q, A.2⟩, r⟩
theorem Af.other {h' : Heap} {a b : Addr} {sl : Nat} {v : Value} {ty : FieldType} {n : Nat} {f : Nat → Value} (A : Af Z h a ty n f) (W : Wr h h' b sl v) (q : a ≠ b) : Af Z h' a ty n f := by obtain ⟨k, A, r⟩ := A; exact ⟨k, A.other W q, r⟩
theorem Af.same {h' : Heap} {a : Addr} {i : Nat} {v : Value} {ty : FieldType} {n : Nat} {f : Nat → Value} (A : Af Z h a ty n f) (W : Wr h h' a i v) (hv : fits ty v = true) : Af Z h' a ty n (upd f i v) := by
  obtain ⟨k, A, h1, h2, h3, h4⟩ := A
  refine ⟨_, A.same W, by rw [sz_set]; exact h1, h2, fun j hj => ?_, fun j hj => ?_⟩
  · by_cases z : j = i
    · subst z; rw [upd_same]; simp [Cell.setSlot, h1, hj]
    · rw [upd_other z, ← h3 j hj]; exact Array.getElem?_setIfInBounds_ne (Ne.symm z)
  · by_cases z : j = i
    · subst z; rw [upd_same]; exact hv
    · rw [upd_other z]; exact h4 j hj
theorem Af.new {a : Addr} {ty : FieldType} {k : ClassId} {z : Int32} {n : Nat} (A : Arr Z h a (newA k ty z) ty) (q : z.toNatClampNeg = n) (hn : n < 2 ^ 31) : Af Z h a ty n (fun _ => defaultValue ty) :=
  ⟨_, A, (sz_new _ _ _).trans q, hn, fun i hi => by simp [newA, q, hi], fun i hi => by cases ty <;> rfl⟩
theorem Af.arv {a : Addr} {ty : FieldType} {n : Nat} {f : Nat → Value} (A : Af Z h a ty n f) (d : Value) : ∃ kC, Arv Z h a kC ty (Int32.ofNat n) ((List.range n).map f) d := by
  obtain ⟨k, A, h1, h2, h3, h4⟩ := A
  have e1 : (Int32.ofNat n).toNatClampNeg = n := by
    have e0 : (Int32.ofNat n).toInt = (n : Int) := Int32.toInt_ofNat_small h2
    rw [Int32.toNatClampNeg, e0]; rfl
  have e2 : ¬ Int32.ofNat n < 0 := by
    have e0 : (Int32.ofNat n).toInt = (n : Int) := Int32.toInt_ofNat_small h2
    rw [Int32.lt_iff_toInt_lt, e0]; simp
  have e3 : ∀ i, i < n → ((List.range n).map f).getD i d = f i := fun i hi => by simp [List.getD_eq_getElem?_getD, hi]
  exact ⟨k.cls, k, A, rfl, by rw [h1, e1], e2, fun i hi => by rw [e3 i (h1 ▸ hi)]; exact h3 i (h1 ▸ hi), fun i hi => by rw [e3 i (h1 ▸ hi)]; exact h4 i (h1 ▸ hi)⟩
theorem Arv.af {a : Addr} {kC : ClassId} {ty : FieldType} {z : Int32} {vs : List Value} {d : Value} (A : Arv Z h a kC ty z vs d) {n : Nat} (hn : z.toNatClampNeg = n) : Af Z h a ty n (fun i => vs.getD i d) := by
  obtain ⟨k, A, -, h1, h2, h3, h4⟩ := A
  have e1 : k.slots.size = n := h1.trans hn
  exact ⟨k, A, e1, by have := (back32 h2).2; omega, fun i hi => h3 i (e1 ▸ hi), fun i hi => h4 i (e1 ▸ hi)⟩
theorem Af.congr {a : Addr} {ty : FieldType} {n : Nat} {f g : Nat → Value} (A : Af Z h a ty n f) (q : ∀ i, i < n → g i = f i) : Af Z h a ty n g := by
  obtain ⟨k, A, h1, h2, h3, h4⟩ := A
  exact ⟨k, A, h1, h2, fun i hi => by rw [q i hi]; exact h3 i hi, fun i hi => by rw [q i hi]; exact h4 i hi⟩
theorem af_in {k : Cell} {j : Int32} {i n : Nat} (h1 : k.slots.size = n) (hj : ¬ j < 0) (hi : j.toNatClampNeg = i) (hn : i < n) : ¬ (j < 0 ∨ k.slots.size ≤ j.toNatClampNeg) := by
  rintro (q | q)
  · exact hj q
  · omega
theorem g_newarray (C : Cx p s m meth c Z h0 ws own nm bytes maxL ret) {aty : ArrayType} {z : Int32} {n : Nat} (w : (Jvm.Cond.arrayClass (newarray.typeOf aty)).before a0 Z = true) (hz : ¬ z < 0) (hn : z.toNatClampNeg = n) (hbig : n ≤ 67108864) (hd : decode bytes pc = .ok (.newarray aty, 2)) (hp : pc + 2 = pc') (hc : cells + 1 ≤ R.cells) (hs : slots + n ≤ R.slots) (k : ∀ h' a, a = h.size → h0.size ≤ a → Ext h h' → Af Z h' a (newarray.typeOf aty) n (fun _ => defaultValue (newarray.typeOf aty)) → G p l e R s m args below meth c ws Φ h' (cells + 1) (slots + n) pc' Ls (.ref a :: st)) : G p l e R s m args below meth c ws Φ h cells slots pc Ls (.int z :: st) := by
  intro T locs X e1 N
  subst hp
  obtain ⟨hx, hZ, hown, hby, hml, hret, hlk, hnm, rfl, hE, hws⟩ := C
  obtain ⟨T', h', cA, X', e2, E, A, stp⟩ := newP X hx hZ w e1 (g := mkF m pc Ls (.int z :: st)) rfl (hb hby hd) rfl hz (cap := n) (Nat.le_of_eq hn) (by omega) hc hs
  obtain ⟨s2, o, q, r⟩ := k h' h.size rfl (e1 ▸ X.same.2.1) E (Af.new A hn (by omega)) T' locs X' e2 N
  exact ⟨s2, o, stp _ q, r⟩
/-- an array over the class Cn -/
def OvA (Z : State) (h : Heap) (a : Addr) (Cn : String) : Prop := ∃ kA : Cell, h[a]? = some kA ∧ Ovr Z kA.cls Cn
theorem OvA.lt {a : Addr} {Cn : String} (O : OvA Z h a Cn) : a < h.size := by obtain ⟨kA, h1, -⟩ := O; exact (Array.getElem?_eq_some_iff.mp h1).1
theorem OvA.keep {h' : Heap} {a : Addr} {Cn : String} (O : OvA Z h a Cn) (K : Keep h h' ws) : OvA Z h' a Cn := by
  obtain ⟨kA, h1, h2⟩ := O; obtain ⟨k', q1, q2, -⟩ := K.2.2 a kA h1; exact ⟨k', q1, by rw [q2]; exact h2⟩
theorem OvA.ext {h' : Heap} {a : Addr} {Cn : String} (O : OvA Z h a Cn) (E : Ext h h') : OvA Z h' a Cn := by
  obtain ⟨kA, h1, h2⟩ := O; exact ⟨kA, E.2 _ _ h1, h2⟩
theorem OvA.sto {a y : Addr} {Cn : String} {ty : FieldType} {n : Nat} {f : Nat → Value} (O : OvA Z h a Cn) (A : Af Z h a ty n f) (I : Ins Z h y Cn true) : Sto Z h a (.ref y) := by
  obtain ⟨kA, h1, h2⟩ := O; obtain ⟨kB, A0, -⟩ := A; cases h1.symm.trans A0.1; exact Sto.of A0 h2 I
theorem g_anewarray (C : Cx p s m meth c Z h0 ws own nm bytes maxL ret) {Cn : String} {index : Nat} {z : Int32} {n : Nat} (w : (Jvm.Cond.classLink own index Cn).before a0 Z = true) (w2 : (Jvm.Cond.arrayOver (.object Cn)).before a0 Z = true) (hz : ¬ z < 0) (hn : z.toNatClampNeg = n) (hbig : n ≤ 67108864) (hd : decode bytes pc = .ok (.anewarray index, 3)) (hp : pc + 3 = pc') (hc : cells + 1 ≤ R.cells) (hs : slots + n ≤ R.slots) (k : ∀ h' a, a = h.size → h0.size ≤ a → Ext h h' → Af Z h' a (.object Cn) n (fun _ => .null) → OvA Z h' a Cn → G p l e R s m args below meth c ws Φ h' (cells + 1) (slots + n) pc' Ls (.ref a :: st)) : G p l e R s m args below meth c ws Φ h cells slots pc Ls (.int z :: st) := by
  intro T locs X e1 N
  subst hp
  obtain ⟨hx, hZ, hown, hby, hml, hret, hlk, hnm, rfl, hE, hws⟩ := C
  obtain ⟨T', h', cA, X', e2, E, A, Ov, stp⟩ := newR X hx hZ hown w w2 e1 (g := mkF m pc Ls (.int z :: st)) rfl (hb hby hd) rfl hz (cap := n) (Nat.le_of_eq hn) (by omega) hc hs
  obtain ⟨s2, o, q, r⟩ := k h' h.size rfl (e1 ▸ X.same.2.1) E (Af.new A hn (by omega)) ⟨_, A.1, Ov⟩ T' locs X' e2 N
  exact ⟨s2, o, stp _ q, r⟩
theorem g_castore (C : Cx p s m meth c Z h0 ws own nm bytes maxL ret) {a : Addr} {n i : Nat} {f : Nat → Value} {j : Int32} {x : Int32} (A : Af Z h a .char n f) (hj : ¬ j < 0) (hi : j.toNatClampNeg = i) (hn : i < n) (ha : a ∈ ws ∨ h0.size ≤ a) (hd : decode bytes pc = .ok (.castore, 1)) (hp : pc + 1 = pc') (k : ∀ h', Wr h h' a i (.int (nar .char x)) → Af Z h' a .char n (upd f i (.int (nar .char x))) → G p l e R s m args below meth c ws Φ h' cells slots pc' Ls st) : G p l e R s m args below meth c ws Φ h cells slots pc Ls (.int x :: .int j :: .ref a :: st) := by
  intro T locs X e1 N
  subst hp hi
  obtain ⟨hx, hZ, hown, hby, hml, hret, hlk, hnm, rfl, hE, hws⟩ := C
  obtain ⟨kk, A0, h1, -⟩ := id A
  obtain ⟨T', h', X', e2, W, stp⟩ := stC X hx hZ e1 A0 (af_in h1 hj rfl hn) (g := mkF m pc Ls (.int x :: .int j :: .ref a :: st)) rfl rfl (hb hby hd)
  obtain ⟨s2, o, q, r⟩ := k h' W (A.same W (fits_nar_char x)) T' _ X' e2 (N.app (Lw.one ha))
  exact ⟨s2, o, stp _ q, r⟩
theorem g_iastore (C : Cx p s m meth c Z h0 ws own nm bytes maxL ret) {a : Addr} {n i : Nat} {f : Nat → Value} {j : Int32} {x : Int32} (A : Af Z h a .int n f) (hj : ¬ j < 0) (hi : j.toNatClampNeg = i) (hn : i < n) (ha : a ∈ ws ∨ h0.size ≤ a) (hd : decode bytes pc = .ok (.iastore, 1)) (hp : pc + 1 = pc') (k : ∀ h', Wr h h' a i (.int x) → Af Z h' a .int n (upd f i (.int x)) → G p l e R s m args below meth c ws Φ h' cells slots pc' Ls st) : G p l e R s m args below meth c ws Φ h cells slots pc Ls (.int x :: .int j :: .ref a :: st) := by
  intro T locs X e1 N
  subst hp hi
  obtain ⟨hx, hZ, hown, hby, hml, hret, hlk, hnm, rfl, hE, hws⟩ := C
  obtain ⟨kk, A0, h1, -⟩ := id A
  obtain ⟨T', h', X', e2, W, stp⟩ := stI X hx hZ e1 A0 (af_in h1 hj rfl hn) (g := mkF m pc Ls (.int x :: .int j :: .ref a :: st)) rfl rfl (hb hby hd)
  obtain ⟨s2, o, q, r⟩ := k h' W (A.same W (rfl)) T' _ X' e2 (N.app (Lw.one ha))
  exact ⟨s2, o, stp _ q, r⟩
theorem g_bastore (C : Cx p s m meth c Z h0 ws own nm bytes maxL ret) {a : Addr} {n i : Nat} {f : Nat → Value} {j : Int32} {x : Int32} (A : Af Z h a .byte n f) (hj : ¬ j < 0) (hi : j.toNatClampNeg = i) (hn : i < n) (ha : a ∈ ws ∨ h0.size ≤ a) (hd : decode bytes pc = .ok (.bastore, 1)) (hp : pc + 1 = pc') (k : ∀ h', Wr h h' a i (.int (nar .byte x)) → Af Z h' a .byte n (upd f i (.int (nar .byte x))) → G p l e R s m args below meth c ws Φ h' cells slots pc' Ls st) : G p l e R s m args below meth c ws Φ h cells slots pc Ls (.int x :: .int j :: .ref a :: st) := by
  intro T locs X e1 N
  subst hp hi
  obtain ⟨hx, hZ, hown, hby, hml, hret, hlk, hnm, rfl, hE, hws⟩ := C
  obtain ⟨kk, A0, h1, -⟩ := id A
  obtain ⟨T', h', X', e2, W, stp⟩ := stB X hx hZ e1 A0 (af_in h1 hj rfl hn) (g := mkF m pc Ls (.int x :: .int j :: .ref a :: st)) rfl rfl (hb hby hd)
  obtain ⟨s2, o, q, r⟩ := k h' W (A.same W (fits_nar_byte x)) T' _ X' e2 (N.app (Lw.one ha))
  exact ⟨s2, o, stp _ q, r⟩
theorem g_lastore (C : Cx p s m meth c Z h0 ws own nm bytes maxL ret) {a : Addr} {n i : Nat} {f : Nat → Value} {j : Int32} {x : Int64} (A : Af Z h a .long n f) (hj : ¬ j < 0) (hi : j.toNatClampNeg = i) (hn : i < n) (ha : a ∈ ws ∨ h0.size ≤ a) (hd : decode bytes pc = .ok (.lastore, 1)) (hp : pc + 1 = pc') (k : ∀ h', Wr h h' a i (.long x) → Af Z h' a .long n (upd f i (.long x)) → G p l e R s m args below meth c ws Φ h' cells slots pc' Ls st) : G p l e R s m args below meth c ws Φ h cells slots pc Ls (.long x :: .int j :: .ref a :: st) := by
  intro T locs X e1 N
  subst hp hi
  obtain ⟨hx, hZ, hown, hby, hml, hret, hlk, hnm, rfl, hE, hws⟩ := C
  obtain ⟨kk, A0, h1, -⟩ := id A
  obtain ⟨T', h', X', e2, W, stp⟩ := stJ X hx hZ e1 A0 (af_in h1 hj rfl hn) (g := mkF m pc Ls (.long x :: .int j :: .ref a :: st)) rfl rfl (hb hby hd)
  obtain ⟨s2, o, q, r⟩ := k h' W (A.same W (rfl)) T' _ X' e2 (N.app (Lw.one ha))
  exact ⟨s2, o, stp _ q, r⟩
theorem g_aastore (C : Cx p s m meth c Z h0 ws own nm bytes maxL ret) {a : Addr} {n i : Nat} {f : Nat → Value} {j : Int32} {v : Value} {ty : FieldType} (A : Af Z h a ty n f) (hty : ty.isReference = true) (S : Sto Z h a v) (hfv : fits ty v = true) (hj : ¬ j < 0) (hi : j.toNatClampNeg = i) (hn : i < n) (ha : a ∈ ws ∨ h0.size ≤ a) (hd : decode bytes pc = .ok (.aastore, 1)) (hp : pc + 1 = pc') (k : ∀ h', Wr h h' a i v → Af Z h' a ty n (upd f i v) → G p l e R s m args below meth c ws Φ h' cells slots pc' Ls st) : G p l e R s m args below meth c ws Φ h cells slots pc Ls (v :: .int j :: .ref a :: st) := by
  intro T locs X e1 N
  subst hp hi
  obtain ⟨hx, hZ, hown, hby, hml, hret, hlk, hnm, rfl, hE, hws⟩ := C
  obtain ⟨kk, A0, h1, -⟩ := id A
  obtain ⟨T', h', X', e2, W, stp⟩ := stR X hx hZ e1 A0 (af_in h1 hj rfl hn) hty S (g := mkF m pc Ls (v :: .int j :: .ref a :: st)) rfl rfl (hb hby hd)
  obtain ⟨s2, o, q, r⟩ := k h' W (A.same W hfv) T' _ X' e2 (N.app (Lw.one ha))
  exact ⟨s2, o, stp _ q, r⟩
theorem g_caload (C : Cx p s m meth c Z h0 ws own nm bytes maxL ret) {a : Addr} {n i : Nat} {f : Nat → Value} {j : Int32} {v : Value} (A : Af Z h a .char n f) (hj : ¬ j < 0) (hi : j.toNatClampNeg = i) (hn : i < n) (hv : f i = v) (hd : decode bytes pc = .ok (.caload, 1)) (hp : pc + 1 = pc') (k : G p l e R s m args below meth c ws Φ h cells slots pc' Ls (v :: st)) : G p l e R s m args below meth c ws Φ h cells slots pc Ls (.int j :: .ref a :: st) := by
  subst hp hi hv
  obtain ⟨hx, hZ, hown, hby, hml, hret, hlk, hnm, rfl, hE, hws⟩ := C
  obtain ⟨kk, A0, h1, h2, h3, h4⟩ := A
  exact g_ofX (fun T locs X e1 t q => X.caload hx (by rw [e1]; exact A0.1) (State.isArrayOf_alike hZ.alike A0.2.1) A0.2.2 (af_in h1 hj rfl hn) (h3 _ hn) (g := mkF m pc Ls (.int j :: .ref a :: st)) rfl rfl (hb hby hd) _ q) k
theorem g_iaload (C : Cx p s m meth c Z h0 ws own nm bytes maxL ret) {a : Addr} {n i : Nat} {f : Nat → Value} {j : Int32} {v : Value} (A : Af Z h a .int n f) (hj : ¬ j < 0) (hi : j.toNatClampNeg = i) (hn : i < n) (hv : f i = v) (hd : decode bytes pc = .ok (.iaload, 1)) (hp : pc + 1 = pc') (k : G p l e R s m args below meth c ws Φ h cells slots pc' Ls (v :: st)) : G p l e R s m args below meth c ws Φ h cells slots pc Ls (.int j :: .ref a :: st) := by
  subst hp hi hv
  obtain ⟨hx, hZ, hown, hby, hml, hret, hlk, hnm, rfl, hE, hws⟩ := C
  obtain ⟨kk, A0, h1, h2, h3, h4⟩ := A
  exact g_ofX (fun T locs X e1 t q => X.iaload hx (by rw [e1]; exact A0.1) (State.isArrayOf_alike hZ.alike A0.2.1) A0.2.2 (af_in h1 hj rfl hn) (h3 _ hn) (g := mkF m pc Ls (.int j :: .ref a :: st)) rfl rfl (hb hby hd) _ q) k
theorem g_baload (C : Cx p s m meth c Z h0 ws own nm bytes maxL ret) {a : Addr} {n i : Nat} {f : Nat → Value} {j : Int32} {v : Value} (A : Af Z h a .byte n f) (hj : ¬ j < 0) (hi : j.toNatClampNeg = i) (hn : i < n) (hv : f i = v) (hd : decode bytes pc = .ok (.baload, 1)) (hp : pc + 1 = pc') (k : G p l e R s m args below meth c ws Φ h cells slots pc' Ls (v :: st)) : G p l e R s m args below meth c ws Φ h cells slots pc Ls (.int j :: .ref a :: st) := by
  subst hp hi hv
  obtain ⟨hx, hZ, hown, hby, hml, hret, hlk, hnm, rfl, hE, hws⟩ := C
  obtain ⟨kk, A0, h1, h2, h3, h4⟩ := A
  exact g_ofX (fun T locs X e1 t q => X.baloadBytes hx (by rw [e1]; exact A0.1) (State.isArrayOf_alike hZ.alike A0.2.1) A0.2.2 (af_in h1 hj rfl hn) (h3 _ hn) (g := mkF m pc Ls (.int j :: .ref a :: st)) rfl rfl (hb hby hd) _ q) k
theorem g_laload (C : Cx p s m meth c Z h0 ws own nm bytes maxL ret) {a : Addr} {n i : Nat} {f : Nat → Value} {j : Int32} {v : Value} (A : Af Z h a .long n f) (hj : ¬ j < 0) (hi : j.toNatClampNeg = i) (hn : i < n) (hv : f i = v) (hd : decode bytes pc = .ok (.laload, 1)) (hp : pc + 1 = pc') (k : G p l e R s m args below meth c ws Φ h cells slots pc' Ls (v :: st)) : G p l e R s m args below meth c ws Φ h cells slots pc Ls (.int j :: .ref a :: st) := by
  subst hp hi hv
  obtain ⟨hx, hZ, hown, hby, hml, hret, hlk, hnm, rfl, hE, hws⟩ := C
  obtain ⟨kk, A0, h1, h2, h3, h4⟩ := A
  exact g_ofX (fun T locs X e1 t q => X.laload hx (by rw [e1]; exact A0.1) (State.isArrayOf_alike hZ.alike A0.2.1) A0.2.2 (af_in h1 hj rfl hn) (h3 _ hn) (g := mkF m pc Ls (.int j :: .ref a :: st)) rfl rfl (hb hby hd) _ q) k
theorem g_aaload (C : Cx p s m meth c Z h0 ws own nm bytes maxL ret) {a : Addr} {n i : Nat} {f : Nat → Value} {j : Int32} {v : Value} {ty : FieldType} (A : Af Z h a ty n f) (hty : ty.isReference = true) (hj : ¬ j < 0) (hi : j.toNatClampNeg = i) (hn : i < n) (hv : f i = v) (hd : decode bytes pc = .ok (.aaload, 1)) (hp : pc + 1 = pc') (k : G p l e R s m args below meth c ws Φ h cells slots pc' Ls (v :: st)) : G p l e R s m args below meth c ws Φ h cells slots pc Ls (.int j :: .ref a :: st) := by
  subst hp hi hv
  obtain ⟨hx, hZ, hown, hby, hml, hret, hlk, hnm, rfl, hE, hws⟩ := C
  obtain ⟨kk, A0, h1, h2, h3, h4⟩ := A
  exact g_ofX (fun T locs X e1 t q => X.aaload hx (by rw [e1]; exact A0.1) (State.isArrayOf_alike hZ.alike A0.2.1) hty A0.2.2 (af_in h1 hj rfl hn) (h3 _ hn) (g := mkF m pc Ls (.int j :: .ref a :: st)) rfl rfl (hb hby hd) _ q) k
theorem g_arraylength (C : Cx p s m meth c Z h0 ws own nm bytes maxL ret) {a : Addr} {n : Nat} {f : Nat → Value} {ty : FieldType} {z : Int32} (A : Af Z h a ty n f) (hz : Int32.ofNat n = z) (hd : decode bytes pc = .ok (.arraylength, 1)) (hp : pc + 1 = pc') (k : G p l e R s m args below meth c ws Φ h cells slots pc' Ls (.int z :: st)) : G p l e R s m args below meth c ws Φ h cells slots pc Ls (.ref a :: st) := by
  subst hp hz
  obtain ⟨hx, hZ, hown, hby, hml, hret, hlk, hnm, rfl, hE, hws⟩ := C
  obtain ⟨kk, A0, h1, h2, h3, h4⟩ := A
  subst h1
  exact g_ofX (fun T locs X e1 t q => X.arraylength hx (by rw [e1]; exact A0.1) (State.isArrayOf_alike hZ.alike A0.2.1) (g := mkF m pc Ls (.ref a :: st)) rfl rfl (hb hby hd) _ q) k
theorem g_ldcInt (C : Cx p s m meth c Z h0 ws own nm bytes maxL ret) {index : Nat} {x : Int32} (w : (Jvm.Cond.constant own index x).before a0 Z = true) (hd : decode bytes pc = .ok (.ldc index, 2)) (hp : pc + 2 = pc') (k : G p l e R s m args below meth c ws Φ h cells slots pc' Ls (.int x :: st)) : G p l e R s m args below meth c ws Φ h cells slots pc Ls st := by
  subst hp
  obtain ⟨hx, hZ, hown, hby, hml, hret, hlk, hnm, rfl, hE, hws⟩ := C
  exact g_ofX (fun T locs X e1 t q => X.ldcInt hx hown (mvT hZ w) (g := mkF m pc Ls st) rfl (hb hby hd) _ q) k
theorem g_ldc2Long (C : Cx p s m meth c Z h0 ws own nm bytes maxL ret) {index : Nat} {x : Int64} (w : (Jvm.Cond.constantLong own index x).before a0 Z = true) (hd : decode bytes pc = .ok (.ldc2_w index, 3)) (hp : pc + 3 = pc') (k : G p l e R s m args below meth c ws Φ h cells slots pc' Ls (.long x :: st)) : G p l e R s m args below meth c ws Φ h cells slots pc Ls st := by
  subst hp
  obtain ⟨hx, hZ, hown, hby, hml, hret, hlk, hnm, rfl, hE, hws⟩ := C
  exact g_ofX (fun T locs X e1 t q => X.ldc2Long hx hown (mvT hZ w) (g := mkF m pc Ls st) rfl (hb hby hd) _ q) k
theorem g_checkcast (C : Cx p s m meth c Z h0 ws own nm bytes maxL ret) {Kn : String} {index : Nat} {a : Addr} (w : (Jvm.Cond.classLink own index Kn).before a0 Z = true) (I : Ins Z h a Kn true) (hd : decode bytes pc = .ok (.checkcast index, 3)) (hp : pc + 3 = pc') (k : G p l e R s m args below meth c ws Φ h cells slots pc' Ls (.ref a :: st)) : G p l e R s m args below meth c ws Φ h cells slots pc Ls (.ref a :: st) := by
  intro T locs X e1 N
  subst hp
  obtain ⟨hx, hZ, hown, hby, hml, hret, hlk, hnm, rfl, hE, hws⟩ := C
  obtain ⟨T', X', e2, stp⟩ := castY X hx hZ hown w e1 I (g := mkF m pc Ls (.ref a :: st)) rfl rfl (hb hby hd)
  obtain ⟨s2, o, q, r⟩ := k T' locs X' e2 N
  exact ⟨s2, o, stp _ q, r⟩
theorem g_instanceofY (C : Cx p s m meth c Z h0 ws own nm bytes maxL ret) {Kn : String} {index : Nat} {a : Addr} (w : (Jvm.Cond.classLink own index Kn).before a0 Z = true) (I : Ins Z h a Kn true) (hd : decode bytes pc = .ok (.instanceof index, 3)) (hp : pc + 3 = pc') (k : G p l e R s m args below meth c ws Φ h cells slots pc' Ls (.int 1 :: st)) : G p l e R s m args below meth c ws Φ h cells slots pc Ls (.ref a :: st) := by
  intro T locs X e1 N
  subst hp
  obtain ⟨hx, hZ, hown, hby, hml, hret, hlk, hnm, rfl, hE, hws⟩ := C
  obtain ⟨T', X', e2, stp⟩ := instY X hx hZ hown w e1 I (g := mkF m pc Ls (.ref a :: st)) rfl rfl (hb hby hd)
  obtain ⟨s2, o, q, r⟩ := k T' locs X' e2 N
  exact ⟨s2, o, stp _ q, r⟩
theorem g_objinit (C : Cx p s m meth c Z h0 ws own nm bytes maxL ret) {index : Nat} {a : Addr} (w1 : (Jvm.Cond.methodLink own index Lib.objectInit).before a0 Z = true) (w2 : (Jvm.Cond.instanceMethod Lib.objectInit).before a0 Z = true) (w3 : (Jvm.Cond.code Lib.objectInit ⟨#[0xb1]⟩ 1 none).before a0 Z = true) (hsz : Ls.size = maxL) (hf : 1 ≤ R.frames) (hl : (st.map fun v => v.category).sum + 12 ≤ R.locals) (hd : decode bytes pc = .ok (.invokespecial index, 3)) (hp : pc + 3 = pc') (k : G p l e R s m args below meth c ws Φ h cells slots pc' Ls st) : G p l e R s m args below meth c ws Φ h cells slots pc Ls (.ref a :: st) := by
  intro T locs X e1 N
  subst hp
  obtain ⟨hx, hZ, hown, hby, hml, hret, hlk, hnm, rfl, hE, hws⟩ := C
  obtain ⟨T', X', e2, stp⟩ := initO X hx hZ hown w1 w2 w3 e1 (g := mkF m pc Ls (.ref a :: st)) rfl (by rw [hml]; exact hsz) rfl (hb hby hd) hf (W := (st.map fun v => v.category).sum) (by show 2 * 0 + _ ≤ _; omega) hl
  obtain ⟨s2, o, q, r⟩ := k T' locs X' e2 N
  exact ⟨s2, o, stp _ q, r⟩
theorem Con.of {y : MethodName} {rm : Room} {as' : Array Value} {tw : List Jvm.Cond} (hy : plainFor y = true) (hf : ∀ m, entryFrame m as' maxL = mkF m 0 Ls []) (body : ∀ p e s m below meth c, Cx p s m meth c Z h ws y.cls y.name bytes maxL ret → G p l e rm s m as' below meth c ws (EndA s ws Q rm.cells rm.slots) h 0 0 0 Ls []) : Con l Z ws y bytes maxL ret rm as' h tw Q := by
  intro hE hws
  refine MetFree.of_bodySF hy hisR ?_
  intro p e s m args below meth c s₁ Bd hml0 hP hK
  obtain ⟨rfl, hZ, rfl⟩ := hP
  have X0 : Stand p l e rm s m args below meth c s₁ [] 0 0 := Stand.of_body Bd
  have e0 : s₁.heap = s.heap := by rw [Bd.state]; rfl
  obtain ⟨s2, o, q, r⟩ := body p e s m below meth c ⟨Bd.exec, hZ, findClass_of_methodNamed Bd.named, Bd.bytes, hml0, Bd.returns, Bd.notSynchronized, (name_of_methodNamed Bd.named Bd.method).1, rfl, hE, hws⟩ s₁ [] X0 e0 Lw.nil
  exact ⟨s2, o, castTop (hf m) q, r⟩
theorem Con.bk {y : MethodName} {bytes' : ByteArray} {maxL' : Nat} {ret' : Option FieldType} {rm : Room} {as' : Array Value} {Q' : Option Value → Heap → Prop} {W len : Nat} (hZ : Z.Warmed39 s.vm) (M : Con l Z ws' y bytes' maxL' ret' rm as' h [] Q') (hE : Ext Z.heap h) (hws : ∀ x ∈ ws', Z.heap.size ≤ x) (w4 : (Jvm.Cond.code y bytes' maxL' ret').before a0 Z = true) (w3 : (Jvm.Cond.initialized y.cls).before a0 Z = true) (hf : rm.frames + 1 ≤ R.frames) (hl : W + (maxL' + 11) + rm.locals ≤ R.locals) :
    Bk l R p e below s args y len W as' h rm.cells rm.slots (fun v h' L => Q' v h' ∧ Keep h h' ws' ∧ Lw h.size ws' L) :=
  backOf (h := h) (as' := as') (Q := fun v h' L => Q' v h' ∧ Keep h h' ws' ∧ Lw h.size ws' L) (M hE hws) hZ w4 w3 hf hl
theorem lw_sub {k0 k : Nat} {L : List Loc} (N : Lw k ws' L) (hk : k0 ≤ k) (hsub : ∀ x ∈ ws', x ∈ ws ∨ k0 ≤ x) : Lw k0 ws L := fun y hy => (N y hy).elim (hsub _) fun q => Or.inr (Nat.le_trans hk q)
theorem ws_sub {ws ws' : List Addr} {k0 kz : Nat} (hsub : ∀ x ∈ ws', x ∈ ws ∨ k0 ≤ x) (hws : ∀ x ∈ ws, kz ≤ x) (hk : kz ≤ k0) : ∀ x ∈ ws', kz ≤ x := fun x hx => (hsub x hx).elim (hws x) (Nat.le_trans hk)
theorem g_static (C : Cx p s m meth c Z h0 ws own nm bytes maxL ret) {index : Nat} {y : MethodName} {bytes' : ByteArray} {maxL' : Nat} {ret' : Option FieldType} (w1 : (Jvm.Cond.methodLink own index y).before a0 Z = true) (w2 : (Jvm.Cond.static y).before a0 Z = true) (w3 : (Jvm.Cond.initialized y.cls).before a0 Z = true) (w4 : (Jvm.Cond.code y bytes' maxL' ret').before a0 Z = true) (hy : y.cls ≠ "java/lang/invoke/MethodHandle" ∧ y.cls ≠ "java/lang/invoke/VarHandle") {W kb sb : Nat} {argsL : List Value} {Qb : Option Value → Heap → List Loc → Prop} (B : Bk l R p e below s args y 3 W argsL.toArray h kb sb Qb) (hsz : Ls.size = maxL) (hlen : ∀ sig, parseMethodDescriptor y.desc = some sig → argsL.length = sig.parameters.length) (hst : st = argsL.reverse ++ rest) (hW : (rest.map fun v => v.category).sum ≤ W) (hd : decode bytes pc = .ok (.invokestatic index, 3)) (hp : pc + 3 = pc') (hc : cells + kb ≤ R.cells) (hs : slots + sb ≤ R.slots) (k : ∀ v h' L, Qb v h' L → Lw h0.size ws L ∧ G p l e R s m args below meth c ws Φ h' (cells + kb) (slots + sb) pc' Ls (v.toList ++ rest)) : G p l e R s m args below meth c ws Φ h cells slots pc Ls st := by
  intro T locs X e1 N
  subst hp hst
  obtain ⟨hx, hZ, hown, hby, hml, hret, hlk, hnm, rfl, hE, hws⟩ := C
  obtain ⟨v, vm1, ⟨T', L', k', n'⟩, -, X', ⟨L, hQ, hl, hk, hn⟩, stp⟩ := Jvm.LawKit.callS X hx hown (mvT hZ w1) (mvT hZ w2) (mvT hZ w3) (mvT hZ w4) hy B (g := mkF m pc Ls (argsL.reverse ++ rest)) rfl (by rw [hml]; exact hsz) (argsL := argsL) (rest := rest) hlen rfl (by show 2 * 0 + _ ≤ _; omega) (hb hby hd) (fun _ _ => ⟨rfl, e1, hc, hs⟩)
  dsimp only [Pt.U, Pt.locs, Pt.cells, Pt.slots] at X' hl hk hn stp hQ
  subst hl hk hn
  obtain ⟨hF, k1⟩ := k _ _ _ hQ
  obtain ⟨s2, o, q, r⟩ := k1 T' _ X' rfl (N.app hF)
  exact ⟨s2, o, stp _ q, r⟩
theorem g_staticC (C : Cx p s m meth c Z h0 ws own nm bytes maxL ret) {index : Nat} {y : MethodName} {bytes' : ByteArray} {maxL' : Nat} {ret' : Option FieldType} {W : Nat} {argsL : List Value} {rm : Room} {Q' : Option Value → Heap → Prop} (M : Con l Z ws' y bytes' maxL' ret' rm argsL.toArray h [] Q') (w1 : (Jvm.Cond.methodLink own index y).before a0 Z = true) (w2 : (Jvm.Cond.static y).before a0 Z = true) (w3 : (Jvm.Cond.initialized y.cls).before a0 Z = true) (w4 : (Jvm.Cond.code y bytes' maxL' ret').before a0 Z = true) (hy : y.cls ≠ "java/lang/invoke/MethodHandle" ∧ y.cls ≠ "java/lang/invoke/VarHandle") (hsz : Ls.size = maxL) (hlen : ∀ sig, parseMethodDescriptor y.desc = some sig → argsL.length = sig.parameters.length) (hst : st = argsL.reverse ++ rest) (hW : (rest.map fun v => v.category).sum ≤ W) (hd : decode bytes pc = .ok (.invokestatic index, 3)) (hp : pc + 3 = pc') (hc : cells + rm.cells ≤ R.cells) (hs : slots + rm.slots ≤ R.slots) (hsub : ∀ x ∈ ws', x ∈ ws ∨ h0.size ≤ x) (hf : rm.frames + 1 ≤ R.frames) (hl : W + (maxL' + 11) + rm.locals ≤ R.locals) (k : ∀ v h', Q' v h' → Keep h h' ws' → G p l e R s m args below meth c ws Φ h' (cells + rm.cells) (slots + rm.slots) pc' Ls (v.toList ++ rest)) : G p l e R s m args below meth c ws Φ h cells slots pc Ls st :=
  g_ctx C fun K0 E0 => g_static C w1 w2 w3 w4 hy (M.bk C.2.1 E0 (ws_sub hsub C.2.2.2.2.2.2.2.2.2.2 C.2.2.2.2.2.2.2.2.2.1.1) w4 w3 hf hl) hsz hlen hst hW hd hp hc hs fun v h' L q => ⟨lw_sub q.2.2 K0.1 hsub, k v h' q.1 q.2.1⟩
theorem g_special (C : Cx p s m meth c Z h0 ws own nm bytes maxL ret) {index : Nat} {y : MethodName} {bytes' : ByteArray} {maxL' : Nat} {a : Addr} (hy1 : y.name = "<init>") (w1 : (Jvm.Cond.methodLink own index y).before a0 Z = true) (w2 : (Jvm.Cond.instanceMethod y).before a0 Z = true) (w4 : (Jvm.Cond.code y bytes' maxL' none).before a0 Z = true) (hy : y.cls ≠ "java/lang/invoke/MethodHandle" ∧ y.cls ≠ "java/lang/invoke/VarHandle") {W kb sb : Nat} {argsL : List Value} {Qb : Option Value → Heap → List Loc → Prop} (B : Bk l R p e below s args y 3 W (.ref a :: argsL).toArray h kb sb Qb) (hsz : Ls.size = maxL) (hlen : ∀ sig, parseMethodDescriptor y.desc = some sig → argsL.length = sig.parameters.length) (hst : st = argsL.reverse ++ .ref a :: rest) (hW : (rest.map fun v => v.category).sum ≤ W) (hd : decode bytes pc = .ok (.invokespecial index, 3)) (hp : pc + 3 = pc') (hc : cells + kb ≤ R.cells) (hs : slots + sb ≤ R.slots) (k : ∀ v h' L, Qb v h' L → Lw h0.size ws L ∧ G p l e R s m args below meth c ws Φ h' (cells + kb) (slots + sb) pc' Ls (v.toList ++ rest)) : G p l e R s m args below meth c ws Φ h cells slots pc Ls st := by
  intro T locs X e1 N
  subst hp hst
  obtain ⟨hx, hZ, hown, hby, hml, hret, hlk, hnm, rfl, hE, hws⟩ := C
  obtain ⟨v, vm1, ⟨T', L', k', n'⟩, -, X', ⟨L, hQ, hl, hk, hn⟩, stp⟩ := X.specialBack hx hy1 hown (mvT hZ w1) (mvT hZ w2) (mvT hZ w4) hy B (g := mkF m pc Ls (argsL.reverse ++ .ref a :: rest)) rfl (by rw [hml]; exact hsz) (Steps.refl _) (a := a) (argsL := argsL) (rest := rest) hlen rfl (by show 2 * 0 + _ ≤ _; omega) (hb hby hd) (fun _ _ => ⟨rfl, e1, hc, hs⟩)
  dsimp only [Pt.U, Pt.locs, Pt.cells, Pt.slots] at X' hl hk hn stp hQ
  subst hl hk hn
  obtain ⟨hF, k1⟩ := k _ _ _ hQ
  obtain ⟨s2, o, q, r⟩ := k1 T' _ X' rfl (N.app hF)
  exact ⟨s2, o, stp.trans q, r⟩
theorem g_specialC (C : Cx p s m meth c Z h0 ws own nm bytes maxL ret) {index : Nat} {y : MethodName} {bytes' : ByteArray} {maxL' : Nat} {W : Nat} {argsL : List Value} {a : Addr} {rm : Room} {Q' : Option Value → Heap → Prop} (M : Con l Z ws' y bytes' maxL' none rm (.ref a :: argsL).toArray h [] Q') (hy1 : y.name = "<init>") (w1 : (Jvm.Cond.methodLink own index y).before a0 Z = true) (w2 : (Jvm.Cond.instanceMethod y).before a0 Z = true) (w3 : (Jvm.Cond.initialized y.cls).before a0 Z = true) (w4 : (Jvm.Cond.code y bytes' maxL' none).before a0 Z = true) (hy : y.cls ≠ "java/lang/invoke/MethodHandle" ∧ y.cls ≠ "java/lang/invoke/VarHandle") (hsz : Ls.size = maxL) (hlen : ∀ sig, parseMethodDescriptor y.desc = some sig → argsL.length = sig.parameters.length) (hst : st = argsL.reverse ++ .ref a :: rest) (hW : (rest.map fun v => v.category).sum ≤ W) (hd : decode bytes pc = .ok (.invokespecial index, 3)) (hp : pc + 3 = pc') (hc : cells + rm.cells ≤ R.cells) (hs : slots + rm.slots ≤ R.slots) (hsub : ∀ x ∈ ws', x ∈ ws ∨ h0.size ≤ x) (hf : rm.frames + 1 ≤ R.frames) (hl : W + (maxL' + 11) + rm.locals ≤ R.locals) (k : ∀ v h', Q' v h' → Keep h h' ws' → G p l e R s m args below meth c ws Φ h' (cells + rm.cells) (slots + rm.slots) pc' Ls (v.toList ++ rest)) : G p l e R s m args below meth c ws Φ h cells slots pc Ls st :=
  g_ctx C fun K0 E0 => g_special C hy1 w1 w2 w4 hy (M.bk C.2.1 E0 (ws_sub hsub C.2.2.2.2.2.2.2.2.2.2 C.2.2.2.2.2.2.2.2.2.1.1) w4 w3 hf hl) hsz hlen hst hW hd hp hc hs fun v h' L q => ⟨lw_sub q.2.2 K0.1 hsub, k v h' q.1 q.2.1⟩
theorem g_virtual (C : Cx p s m meth c Z h0 ws own nm bytes maxL ret) {index : Nat} {Cn : String} {y z : MethodName} {a : Addr} (w1 : (Jvm.Cond.methodLink own index y).before a0 Z = true) (w2 : (Jvm.Cond.declares y).before a0 Z = true) (w3 : (Jvm.Cond.selects Cn y z).before a0 Z = true) (hnf : ∀ b : State, Z.Warmed39 b.vm → NotFace b y) (w4 : (Jvm.Cond.instanceMethod z).before a0 Z = true) (hy : y.cls ≠ "java/lang/invoke/MethodHandle" ∧ y.cls ≠ "java/lang/invoke/VarHandle") {W kb sb : Nat} {argsL : List Value} {Qb : Option Value → Heap → List Loc → Prop} (B : Bk l R p e below s args z 3 W (.ref a :: argsL).toArray h kb sb Qb) (E : Exa Z h a Cn) (hsz : Ls.size = maxL) (hlen : ∀ sig, parseMethodDescriptor y.desc = some sig → argsL.length = sig.parameters.length) (hst : st = argsL.reverse ++ .ref a :: rest) (hW : (rest.map fun v => v.category).sum ≤ W) (hd : decode bytes pc = .ok (.invokevirtual index, 3)) (hp : pc + 3 = pc') (hc : cells + kb ≤ R.cells) (hs : slots + sb ≤ R.slots) (k : ∀ v h' L, Qb v h' L → Lw h0.size ws L ∧ G p l e R s m args below meth c ws Φ h' (cells + kb) (slots + sb) pc' Ls (v.toList ++ rest)) : G p l e R s m args below meth c ws Φ h cells slots pc Ls st := by
  intro T locs X e1 N
  subst hp hst
  obtain ⟨hx, hZ, hown, hby, hml, hret, hlk, hnm, rfl, hE, hws⟩ := C
  obtain ⟨cq, kq, q1, q2, q3⟩ := isOf hZ e1 E
  obtain ⟨v, vm1, ⟨T', L', k', n'⟩, -, X', ⟨L, hQ, hl, hk, hn⟩, stp⟩ := X.virtualBack hx hown (mvT hZ w1) (mvT hZ w2) (hnf s hZ) (mvT hZ w3) (mvT hZ w4) hy B q1 q3 (g := mkF m pc Ls (argsL.reverse ++ .ref a :: rest)) rfl (by rw [hml]; exact hsz) (Steps.refl _) (argsL := argsL) (rest := rest) hlen rfl (by show 2 * 0 + _ ≤ _; omega) (hb hby hd) (fun _ _ => ⟨rfl, e1, hc, hs⟩)
  dsimp only [Pt.U, Pt.locs, Pt.cells, Pt.slots] at X' hl hk hn stp hQ
  subst hl hk hn
  obtain ⟨hF, k1⟩ := k _ _ _ hQ
  obtain ⟨s2, o, q, r⟩ := k1 T' _ X' rfl (N.app hF)
  exact ⟨s2, o, stp.trans q, r⟩
theorem g_virtualC (C : Cx p s m meth c Z h0 ws own nm bytes maxL ret) {index : Nat} {Cn : String} {y z : MethodName} {bytes' : ByteArray} {maxL' : Nat} {ret' : Option FieldType} {W : Nat} {argsL : List Value} {a : Addr} {rm : Room} {Q' : Option Value → Heap → Prop} (M : Con l Z ws' z bytes' maxL' ret' rm (.ref a :: argsL).toArray h [] Q') (w1 : (Jvm.Cond.methodLink own index y).before a0 Z = true) (w2 : (Jvm.Cond.declares y).before a0 Z = true) (w3 : (Jvm.Cond.selects Cn y z).before a0 Z = true) (hnf : ∀ b : State, Z.Warmed39 b.vm → NotFace b y) (w4 : (Jvm.Cond.instanceMethod z).before a0 Z = true) (w5 : (Jvm.Cond.initialized z.cls).before a0 Z = true) (w6 : (Jvm.Cond.code z bytes' maxL' ret').before a0 Z = true) (hy : y.cls ≠ "java/lang/invoke/MethodHandle" ∧ y.cls ≠ "java/lang/invoke/VarHandle") (E : Exa Z h a Cn) (hsz : Ls.size = maxL) (hlen : ∀ sig, parseMethodDescriptor y.desc = some sig → argsL.length = sig.parameters.length) (hst : st = argsL.reverse ++ .ref a :: rest) (hW : (rest.map fun v => v.category).sum ≤ W) (hd : decode bytes pc = .ok (.invokevirtual index, 3)) (hp : pc + 3 = pc') (hc : cells + rm.cells ≤ R.cells) (hs : slots + rm.slots ≤ R.slots) (hsub : ∀ x ∈ ws', x ∈ ws ∨ h0.size ≤ x) (hf : rm.frames + 1 ≤ R.frames) (hl : W + (maxL' + 11) + rm.locals ≤ R.locals) (k : ∀ v h', Q' v h' → Keep h h' ws' → G p l e R s m args below meth c ws Φ h' (cells + rm.cells) (slots + rm.slots) pc' Ls (v.toList ++ rest)) : G p l e R s m args below meth c ws Φ h cells slots pc Ls st :=
  g_ctx C fun K0 E0 => g_virtual C w1 w2 w3 hnf w4 hy (M.bk C.2.1 E0 (ws_sub hsub C.2.2.2.2.2.2.2.2.2.2 C.2.2.2.2.2.2.2.2.2.1.1) w6 w5 hf hl) E hsz hlen hst hW hd hp hc hs fun v h' L q => ⟨lw_sub q.2.2 K0.1 hsub, k v h' q.1 q.2.1⟩
theorem g_specialN (C : Cx p s m meth c Z h0 ws own nm bytes maxL ret) {index : Nat} {y : MethodName} {host : String} {bytes' : ByteArray} {maxL' : Nat} {a : Addr} (hy1 : y.name = "<init>") (w1 : (Jvm.Cond.methodLinkNest own index y host).before a0 Z = true) (w2 : (Jvm.Cond.instanceMethod y).before a0 Z = true) (w4 : (Jvm.Cond.code y bytes' maxL' none).before a0 Z = true) (hy : y.cls ≠ "java/lang/invoke/MethodHandle" ∧ y.cls ≠ "java/lang/invoke/VarHandle") {W kb sb : Nat} {argsL : List Value} {Qb : Option Value → Heap → List Loc → Prop} (B : Bk l R p e below s args y 3 W (.ref a :: argsL).toArray h kb sb Qb) (hsz : Ls.size = maxL) (hlen : ∀ sig, parseMethodDescriptor y.desc = some sig → argsL.length = sig.parameters.length) (hst : st = argsL.reverse ++ .ref a :: rest) (hW : (rest.map fun v => v.category).sum ≤ W) (hd : decode bytes pc = .ok (.invokespecial index, 3)) (hp : pc + 3 = pc') (hc : cells + kb ≤ R.cells) (hs : slots + sb ≤ R.slots) (k : ∀ v h' L, Qb v h' L → Lw h0.size ws L ∧ G p l e R s m args below meth c ws Φ h' (cells + kb) (slots + sb) pc' Ls (v.toList ++ rest)) : G p l e R s m args below meth c ws Φ h cells slots pc Ls st := by
  intro T locs X e1 N
  subst hp hst
  obtain ⟨hx, hZ, hown, hby, hml, hret, hlk, hnm, rfl, hE, hws⟩ := C
  obtain ⟨v, vm1, ⟨T', L', k', n'⟩, -, X', ⟨L, hQ, hl, hk, hn⟩, stp⟩ := X.specialBackNest hx hy1 hown (Cond.methodLinkNest_wide hZ w1 :) (mvT hZ w2) (mvT hZ w4) hy B (g := mkF m pc Ls (argsL.reverse ++ .ref a :: rest)) rfl (by rw [hml]; exact hsz) (Steps.refl _) (a := a) (argsL := argsL) (rest := rest) hlen rfl (by show 2 * 0 + _ ≤ _; omega) (hb hby hd) (fun _ _ => ⟨rfl, e1, hc, hs⟩)
  dsimp only [Pt.U, Pt.locs, Pt.cells, Pt.slots] at X' hl hk hn stp hQ
  subst hl hk hn
  obtain ⟨hF, k1⟩ := k _ _ _ hQ
  obtain ⟨s2, o, q, r⟩ := k1 T' _ X' rfl (N.app hF)
  exact ⟨s2, o, stp.trans q, r⟩
theorem g_specialNC (C : Cx p s m meth c Z h0 ws own nm bytes maxL ret) {index : Nat} {y : MethodName} {host : String} {bytes' : ByteArray} {maxL' : Nat} {W : Nat} {argsL : List Value} {a : Addr} {rm : Room} {Q' : Option Value → Heap → Prop} (M : Con l Z ws' y bytes' maxL' none rm (.ref a :: argsL).toArray h [] Q') (hy1 : y.name = "<init>") (w1 : (Jvm.Cond.methodLinkNest own index y host).before a0 Z = true) (w2 : (Jvm.Cond.instanceMethod y).before a0 Z = true) (w3 : (Jvm.Cond.initialized y.cls).before a0 Z = true) (w4 : (Jvm.Cond.code y bytes' maxL' none).before a0 Z = true) (hy : y.cls ≠ "java/lang/invoke/MethodHandle" ∧ y.cls ≠ "java/lang/invoke/VarHandle") (hsz : Ls.size = maxL) (hlen : ∀ sig, parseMethodDescriptor y.desc = some sig → argsL.length = sig.parameters.length) (hst : st = argsL.reverse ++ .ref a :: rest) (hW : (rest.map fun v => v.category).sum ≤ W) (hd : decode bytes pc = .ok (.invokespecial index, 3)) (hp : pc + 3 = pc') (hc : cells + rm.cells ≤ R.cells) (hs : slots + rm.slots ≤ R.slots) (hsub : ∀ x ∈ ws', x ∈ ws ∨ h0.size ≤ x) (hf : rm.frames + 1 ≤ R.frames) (hl : W + (maxL' + 11) + rm.locals ≤ R.locals) (k : ∀ v h', Q' v h' → Keep h h' ws' → G p l e R s m args below meth c ws Φ h' (cells + rm.cells) (slots + rm.slots) pc' Ls (v.toList ++ rest)) : G p l e R s m args below meth c ws Φ h cells slots pc Ls st :=
  g_ctx C fun K0 E0 => g_specialN C hy1 w1 w2 w4 hy (M.bk C.2.1 E0 (ws_sub hsub C.2.2.2.2.2.2.2.2.2.2 C.2.2.2.2.2.2.2.2.2.1.1) w4 w3 hf hl) hsz hlen hst hW hd hp hc hs fun v h' L q => ⟨lw_sub q.2.2 K0.1 hsub, k v h' q.1 q.2.1⟩
theorem g_interface (C : Cx p s m meth c Z h0 ws own nm bytes maxL ret) {index count : Nat} {Cn : String} {y z : MethodName} {a : Addr} (w1 : (Jvm.Cond.methodLink own index y).before a0 Z = true) (w2 : (Jvm.Cond.declares y).before a0 Z = true) (w7 : (Jvm.Cond.interfaceMethod y.cls y.cls y.name y.desc).before a0 Z = true) (w3 : (Jvm.Cond.selects Cn y z).before a0 Z = true) (w4 : (Jvm.Cond.instanceMethod z).before a0 Z = true) (w8 : (Jvm.Cond.publicMethod z).before a0 Z = true) (w9 : (Jvm.Cond.unhidden Cn y.name y.desc).before a0 Z = true) (w10 : (Jvm.Cond.castable Cn y.cls).before a0 Z = true) (hy : y.cls ≠ "java/lang/invoke/MethodHandle" ∧ y.cls ≠ "java/lang/invoke/VarHandle") {W kb sb : Nat} {argsL : List Value} {Qb : Option Value → Heap → List Loc → Prop} (B : Bk l R p e below s args z 5 W (.ref a :: argsL).toArray h kb sb Qb) (E : Exa Z h a Cn) (hsz : Ls.size = maxL) (hlen : ∀ sig, parseMethodDescriptor y.desc = some sig → argsL.length = sig.parameters.length) (hst : st = argsL.reverse ++ .ref a :: rest) (hW : (rest.map fun v => v.category).sum ≤ W) (hd : decode bytes pc = .ok (.invokeinterface index count, 5)) (hp : pc + 5 = pc') (hc : cells + kb ≤ R.cells) (hs : slots + sb ≤ R.slots) (k : ∀ v h' L, Qb v h' L → Lw h0.size ws L ∧ G p l e R s m args below meth c ws Φ h' (cells + kb) (slots + sb) pc' Ls (v.toList ++ rest)) : G p l e R s m args below meth c ws Φ h cells slots pc Ls st := by
  intro T locs X e1 N
  subst hp hst
  obtain ⟨hx, hZ, hown, hby, hml, hret, hlk, hnm, rfl, hE, hws⟩ := C
  obtain ⟨cq, kq, q1, q2, q3⟩ := isOf hZ e1 E
  obtain ⟨v, vm1, ⟨T', L', k', n'⟩, -, X', ⟨L, hQ, hl, hk, hn⟩, stp⟩ := X.interfaceBack hx hown (mvT hZ w1) (mvT hZ w2) (mvT hZ w7 (by simp [Cond.onTables, Cond.keepsFace, Cond.keeps, Cond.steady, Cond.faceAtom, hy.1, hy.2])) (mvT hZ w3) (mvT hZ w4) (mvT hZ w8) (mvT hZ w9) (mvT hZ w10) hy B q1 q2 q3 (g := mkF m pc Ls (argsL.reverse ++ .ref a :: rest)) rfl (by rw [hml]; exact hsz) (Steps.refl _) (argsL := argsL) (rest := rest) hlen rfl (by show 2 * 0 + _ ≤ _; omega) (hb hby hd) (fun _ _ => ⟨rfl, e1, hc, hs⟩)
  dsimp only [Pt.U, Pt.locs, Pt.cells, Pt.slots] at X' hl hk hn stp hQ
  subst hl hk hn
  obtain ⟨hF, k1⟩ := k _ _ _ hQ
  obtain ⟨s2, o, q, r⟩ := k1 T' _ X' rfl (N.app hF)
  exact ⟨s2, o, stp.trans q, r⟩
theorem g_interfaceC (C : Cx p s m meth c Z h0 ws own nm bytes maxL ret) {index count : Nat} {Cn : String} {y z : MethodName} {bytes' : ByteArray} {maxL' : Nat} {ret' : Option FieldType} {W : Nat} {argsL : List Value} {a : Addr} {rm : Room} {Q' : Option Value → Heap → Prop} (M : Con l Z ws' z bytes' maxL' ret' rm (.ref a :: argsL).toArray h [] Q') (w1 : (Jvm.Cond.methodLink own index y).before a0 Z = true) (w2 : (Jvm.Cond.declares y).before a0 Z = true) (w7 : (Jvm.Cond.interfaceMethod y.cls y.cls y.name y.desc).before a0 Z = true) (w3 : (Jvm.Cond.selects Cn y z).before a0 Z = true) (w4 : (Jvm.Cond.instanceMethod z).before a0 Z = true) (w8 : (Jvm.Cond.publicMethod z).before a0 Z = true) (w9 : (Jvm.Cond.unhidden Cn y.name y.desc).before a0 Z = true) (w10 : (Jvm.Cond.castable Cn y.cls).before a0 Z = true) (w5 : (Jvm.Cond.initialized z.cls).before a0 Z = true) (w6 : (Jvm.Cond.code z bytes' maxL' ret').before a0 Z = true) (hy : y.cls ≠ "java/lang/invoke/MethodHandle" ∧ y.cls ≠ "java/lang/invoke/VarHandle") (E : Exa Z h a Cn) (hsz : Ls.size = maxL) (hlen : ∀ sig, parseMethodDescriptor y.desc = some sig → argsL.length = sig.parameters.length) (hst : st = argsL.reverse ++ .ref a :: rest) (hW : (rest.map fun v => v.category).sum ≤ W) (hd : decode bytes pc = .ok (.invokeinterface index count, 5)) (hp : pc + 5 = pc') (hc : cells + rm.cells ≤ R.cells) (hs : slots + rm.slots ≤ R.slots) (hsub : ∀ x ∈ ws', x ∈ ws ∨ h0.size ≤ x) (hf : rm.frames + 1 ≤ R.frames) (hl : W + (maxL' + 11) + rm.locals ≤ R.locals) (k : ∀ v h', Q' v h' → Keep h h' ws' → G p l e R s m args below meth c ws Φ h' (cells + rm.cells) (slots + rm.slots) pc' Ls (v.toList ++ rest)) : G p l e R s m args below meth c ws Φ h cells slots pc Ls st :=
  g_ctx C fun K0 E0 => g_interface C w1 w2 w7 w3 w4 w8 w9 w10 hy (M.bk C.2.1 E0 (ws_sub hsub C.2.2.2.2.2.2.2.2.2.2 C.2.2.2.2.2.2.2.2.2.1.1) w6 w5 hf hl) E hsz hlen hst hW hd hp hc hs fun v h' L q => ⟨lw_sub q.2.2 K0.1 hsub, k v h' q.1 q.2.1⟩
theorem g_tswOut (C : Cx p s m meth c Z h0 ws own nm bytes maxL ret) {dflt low high : Int} {offs : Array Int} {len : Nat} {x : Int32} (hd : decode bytes pc = .ok (.tableswitch dflt low high offs, len)) (hout : x.toInt < low ∨ x.toInt > high) (ho : 0 ≤ (pc : Int) + dflt) (hp : ((pc : Int) + dflt).toNat = pc') (k : G p l e R s m args below meth c ws Φ h cells slots pc' Ls st) : G p l e R s m args below meth c ws Φ h cells slots pc Ls (.int x :: st) :=
  g_of (fun T A t q => XS.tswOut A C.1 rfl rfl (hb C.2.2.2.1 hd) rfl hout ho hp q) k
theorem g_ireturn (C : Cx p s m meth c Z h0 ws own nm bytes maxL (some .int)) {x : Int32} (hd : decode bytes pc = .ok (.ireturn, 1)) (hQ : Q (some (.int x)) h) (hc : cells ≤ kc) (hs : slots ≤ ks) : G p l e R s m args below meth c ws (EndA s ws Q kc ks) h cells slots pc Ls [.int x] := by
  intro T locs X e1 N
  obtain ⟨hx, hZ, hown, hby, hml, hret, hlk, hnm, rfl, hE, hws⟩ := C
  obtain ⟨fs, hr, hrun, hended, hW, hsame⟩ := X.leave (v := (some (.int x))) (fun h => by rw [hret] at h; cases h) hlk
  exact ⟨_, _, X.ireturnOut hx hret rfl (Or.inl rfl) (hb hby hd) hr, hrun, hended, _, _, rfl, ⟨by rw [show (T.setFrames fs).heap = h from e1]; exact hQ, by rw [show (T.setFrames fs).heap = T.heap from rfl]; exact keep_of X N, N⟩, ⟨_, rfl⟩, hW, hsame.mono hc hs⟩
theorem g_ireturnN {t : FieldType} (C : Cx p s m meth c Z h0 ws own nm bytes maxL (some t)) {x : Int32} (ht : t = .boolean ∨ t = .byte ∨ t = .char ∨ t = .short) (hd : decode bytes pc = .ok (.ireturn, 1)) (hQ : Q (some (.int (nar t x))) h) (hc : cells ≤ kc) (hs : slots ≤ ks) : G p l e R s m args below meth c ws (EndA s ws Q kc ks) h cells slots pc Ls (.int x :: st) := by
  intro T locs X e1 N
  obtain ⟨hx, hZ, hown, hby, hml, hret, hlk, hnm, rfl, hE, hws⟩ := C
  obtain ⟨fs, hr, hrun, hended, hW, hsame⟩ := X.leave (v := (some (.int (nar t x)))) (fun h => by rw [hret] at h; cases h) hlk
  exact ⟨_, _, retN X hx hret ht (hb hby hd) hr, hrun, hended, _, _, rfl, ⟨by rw [show (T.setFrames fs).heap = h from e1]; exact hQ, by rw [show (T.setFrames fs).heap = T.heap from rfl]; exact keep_of X N, N⟩, ⟨_, rfl⟩, hW, hsame.mono hc hs⟩
theorem g_areturn {t : FieldType} (C : Cx p s m meth c Z h0 ws own nm bytes maxL (some t)) {v : Value} (hv : v.isRef = true) (ht : t.isReference = true) (hd : decode bytes pc = .ok (.areturn, 1)) (hQ : Q (some v) h) (hc : cells ≤ kc) (hs : slots ≤ ks) : G p l e R s m args below meth c ws (EndA s ws Q kc ks) h cells slots pc Ls [v] := by
  intro T locs X e1 N
  obtain ⟨hx, hZ, hown, hby, hml, hret, hlk, hnm, rfl, hE, hws⟩ := C
  obtain ⟨fs, hr, hrun, hended, hW, hsame⟩ := X.leave (v := (some v)) (fun h => by rw [hret] at h; cases h) hlk
  exact ⟨_, _, X.areturnOut hx hv hret ht (hb hby hd) hr, hrun, hended, _, _, rfl, ⟨by rw [show (T.setFrames fs).heap = h from e1]; exact hQ, by rw [show (T.setFrames fs).heap = T.heap from rfl]; exact keep_of X N, N⟩, ⟨_, rfl⟩, hW, hsame.mono hc hs⟩
theorem g_lreturn (C : Cx p s m meth c Z h0 ws own nm bytes maxL (some .long)) {x : Int64} (hd : decode bytes pc = .ok (.lreturn, 1)) (hQ : Q (some (.long x)) h) (hc : cells ≤ kc) (hs : slots ≤ ks) : G p l e R s m args below meth c ws (EndA s ws Q kc ks) h cells slots pc Ls [.long x] := by
  intro T locs X e1 N
  obtain ⟨hx, hZ, hown, hby, hml, hret, hlk, hnm, rfl, hE, hws⟩ := C
  obtain ⟨fs, hr, hrun, hended, hW, hsame⟩ := X.leave (v := (some (.long x))) (fun h => by rw [hret] at h; cases h) hlk
  exact ⟨_, _, X.lreturnOut hx hret (hb hby hd) hr, hrun, hended, _, _, rfl, ⟨by rw [show (T.setFrames fs).heap = h from e1]; exact hQ, by rw [show (T.setFrames fs).heap = T.heap from rfl]; exact keep_of X N, N⟩, ⟨_, rfl⟩, hW, hsame.mono hc hs⟩
theorem g_return (C : Cx p s m meth c Z h0 ws own nm bytes maxL none) (hd : decode bytes pc = .ok (.return_, 1)) (hQ : Q none h) (hc : cells ≤ kc) (hs : slots ≤ ks) : G p l e R s m args below meth c ws (EndA s ws Q kc ks) h cells slots pc Ls [] := by
  intro T locs X e1 N
  obtain ⟨hx, hZ, hown, hby, hml, hret, hlk, hnm, rfl, hE, hws⟩ := C
  obtain ⟨fs, hr, hrun, hended, hW, hsame⟩ := X.leave (v := none) (fun _ => rfl) hlk
  exact ⟨_, _, X.returnOut hx hret (hb hby hd) hr, hrun, hended, _, _, rfl, ⟨by rw [show (T.setFrames fs).heap = h from e1]; exact hQ, by rw [show (T.setFrames fs).heap = T.heap from rfl]; exact keep_of X N, N⟩, ⟨_, rfl⟩, hW, hsame.mono hc hs⟩
end OwnKit
section OwnNum
theorem nar_char_id {x : Int32} (h1 : 0 ≤ x.toInt) (h2 : x.toInt < 65536) : nar .char x = x := by
  have q := c_i2c x
  apply Int32.toInt_inj.mp
  show x.toUInt32.toUInt16.toUInt32.toInt32.toInt = x.toInt
  omega
theorem i32_nat {n : Nat} (h : n < 2 ^ 31) : (Int32.ofNat n).toInt = (n : Int) := Int32.toInt_ofNat_small h
theorem i32_clamp {n : Nat} (h : n < 2 ^ 31) : (Int32.ofNat n).toNatClampNeg = n := by rw [Int32.toNatClampNeg, i32_nat h]; rfl
theorem i32_nn {n : Nat} (h : n < 2 ^ 31) : ¬ Int32.ofNat n < 0 := by rw [Int32.lt_iff_toInt_lt, i32_nat h]; simp
theorem i32_succ {n : Nat} : Int32.ofNat n + 1 = Int32.ofNat (n + 1) := by rw [Int32.ofNat_add]; rfl
end OwnNum
section OwnLoop
variable {p : Program} {l : Launch} {e : Env} {R : Room} {s : State} {m : MethodId} {args : Array Value} {below : List Frame} {meth : Method} {c : Code} {ws : List Addr} {Φ : Outcome → State → Prop} {h : Heap} {cells slots pc : Nat} {Ls : Array Slot} {st : List Value}
/-- a loop over a fixed heap: by the measure -/
theorem g_loop {α : Type} (I : α → Prop) (μ : α → Nat) (Lf : α → Array Slot) (x0 : α) (hI : I x0) (hL : Ls = Lf x0) (step : ∀ x, I x → (∀ y, I y → μ y < μ x → G p l e R s m args below meth c ws Φ h cells slots pc (Lf y) st) → G p l e R s m args below meth c ws Φ h cells slots pc (Lf x) st) : G p l e R s m args below meth c ws Φ h cells slots pc Ls st := by
  subst hL
  have all : ∀ n x, μ x < n → I x → G p l e R s m args below meth c ws Φ h cells slots pc (Lf x) st := by
    intro n
    induction n with
    | zero => intro x hx; exact absurd hx (Nat.not_lt_zero _)
    | succ n ih => intro x hx hi; exact step x hi fun y hy hlt => ih y (by omega) hy
  exact all _ x0 (Nat.lt_succ_self _) hI
/-- a loop whose heap moves -/
theorem g_loopH {α : Type} (I : α → Heap → Prop) (μ : α → Nat) (Lf : α → Array Slot) (x0 : α) (hI : I x0 h) (hL : Ls = Lf x0) (step : ∀ x h, I x h → (∀ y h', I y h' → μ y < μ x → G p l e R s m args below meth c ws Φ h' cells slots pc (Lf y) st) → G p l e R s m args below meth c ws Φ h cells slots pc (Lf x) st) : G p l e R s m args below meth c ws Φ h cells slots pc Ls st := by
  subst hL
  have all : ∀ n x h, μ x < n → I x h → G p l e R s m args below meth c ws Φ h cells slots pc (Lf x) st := by
    intro n
    induction n with
    | zero => intro x h hx; exact absurd hx (Nat.not_lt_zero _)
    | succ n ih => intro x h hx hi; exact step x h hi fun y h' hy hlt => ih y h' (by omega) hy
  exact all _ x0 h (Nat.lt_succ_self _) hI
end OwnLoop

section OwnMore
variable {p : Program} {l : Launch} {e : Env} {R : Room} {s : State} {m : MethodId} {args : Array Value} {below : List Frame} {meth : Method} {c : Code} {Z : State} {h0 : Heap} {ws ws' : List Addr} {own nm : String} {bytes : ByteArray} {maxL : Nat} {ret : Option FieldType} {Φ : Outcome → State → Prop} {h : Heap} {cells slots pc pc' : Nat} {Ls Ls' : Array Slot} {st st' rest : List Value} {a0 : Array Value}
/-- the places written may be listed anew: all places of the cells of ws -/
theorem relist {T : State} {L : List Loc} (X : Stand p l e R s m args below meth c T L cells slots) (K : Keep s.heap T.heap ws) : ∃ L2, Stand p l e R s m args below meth c T L2 cells slots ∧ Lw s.heap.size ws L2 := by
  refine ⟨ws.flatMap fun a => ((s.heap[a]?.map fun k => (List.range k.slots.size).map fun i => (⟨a, i⟩ : Loc)).getD []), { X with same := ?_ }, fun y hy => ?_⟩
  · obtain ⟨h1, h2, h3, h4, h5, h6⟩ := X.same
    refine ⟨h1, h2, h3, h4, h5, fun a k ha => ?_⟩
    obtain ⟨k', q1, q2, q3, -⟩ := h6 a k ha
    refine ⟨k', q1, q2, q3, fun i hi => ?_⟩
    by_cases z : a ∈ ws
    · have hi2 : ¬ i < k.slots.size := fun q => hi (List.mem_flatMap.mpr ⟨a, z, by rw [ha]; simpa using q⟩)
      rw [Array.getElem?_eq_none (by omega), Array.getElem?_eq_none (by omega)]
    · have q4 : T.heap[a]? = some k := K.2.1 a k ha z
      have q5 : k' = k := Option.some.inj (q1.symm.trans q4)
      rw [q5]
  · obtain ⟨a, ha, hy⟩ := List.mem_flatMap.mp hy
    left
    cases hk : s.heap[a]? with
    | none => rw [hk] at hy; exact nomatch hy
    | some k =>
      rw [hk] at hy
      obtain ⟨i, -, rfl⟩ := List.mem_map.mp hy
      exact ha
theorem g_private (C : Cx p s m meth c Z h0 ws own nm bytes maxL ret) {index : Nat} {Cn : String} {y : MethodName} {bytes' : ByteArray} {maxL' : Nat} {ret' : Option FieldType} {a : Addr} (w1 : (Jvm.Cond.methodLink own index y).before a0 Z = true) {y' : MethodName} (w3 : (Jvm.Cond.selects Cn y' y').before a0 Z = true) (hcl : y'.cls = y.cls) (w4 : (Jvm.Cond.instanceMethod y).before a0 Z = true) (w7 : (Jvm.Cond.privateMethod y).before a0 Z = true) (w6 : (Jvm.Cond.code y bytes' maxL' ret').before a0 Z = true) (hy : y.cls ≠ "java/lang/invoke/MethodHandle" ∧ y.cls ≠ "java/lang/invoke/VarHandle") {W kb sb : Nat} {argsL : List Value} {Qb : Option Value → Heap → List Loc → Prop} (B : Bk l R p e below s args y 3 W (.ref a :: argsL).toArray h kb sb Qb) {Ce : String} (E : Exa Z h a Ce) (hsz : Ls.size = maxL) (hlen : ∀ sig, parseMethodDescriptor y.desc = some sig → argsL.length = sig.parameters.length) (hst : st = argsL.reverse ++ .ref a :: rest) (hW : (rest.map fun v => v.category).sum ≤ W) (hd : decode bytes pc = .ok (.invokevirtual index, 3)) (hp : pc + 3 = pc') (hc : cells + kb ≤ R.cells) (hs : slots + sb ≤ R.slots) (k : ∀ v h' L, Qb v h' L → Lw h0.size ws L ∧ G p l e R s m args below meth c ws Φ h' (cells + kb) (slots + sb) pc' Ls (v.toList ++ rest)) : G p l e R s m args below meth c ws Φ h cells slots pc Ls st := by
  intro T locs X e1 N
  subst hp hst
  obtain ⟨hx, hZ, hown, hby, hml, hret, hlk, hnm, rfl, hE, hws⟩ := C
  have hpriv := Cond.privateMethod_at (mvP hZ w7 (args := #[]))
  obtain ⟨c2, r2, m2, -, -, q3, -, kP, hkP, hkPi⟩ := Cond.selects_spec (mvT hZ w3 (args := #[]))
  have hsel := Jvm.Stand.selects_self_of_private (args := args) (by rw [← hcl]; exact findClass_of_methodNamed q3) hkP hkPi hpriv (mvT hZ w4) hy
  obtain ⟨cq, q1, q2⟩ := E.cell
  obtain ⟨v, vm1, ⟨T', L', k', n'⟩, -, X', ⟨L, hQ, hl, hk, hn⟩, stp⟩ := X.privateBack hx hown (mvT hZ w1) (mvT hZ w4) hsel hpriv (mvT hZ w6) hy B (g := mkF m pc Ls (argsL.reverse ++ .ref a :: rest)) rfl (by rw [hml]; exact hsz) (Steps.refl _) (a := a) (cell := cq) (by rw [e1]; exact q1) q2 (argsL := argsL) (rest := rest) hlen rfl (by show 2 * 0 + _ ≤ _; omega) (hb hby hd) (fun _ _ => ⟨rfl, e1, hc, hs⟩)
  dsimp only [Pt.U, Pt.locs, Pt.cells, Pt.slots] at X' hl hk hn stp hQ
  subst hl hk hn
  obtain ⟨hF, k1⟩ := k _ _ _ hQ
  obtain ⟨s2, o, q, r⟩ := k1 T' _ X' rfl (N.app hF)
  exact ⟨s2, o, stp.trans q, r⟩
theorem g_privateC (C : Cx p s m meth c Z h0 ws own nm bytes maxL ret) {index : Nat} {Cn : String} {y : MethodName} {bytes' : ByteArray} {maxL' : Nat} {ret' : Option FieldType} {W : Nat} {argsL : List Value} {a : Addr} {rm : Room} {Q' : Option Value → Heap → Prop} (M : Con l Z ws' y bytes' maxL' ret' rm (.ref a :: argsL).toArray h [] Q') (w1 : (Jvm.Cond.methodLink own index y).before a0 Z = true) {y' : MethodName} (w3 : (Jvm.Cond.selects Cn y' y').before a0 Z = true) (hcl : y'.cls = y.cls) (w4 : (Jvm.Cond.instanceMethod y).before a0 Z = true) (w7 : (Jvm.Cond.privateMethod y).before a0 Z = true) (w5 : (Jvm.Cond.initialized y.cls).before a0 Z = true) (w6 : (Jvm.Cond.code y bytes' maxL' ret').before a0 Z = true) (hy : y.cls ≠ "java/lang/invoke/MethodHandle" ∧ y.cls ≠ "java/lang/invoke/VarHandle") {Ce : String} (E : Exa Z h a Ce) (hsz : Ls.size = maxL) (hlen : ∀ sig, parseMethodDescriptor y.desc = some sig → argsL.length = sig.parameters.length) (hst : st = argsL.reverse ++ .ref a :: rest) (hW : (rest.map fun v => v.category).sum ≤ W) (hd : decode bytes pc = .ok (.invokevirtual index, 3)) (hp : pc + 3 = pc') (hc : cells + rm.cells ≤ R.cells) (hs : slots + rm.slots ≤ R.slots) (hsub : ∀ x ∈ ws', x ∈ ws ∨ h0.size ≤ x) (hf : rm.frames + 1 ≤ R.frames) (hl : W + (maxL' + 11) + rm.locals ≤ R.locals) (k : ∀ v h', Q' v h' → Keep h h' ws' → G p l e R s m args below meth c ws Φ h' (cells + rm.cells) (slots + rm.slots) pc' Ls (v.toList ++ rest)) : G p l e R s m args below meth c ws Φ h cells slots pc Ls st :=
  g_ctx C fun K0 E0 => g_private C w1 w3 hcl w4 w7 w6 hy (M.bk C.2.1 E0 (ws_sub hsub C.2.2.2.2.2.2.2.2.2.2 C.2.2.2.2.2.2.2.2.2.1.1) w6 w5 hf hl) E hsz hlen hst hW hd hp hc hs fun v h' L q => ⟨lw_sub q.2.2 K0.1 hsub, k v h' q.1 q.2.1⟩
theorem g_super (C : Cx p s m meth c Z h0 ws own nm bytes maxL ret) {index : Nat} {y : MethodName} {bytes' : ByteArray} {maxL' : Nat} {ret' : Option FieldType} {a : Addr} (w1 : (Jvm.Cond.methodLink own index y).before a0 Z = true) (w2 : (Jvm.Cond.sameMethod y.cls y.cls y.name y.desc).before a0 Z = true) (w4 : (Jvm.Cond.instanceMethod y).before a0 Z = true) (w7 : (Jvm.Cond.superclass own y.cls).before a0 Z = true) (w6 : (Jvm.Cond.code y bytes' maxL' ret').before a0 Z = true) (hyn : y.name ≠ "<init>") {W kb sb : Nat} {argsL : List Value} {Qb : Option Value → Heap → List Loc → Prop} (B : Bk l R p e below s args y 3 W (.ref a :: argsL).toArray h kb sb Qb) {Ce : String} (E : Exa Z h a Ce) (hsz : Ls.size = maxL) (hlen : ∀ sig, parseMethodDescriptor y.desc = some sig → argsL.length = sig.parameters.length) (hst : st = argsL.reverse ++ .ref a :: rest) (hW : (rest.map fun v => v.category).sum ≤ W) (hd : decode bytes pc = .ok (.invokespecial index, 3)) (hp : pc + 3 = pc') (hc : cells + kb ≤ R.cells) (hs : slots + sb ≤ R.slots) (k : ∀ v h' L, Qb v h' L → Lw h0.size ws L ∧ G p l e R s m args below meth c ws Φ h' (cells + kb) (slots + sb) pc' Ls (v.toList ++ rest)) : G p l e R s m args below meth c ws Φ h cells slots pc Ls st := by
  intro T locs X e1 N
  subst hp hst
  obtain ⟨hx, hZ, hown, hby, hml, hret, hlk, hnm, rfl, hE, hws⟩ := C
  obtain ⟨v, vm1, ⟨T', L', k', n'⟩, -, X', ⟨L, hQ, hl, hk, hn⟩, stp⟩ := superBack X hx hZ hown w1 w2 w4 w7 hyn B e1 (Ins.self E) (g := mkF m pc Ls (argsL.reverse ++ .ref a :: rest)) rfl (by rw [hml]; exact hsz) w6 (argsL := argsL) (rest := rest) hlen rfl (by show 2 * 0 + _ ≤ _; omega) (hb hby hd) (fun _ _ => ⟨rfl, e1, hc, hs⟩)
  dsimp only [Pt.U, Pt.locs, Pt.cells, Pt.slots] at X' hl hk hn stp hQ
  subst hl hk hn
  obtain ⟨hF, k1⟩ := k _ _ _ hQ
  obtain ⟨s2, o, q, r⟩ := k1 T' _ X' rfl (N.app hF)
  exact ⟨s2, o, stp.trans q, r⟩
theorem g_superC (C : Cx p s m meth c Z h0 ws own nm bytes maxL ret) {index : Nat} {y : MethodName} {bytes' : ByteArray} {maxL' : Nat} {ret' : Option FieldType} {W : Nat} {argsL : List Value} {a : Addr} {rm : Room} {Q' : Option Value → Heap → Prop} (M : Con l Z ws' y bytes' maxL' ret' rm (.ref a :: argsL).toArray h [] Q') (w1 : (Jvm.Cond.methodLink own index y).before a0 Z = true) (w2 : (Jvm.Cond.sameMethod y.cls y.cls y.name y.desc).before a0 Z = true) (w4 : (Jvm.Cond.instanceMethod y).before a0 Z = true) (w7 : (Jvm.Cond.superclass own y.cls).before a0 Z = true) (w5 : (Jvm.Cond.initialized y.cls).before a0 Z = true) (w6 : (Jvm.Cond.code y bytes' maxL' ret').before a0 Z = true) (hyn : y.name ≠ "<init>") {Ce : String} (E : Exa Z h a Ce) (hsz : Ls.size = maxL) (hlen : ∀ sig, parseMethodDescriptor y.desc = some sig → argsL.length = sig.parameters.length) (hst : st = argsL.reverse ++ .ref a :: rest) (hW : (rest.map fun v => v.category).sum ≤ W) (hd : decode bytes pc = .ok (.invokespecial index, 3)) (hp : pc + 3 = pc') (hc : cells + rm.cells ≤ R.cells) (hs : slots + rm.slots ≤ R.slots) (hsub : ∀ x ∈ ws', x ∈ ws ∨ h0.size ≤ x) (hf : rm.frames + 1 ≤ R.frames) (hl : W + (maxL' + 11) + rm.locals ≤ R.locals) (k : ∀ v h', Q' v h' → Keep h h' ws' → G p l e R s m args below meth c ws Φ h' (cells + rm.cells) (slots + rm.slots) pc' Ls (v.toList ++ rest)) : G p l e R s m args below meth c ws Φ h cells slots pc Ls st :=
  g_ctx C fun K0 E0 => g_super C w1 w2 w4 w7 w6 hyn (M.bk C.2.1 E0 (ws_sub hsub C.2.2.2.2.2.2.2.2.2.2 C.2.2.2.2.2.2.2.2.2.1.1) w6 w5 hf hl) E hsz hlen hst hW hd hp hc hs fun v h' L q => ⟨lw_sub q.2.2 K0.1 hsub, k v h' q.1 q.2.1⟩
theorem copy_at (l1 l2 : List Value) (d : Value) (f g : Nat → Value) (n n' sp dp nn : Nat) (hs : sp + nn ≤ n) (hd : dp + nn ≤ n') (i : Nat) (hi : i < n') :
    (((List.range n').map g).take dp ++ ((List.range nn).map fun j => ((List.range n).map f).getD (sp + j) d) ++ ((List.range n').map g).drop (dp + nn)).getD i d = if dp ≤ i ∧ i < dp + nn then f (sp + (i - dp)) else g i := by
  by_cases z : i < dp
  · rw [if_neg (by omega)]
    simp [List.getD_eq_getElem?_getD, List.getElem?_append, z, hi, Nat.min_eq_left (show dp ≤ n' by omega), show i < dp + nn by omega]
  · by_cases z2 : i < dp + nn
    · rw [if_pos ⟨by omega, z2⟩]
      simp [List.getD_eq_getElem?_getD, List.getElem?_append, z, z2, hi, Nat.min_eq_left (show dp ≤ n' by omega), show i - dp < nn by omega, show sp + (i - dp) < n by omega]
    · rw [if_neg (by omega)]
      simp [List.getD_eq_getElem?_getD, List.getElem?_append, z, z2, hi, Nat.min_eq_left (show dp ≤ n' by omega), show ¬ i < dp + nn by omega, show ¬ i - dp < nn by omega, show dp + nn + (i - dp - nn) = i by omega, show dp + nn + (i - (dp + nn)) = i by omega]
theorem g_arraycopy (C : Cx p s m meth c Z h0 ws own nm bytes maxL ret) {index : Nat} {a b : Addr} {ty : FieldType} {n n' sp dp nn : Nat} {f g : Nat → Value} {zs zd zn : Int32} (w1 : (Jvm.Cond.methodLink own index Jvm.Stand.acN).before a0 Z = true) (w2 : (Jvm.Cond.native Jvm.Stand.acN).before a0 Z = true) (w3 : (Jvm.Cond.static Jvm.Stand.acN).before a0 Z = true) (w4 : (Jvm.Cond.initialized "java/lang/System").before a0 Z = true) (A : Af Z h a ty n f) (B : Af Z h b ty n' g) (hty : refKind ty = false) (hzs : Int32.ofNat sp = zs) (hzd : Int32.ofNat dp = zd) (hzn : Int32.ofNat nn = zn) (h1 : sp + nn ≤ n) (h2 : dp + nn ≤ n') (hb : b ∈ ws ∨ h0.size ≤ b) (hsz : Ls.size = maxL) (hf : 1 ≤ R.frames) (hlo : (st.map fun v => v.category).sum + (nativeFrameWords "java/lang/System" "arraycopy" 5 + 11) ≤ R.locals) (hd : decode bytes pc = .ok (.invokestatic index, 3)) (hp : pc + 3 = pc') (k : ∀ h', Keep h h' [b] → Af Z h' b ty n' (fun i => if dp ≤ i ∧ i < dp + nn then f (sp + (i - dp)) else g i) → G p l e R s m args below meth c ws Φ h' cells slots pc' Ls st) : G p l e R s m args below meth c ws Φ h cells slots pc Ls (.int zn :: .int zd :: .ref b :: .int zs :: .ref a :: st) := by
  intro T locs X e1 N
  subst hp hzs hzd hzn
  have K0 : Keep s.heap h ws := e1 ▸ keep_of X N
  obtain ⟨hx, hZ, hown, hby, hml, hret, hlk, hnm, rfl, hE, hws⟩ := C
  have hn1 : n < 2 ^ 31 := A.choose_spec.2.2.1
  have hn2 : n' < 2 ^ 31 := B.choose_spec.2.2.1
  obtain ⟨kA, Av⟩ := A.arv (.int 0)
  obtain ⟨kB, Bv⟩ := B.arv (.int 0)
  have c1 : (Int32.ofNat sp).toNatClampNeg = sp := i32_clamp (by omega)
  have c2 : (Int32.ofNat dp).toNatClampNeg = dp := i32_clamp (by omega)
  have c3 : (Int32.ofNat nn).toNatClampNeg = nn := i32_clamp (by omega)
  have c4 : (Int32.ofNat n).toNatClampNeg = n := i32_clamp hn1
  have c5 : (Int32.ofNat n').toNatClampNeg = n' := i32_clamp hn2
  have NF : Fr Z.heap.size locs := fun y hy => (N y hy).elim (hws _) fun q => Nat.le_trans hE.1 q
  have gb : Z.heap.size ≤ b := hb.elim (hws _) fun q => Nat.le_trans hE.1 q
  obtain ⟨T', h', L, X', e2, -, K, R1, stp⟩ := cpA X hx hZ hown w1 w2 w3 w4 e1 Av Bv (us := (List.range nn).map fun j => ((List.range n).map f).getD (sp + j) (.int 0)) (Or.inl ⟨rfl, hty⟩) (i32_nn (by omega)) (i32_nn (by omega)) (i32_nn (by omega)) (by rw [c1, c3, c4]; exact h1) (by rw [c2, c3, c5]; exact h2) (by rw [c1, c3]) (by rw [c2, c3]; simpa using h2) NF gb (g := mkF m pc Ls (.int (Int32.ofNat nn) :: .int (Int32.ofNat dp) :: .ref b :: .int (Int32.ofNat sp) :: .ref a :: st)) rfl (by rw [hml]; exact hsz) rfl (Jvm.hb hby hd) hf (W := (st.map fun v => v.category).sum) (by show 2 * 0 + _ ≤ _; omega) hlo
  rw [c2, c3] at R1
  have K1 : Keep s.heap T'.heap ws := e2 ▸ K0.trans K (fun x hx => by cases List.mem_singleton.mp hx; exact hb)
  obtain ⟨L2, X2, N2⟩ := relist X' K1
  obtain ⟨s2, o, q, r⟩ := k h' K ((Arv.af R1 c5).congr fun i hi => (copy_at [] [] (.int 0) f g n n' sp dp nn h1 h2 i hi).symm) T' L2 X2 e2 N2
  exact ⟨s2, o, stp _ q, r⟩
end OwnMore
section OwnArr
variable {p : Program} {l : Launch} {e : Env} {R : Room} {s : State} {m : MethodId} {args : Array Value} {below : List Frame} {meth : Method} {c : Code} {Z : State} {h0 : Heap} {ws ws' : List Addr} {own nm : String} {bytes : ByteArray} {maxL : Nat} {ret : Option FieldType} {Φ : Outcome → State → Prop} {h : Heap} {cells slots pc pc' : Nat} {Ls Ls' : Array Slot} {st st' rest : List Value} {a0 : Array Value}
theorem dupX2 {tb : Tables} [Ours tb] {e : Env} {below : List Frame} {T target : State} {m : MethodId} {c : Code} {g : JFrame} (h : At T m c below) (hx : tb.exec = Jvm.exec) (hg : g.method = m) {x y z : Value} {rest : List Value} (hd : decode c.code g.pc = .ok (.dup_x2, 1)) (hs : g.stack = x :: y :: z :: rest) (hc : x.category = 1) (hc' : y.category = 1) (hc2 : z.category = 1)
    (hr : Steps tb e below (T.setTop { g with pc := g.pc + 1, stack := x :: y :: z :: x :: rest }) target) : Steps tb e below (T.setTop g) target := by
  subst hg
  jvm_step h [h.top, hx, hd, hs, hc, hc', hc2]
  exact hr
theorem g_dup_x2 (C : Cx p s m meth c Z h0 ws own nm bytes maxL ret) {v w z : Value} (hd : decode bytes pc = .ok (.dup_x2, 1)) (hv : v.category = 1) (hw' : w.category = 1) (hz : z.category = 1) (hp : pc + 1 = pc') (k : G p l e R s m args below meth c ws Φ h cells slots pc' Ls (v :: w :: z :: v :: st)) : G p l e R s m args below meth c ws Φ h cells slots pc Ls (v :: w :: z :: st) := by
  subst hp
  exact g_of (fun T A t q => dupX2 A C.1 rfl (hb C.2.2.2.1 hd) rfl hv hw' hz q) k
theorem g_newarrayE (C : Cx p s m meth c Z h0 ws own nm bytes maxL ret) {aty : ArrayType} {z : Int32} {n : Nat} {ad : String} (w : (Jvm.Cond.arrayClass (newarray.typeOf aty)).before a0 Z = true) (had : "[" ++ (newarray.typeOf aty).toString = ad) (hz : ¬ z < 0) (hn : z.toNatClampNeg = n) (hbig : n ≤ 67108864) (hd : decode bytes pc = .ok (.newarray aty, 2)) (hp : pc + 2 = pc') (hc : cells + 1 ≤ R.cells) (hs : slots + n ≤ R.slots) (k : ∀ h' a, a = h.size → h0.size ≤ a → Ext h h' → Exa Z h' a ad → Af Z h' a (newarray.typeOf aty) n (fun _ => defaultValue (newarray.typeOf aty)) → G p l e R s m args below meth c ws Φ h' (cells + 1) (slots + n) pc' Ls (.ref a :: st)) : G p l e R s m args below meth c ws Φ h cells slots pc Ls (.int z :: st) := by
  intro T locs X e1 N
  subst hp
  obtain ⟨hx, hZ, hown, hby, hml, hret, hlk, hnm, rfl, hE, hws⟩ := C
  obtain ⟨T', h', cA, X', e2, E, A, Ea, stp⟩ := newPE X hx hZ w e1 (g := mkF m pc Ls (.int z :: st)) rfl (hb hby hd) rfl hz (cap := n) (Nat.le_of_eq hn) (by omega) hc hs had
  obtain ⟨s2, o, q, r⟩ := k h' h.size rfl (e1 ▸ X.same.2.1) E Ea (Af.new A hn (by omega)) T' locs X' e2 N
  exact ⟨s2, o, stp _ q, r⟩
theorem g_clone (C : Cx p s m meth c Z h0 ws own nm bytes maxL ret) {index : Nat} {ad : String} {ty : FieldType} {n : Nat} {f : Nat → Value} {a : Addr} (w1 : (Jvm.Cond.methodLink own index (⟨ad, "clone", "()Ljava/lang/Object;"⟩ : MethodName)).before a0 Z = true) (w2 : (Jvm.Cond.sameMethod ad "java/lang/Object" "clone" "()Ljava/lang/Object;").before a0 Z = true) (w3 : (Jvm.Cond.native (⟨"java/lang/Object", "clone", "()Ljava/lang/Object;"⟩ : MethodName)).before a0 Z = true) (w4 : (Jvm.Cond.instanceMethod (⟨"java/lang/Object", "clone", "()Ljava/lang/Object;"⟩ : MethodName)).before a0 Z = true) (w5 : (Jvm.Cond.selects ad (⟨ad, "clone", "()Ljava/lang/Object;"⟩ : MethodName) (⟨"java/lang/Object", "clone", "()Ljava/lang/Object;"⟩ : MethodName)).before a0 Z = true) (w6 : (Jvm.Cond.castable ad "java/lang/Cloneable").before a0 Z = true) (A : Af Z h a ty n f) (E : Exa Z h a ad) (hsz : Ls.size = maxL) (hd : decode bytes pc = .ok (.invokevirtual index, 3)) (hp : pc + 3 = pc') (hf : 1 ≤ R.frames) (hl : (st.map fun v => v.category).sum + 14 ≤ R.locals) (hc : cells + 1 ≤ R.cells) (hs : slots + n ≤ R.slots) (k : ∀ h' b, b = h.size → h0.size ≤ b → Ext h h' → Exa Z h' b ad → Af Z h' b ty n f → G p l e R s m args below meth c ws Φ h' (cells + 1) (slots + n) pc' Ls (.ref b :: st)) : G p l e R s m args below meth c ws Φ h cells slots pc Ls (.ref a :: st) := by
  intro T locs X e1 N
  subst hp
  obtain ⟨hx, hZ, hown, hby, hml, hret, hlk, hnm, rfl, hE, hws⟩ := C
  obtain ⟨kk, A0, h1, h2, h3, h4⟩ := A
  obtain ⟨T', h', X', e2, E1, A1, E2, stp⟩ := cloneA X hx hZ hown w1 w2 w3 w4 w5 w6 e1 A0 E (fitC_of A0 fun i hi v hv => by rw [h3 i (h1 ▸ hi)] at hv; cases hv; exact h4 i (h1 ▸ hi)) (g := mkF m pc Ls (.ref a :: st)) rfl (by rw [hml]; exact hsz) rfl (hb hby hd) hf (W := (st.map fun v => v.category).sum) (cap := n) (by show 2 * 0 + _ ≤ _; omega) hl (Nat.le_of_eq h1) hc hs
  obtain ⟨s2, o, q, r⟩ := k h' h.size rfl (e1 ▸ X.same.2.1) E1 E2 ⟨cloneOf kk, A1, h1, h2, h3, h4⟩ T' locs X' e2 N
  exact ⟨s2, o, stp _ q, r⟩
/-- an array of arrays over the class Cn -/
def OvB (Z : State) (h : Heap) (a : Addr) (ty : FieldType) (Cn : String) : Prop := ∃ kA : Cell, h[a]? = some kA ∧ OvrA Z kA.cls ty Cn
theorem OvB.keep {h' : Heap} {a : Addr} {ty : FieldType} {Cn : String} (O : OvB Z h a ty Cn) (K : Keep h h' ws) : OvB Z h' a ty Cn := by
  obtain ⟨kA, h1, h2⟩ := O; obtain ⟨k', q1, q2, -⟩ := K.2.2 a kA h1; exact ⟨k', q1, by rw [q2]; exact h2⟩
theorem OvB.ext {h' : Heap} {a : Addr} {ty : FieldType} {Cn : String} (O : OvB Z h a ty Cn) (E : Ext h h') : OvB Z h' a ty Cn := by
  obtain ⟨kA, h1, h2⟩ := O; exact ⟨kA, E.2 _ _ h1, h2⟩
theorem OvB.sto {a y : Addr} {ty t0 : FieldType} {Cn : String} {n : Nat} {f : Nat → Value} (O : OvB Z h a ty Cn) (A : Af Z h a t0 n f) (I : Ins Z h y Cn true) : Sto Z h a (.ref y) := by
  obtain ⟨kA, h1, h2⟩ := O; obtain ⟨kB, A0, -⟩ := A; cases h1.symm.trans A0.1; exact Sto.ofVA A0 rfl h2 I
theorem g_anewA (C : Cx p s m meth c Z h0 ws own nm bytes maxL ret) {Cn : String} {ty : FieldType} {index : Nat} {z : Int32} {n : Nat} (hC : (FieldType.array ty).toString = Cn) (w : (Jvm.Cond.classLink own index Cn).before a0 Z = true) (w2 : (Jvm.Cond.arrayOver (.array ty)).before a0 Z = true) (hz : ¬ z < 0) (hn : z.toNatClampNeg = n) (hbig : n ≤ 67108864) (hd : decode bytes pc = .ok (.anewarray index, 3)) (hp : pc + 3 = pc') (hc : cells + 1 ≤ R.cells) (hs : slots + n ≤ R.slots) (k : ∀ h' a, a = h.size → h0.size ≤ a → Ext h h' → Af Z h' a (.array ty) n (fun _ => .null) → OvB Z h' a ty Cn → G p l e R s m args below meth c ws Φ h' (cells + 1) (slots + n) pc' Ls (.ref a :: st)) : G p l e R s m args below meth c ws Φ h cells slots pc Ls (.int z :: st) := by
  intro T locs X e1 N
  subst hp
  obtain ⟨hx, hZ, hown, hby, hml, hret, hlk, hnm, rfl, hE, hws⟩ := C
  obtain ⟨T', h', cA, X', e2, E, A, -, Ov, stp⟩ := newRA X hx hZ hown hC w w2 e1 (g := mkF m pc Ls (.int z :: st)) rfl (hb hby hd) rfl hz (cap := n) (Nat.le_of_eq hn) (by omega) hc hs (ad := "[" ++ Cn) rfl
  obtain ⟨s2, o, q, r⟩ := k h' h.size rfl (e1 ▸ X.same.2.1) E (Af.new A hn (by omega)) ⟨_, A.1, Ov⟩ T' locs X' e2 N
  exact ⟨s2, o, stp _ q, r⟩
end OwnArr
theorem lt_n {n k : Nat} (hn : n < 2 ^ 31) (hk : k < 2 ^ 31) : (Int32.ofNat n < Int32.ofNat k) ↔ n < k := by rw [Int32.lt_iff_toInt_lt, i32_nat hn, i32_nat hk]; omega
theorem eq_n {n k : Nat} (hn : n < 2 ^ 31) (hk : k < 2 ^ 31) : (Int32.ofNat n = Int32.ofNat k) ↔ n = k := ⟨fun q => by have := congrArg Int32.toInt q; rw [i32_nat hn, i32_nat hk] at this; omega, fun q => by rw [q]⟩
theorem sub_n {n k : Nat} (hk : k ≤ n) : Int32.ofNat n - Int32.ofNat k = Int32.ofNat (n - k) := by
  have e : Int32.ofNat n = Int32.ofNat (n - k) + Int32.ofNat k := by rw [← Int32.ofNat_add]; congr 1; omega
  rw [e, Int32.add_sub_cancel]
theorem add_n {n k : Nat} : Int32.ofNat n + Int32.ofNat k = Int32.ofNat (n + k) := (Int32.ofNat_add ..).symm
theorem dec_n {n : Nat} (h : 1 ≤ n) : Int32.ofNat n + Int32.ofInt (-1) = Int32.ofNat (n - 1) := by
  have e : Int32.ofNat n = Int32.ofNat (n - 1) + Int32.ofNat 1 := by rw [← Int32.ofNat_add]; congr 1; omega
  rw [e, Int32.add_assoc, show Int32.ofNat 1 + Int32.ofInt (-1) = 0 from by decide, Int32.add_zero]
/-- y at p, else 0 -/
def one (p : Nat) (y : Int32) : Nat → Value := fun i => .int (if i = p then y else 0)
theorem one_eq {p i : Nat} {y : Int32} (h : i = p) : one p y i = .int y := by unfold one; rw [if_pos h]
theorem one_ne {p i : Nat} {y : Int32} (h : ¬ i = p) : one p y i = .int 0 := by unfold one; rw [if_neg h]
theorem one_z {p i : Nat} : one p 0 i = .int 0 := by unfold one; split <;> rfl
/-- where sorting brings y -/
def tgt (y : Int32) : Nat := if 0 < y then 65 else 0
theorem pos_nn {y : Int32} (h : (0 : Int32) < y) : ¬ y < 0 ∧ ¬ y = 0 := by
  rw [Int32.lt_iff_toInt_lt] at h ⊢
  have l0 : (0 : Int32).toInt = 0 := rfl
  exact ⟨by omega, fun q => by rw [q] at h; omega⟩
theorem neg_nn {y : Int32} (h : y < (0 : Int32)) : ¬ 0 < y ∧ ¬ y = 0 := by
  rw [Int32.lt_iff_toInt_lt] at h ⊢
  have l0 : (0 : Int32).toInt = 0 := rfl
  exact ⟨by omega, fun q => by rw [q] at h; omega⟩
theorem sgn (y : Int32) : y = 0 ∨ 0 < y ∨ y < 0 := by
  rcases Int.lt_trichotomy y.toInt 0 with q | q | q
  · exact Or.inr (Or.inr (Int32.lt_iff_toInt_lt.mpr q))
  · exact Or.inl (Int32.toInt_inj.mp q)
  · exact Or.inr (Or.inl (Int32.lt_iff_toInt_lt.mpr q))
theorem Af.to {Z : State} {h : Heap} {a : Addr} {n : Nat} {f g : Nat → Value} (A : Af Z h a .int n f) (q : ∀ i, i < n → g i = f i) : Af Z h a .int n g := A.congr q
theorem if_t {α : Type} {c : Prop} [Decidable c] {x : α} : (if c then x else x) = x := by split <;> rfl
section OwnPlain
theorem neA {a b : Addr} (h : @LT.lt Nat instLTNat a b ∨ @LT.lt Nat instLTNat b a) : a ≠ b := fun e => by subst e; exact h.elim (Nat.lt_irrefl _) (Nat.lt_irrefl _)
theorem idx_rng (x k : Int32) (d : Int) (hk : k.toInt = d) (hd : 0 < d) : 0 ≤ ((x &&& 2147483647) % k).toInt ∧ ((x &&& 2147483647) % k).toInt < d := by
  have q1 := c_mask x 2147483647 31 (by decide) (by decide)
  have q0 : (0 : Int) ≤ (x &&& 2147483647).toInt := by rw [q1]; exact Int.emod_nonneg _ (by decide)
  have q2 := (c_irem (x &&& 2147483647) k d hk).1 q0
  rw [q2]
  exact ⟨Int.emod_nonneg _ (by omega), Int.emod_lt_of_pos _ hd⟩
theorem idx_nat (x k : Int32) (n : Nat) (hk : k.toInt = (n : Int)) (hd : 0 < n) (hn : n < 2 ^ 31) : ∃ i, i < n ∧ (x &&& 2147483647) % k = Int32.ofNat i := by
  obtain ⟨h1, h2⟩ := idx_rng x k n hk (by omega)
  refine ⟨((x &&& 2147483647) % k).toInt.toNat, by omega, ?_⟩
  apply Int32.toInt_inj.mp
  rw [i32_nat (by omega)]; omega
theorem bit_01 (x : Int32) : x &&& 1 = 0 ∨ x &&& 1 = 1 := by
  have q := c_mask x 1 1 (by decide) (by decide)
  have l : ((2 ^ 1 : Nat) : Int) = 2 := rfl
  rw [l] at q
  rcases (show (x &&& 1).toInt = 0 ∨ (x &&& 1).toInt = 1 by omega) with z | z
  · exact Or.inl (Int32.toInt_inj.mp z)
  · exact Or.inr (Int32.toInt_inj.mp z)
theorem i_ne {a b : Int32} (h : a < b) : ¬ a = b := fun q => by rw [q, Int32.lt_iff_toInt_lt] at h; omega
theorem i_ne' {a b : Int32} (h : a < b) : ¬ b = a := fun q => i_ne h q.symm
theorem i_eq {a b : Int32} (h1 : ¬ a < b) (h2 : ¬ b < a) : a = b := by
  rw [Int32.lt_iff_toInt_lt] at h1 h2; exact Int32.toInt_inj.mp (by omega)
theorem i_tr {a b c : Int32} (h1 : a < b) (h2 : b < c) : a < c := by
  rw [Int32.lt_iff_toInt_lt] at h1 h2 ⊢; omega
/-- the words of the second text, sorted: how many, the first, the second; the numbers of y and of 0 -/
def dF (y : Int32) : Nat := if y = 0 then 1 else 2
def w0F (y : Int32) : Int32 := if y < 0 then y else 0
def w1F (y : Int32) : Int32 := if 0 < y then y else 0
def iyF (y : Int32) : Nat := if 0 < y then 1 else 0
def izF (y : Int32) : Nat := if y < 0 then 1 else 0
def num (y : Int32) (p j : Nat) : Nat := if j = p then iyF y else izF y
theorem dF_12 (y : Int32) : dF y = 1 ∨ dF y = 2 := by unfold dF; split <;> simp
theorem dF_le (y : Int32) : 1 ≤ dF y ∧ dF y ≤ 2 := by rcases dF_12 y with q | q <;> omega
theorem dF_z : dF 0 = 1 := rfl
theorem dF_p {y : Int32} (h : (0 : Int32) < y) : dF y = 2 := if_neg (pos_nn h).2
theorem dF_n {y : Int32} (h : y < (0 : Int32)) : dF y = 2 := if_neg (neg_nn h).2
theorem fun_p {y : Int32} (h : (0 : Int32) < y) : w0F y = 0 ∧ w1F y = y ∧ iyF y = 1 ∧ izF y = 0 := ⟨if_neg (pos_nn h).1, if_pos h, if_pos h, if_neg (pos_nn h).1⟩
theorem fun_n {y : Int32} (h : y < (0 : Int32)) : w0F y = y ∧ w1F y = 0 ∧ iyF y = 0 ∧ izF y = 1 := ⟨if_pos h, if_neg (neg_nn h).1, if_neg (neg_nn h).1, if_pos h⟩
theorem fun_z : w0F 0 = 0 ∧ w1F 0 = 0 ∧ iyF 0 = 0 ∧ izF 0 = 0 := ⟨rfl, rfl, rfl, rfl⟩
theorem w_lt {y : Int32} (h : dF y = 2) : w0F y < w1F y := by
  rcases sgn y with q | q | q
  · subst q; exact absurd h (by decide)
  · obtain ⟨e1, e2, -, -⟩ := fun_p q; rw [e1, e2]; exact q
  · obtain ⟨e1, e2, -, -⟩ := fun_n q; rw [e1, e2]; exact q
theorem num_le (y : Int32) (p j : Nat) : num y p j + 1 ≤ dF y := by
  rcases sgn y with q | q | q
  · subst q; unfold num; split <;> decide
  · obtain ⟨-, -, e1, e2⟩ := fun_p q; rw [dF_p q]; unfold num; rw [e1, e2]; split <;> decide
  · obtain ⟨-, -, e1, e2⟩ := fun_n q; rw [dF_n q]; unfold num; rw [e1, e2]; split <;> decide
/-- what a search answers -/
def BS (y key r : Int32) : Prop := (w0F y = key ∧ r = 0) ∨ (dF y = 2 ∧ w1F y = key ∧ r = 1) ∨ (¬ w0F y = key ∧ (dF y = 2 → ¬ w1F y = key) ∧ r < 0)
theorem bs_num {y r : Int32} {p j : Nat} (B : BS y (if j = p then y else 0) r) : r = Int32.ofNat (num y p j) := by
  unfold BS at B; unfold num
  rcases sgn y with q | q | q
  · subst q
    obtain ⟨e1, e2, e3, e4⟩ := fun_z
    rw [e1, e2, dF_z, if_t] at B; rw [e3, e4, if_t]
    rcases B with ⟨-, h⟩ | ⟨h, -⟩ | ⟨h, -⟩
    · exact h
    · exact absurd h (by decide)
    · exact absurd rfl h
  · obtain ⟨e1, e2, e3, e4⟩ := fun_p q
    obtain ⟨n1, n2⟩ := pos_nn q
    rw [e1, e2, dF_p q] at B; rw [e3, e4]
    by_cases z : j = p
    · rw [if_pos z] at B ⊢
      rcases B with ⟨h, -⟩ | ⟨-, -, h⟩ | ⟨-, h, -⟩
      · exact absurd h.symm n2
      · exact h
      · exact absurd rfl (h rfl)
    · rw [if_neg z] at B ⊢
      rcases B with ⟨-, h⟩ | ⟨-, h, -⟩ | ⟨h, -⟩
      · exact h
      · exact absurd h n2
      · exact absurd rfl h
  · obtain ⟨e1, e2, e3, e4⟩ := fun_n q
    obtain ⟨n1, n2⟩ := neg_nn q
    rw [e1, e2, dF_n q] at B; rw [e3, e4]
    by_cases z : j = p
    · rw [if_pos z] at B ⊢
      rcases B with ⟨-, h⟩ | ⟨-, h, -⟩ | ⟨h, -⟩
      · exact h
      · exact absurd h.symm n2
      · exact absurd rfl h
    · rw [if_neg z] at B ⊢
      rcases B with ⟨h, -⟩ | ⟨-, -, h⟩ | ⟨-, h, -⟩
      · exact absurd h n2
      · exact h
      · exact absurd rfl (h rfl)
/-- how many of the first j places hold the word i - 1 -/
def ct (f : Nat → Nat) : Nat → Nat → Nat
  | 0, _ => 0
  | j + 1, i => ct f j i + (if f j + 1 = i then 1 else 0)
def n3 (k : Nat) (p j : Nat) : Nat := if k = 0 then 0 else if k = 1 then (if j = p then 1 else 0) else (if j = p then 0 else 1)
/-- the kind of y: 0, above, below -/
def kd (y : Int32) : Nat := if y = 0 then 0 else if 0 < y then 1 else 2
theorem kd_z : kd 0 = 0 := rfl
theorem kd_p {y : Int32} (h : (0 : Int32) < y) : kd y = 1 := by unfold kd; rw [if_neg (pos_nn h).2, if_pos h]
theorem kd_n {y : Int32} (h : y < (0 : Int32)) : kd y = 2 := by unfold kd; rw [if_neg (neg_nn h).2, if_neg (neg_nn h).1]
theorem kd_lt (y : Int32) : kd y < 3 := by rcases sgn y with q | q | q; subst q; decide; rw [kd_p q]; decide; rw [kd_n q]; decide
theorem num_n3 (y : Int32) (p : Nat) : num y p = n3 (kd y) p := by
  funext j
  rcases sgn y with q | q | q
  · subst q; unfold num n3; rw [kd_z, if_pos rfl]; split <;> rfl
  · obtain ⟨-, -, e1, e2⟩ := fun_p q; unfold num n3; rw [kd_p q, e1, e2]; rfl
  · obtain ⟨-, -, e1, e2⟩ := fun_n q; unfold num n3; rw [kd_n q, e1, e2]; rfl
/-- where the places of a word begin -/
def s3 (k : Nat) (i : Nat) : Nat := if i = 0 then 0 else if i = 1 then (if k = 0 then 66 else if k = 1 then 65 else 1) else 66
theorem ct_0 (k p j : Nat) : ct (n3 k p) j 0 = 0 := by
  induction j with
  | zero => rfl
  | succ j ih => show ct (n3 k p) j 0 + (if n3 k p j + 1 = 0 then 1 else 0) = 0; rw [ih, if_neg (Nat.succ_ne_zero _)]
theorem ctA (p j : Nat) : ct (n3 0 p) j 1 = j := by
  induction j with
  | zero => rfl
  | succ j ih => show ct (n3 0 p) j 1 + 1 = j + 1; rw [ih]
theorem ctB (p j : Nat) : (p < j → ct (n3 1 p) j 2 = 1 ∧ ct (n3 1 p) j 1 + 1 = j) ∧ (¬ p < j → ct (n3 1 p) j 2 = 0 ∧ ct (n3 1 p) j 1 = j) := by
  induction j with
  | zero => exact ⟨fun h => absurd h (Nat.not_lt_zero _), fun _ => ⟨rfl, rfl⟩⟩
  | succ j ih =>
    obtain ⟨i1, i2⟩ := ih
    have e0 : n3 1 p j = if j = p then 1 else 0 := rfl
    have e2 : ct (n3 1 p) (j + 1) 2 = ct (n3 1 p) j 2 + (if n3 1 p j + 1 = 2 then 1 else 0) := rfl
    have e1 : ct (n3 1 p) (j + 1) 1 = ct (n3 1 p) j 1 + (if n3 1 p j + 1 = 1 then 1 else 0) := rfl
    by_cases z : j = p
    · rw [if_pos z] at e0; rw [e0, if_pos (show 1 + 1 = 2 from rfl)] at e2; rw [e0, if_neg (show ¬ 1 + 1 = 1 by decide)] at e1
      have q := i2 (by omega)
      exact ⟨fun _ => ⟨by omega, by omega⟩, fun r => ⟨by omega, by omega⟩⟩
    · rw [if_neg z] at e0; rw [e0, if_neg (show ¬ 0 + 1 = 2 by decide)] at e2; rw [e0, if_pos (show 0 + 1 = 1 from rfl)] at e1
      by_cases w : p < j
      · have q := i1 w; exact ⟨fun _ => ⟨by omega, by omega⟩, fun r => ⟨by omega, by omega⟩⟩
      · have q := i2 w; exact ⟨fun _ => ⟨by omega, by omega⟩, fun r => ⟨by omega, by omega⟩⟩
theorem ctC (p j : Nat) : (p < j → ct (n3 2 p) j 1 = 1 ∧ ct (n3 2 p) j 2 + 1 = j) ∧ (¬ p < j → ct (n3 2 p) j 1 = 0 ∧ ct (n3 2 p) j 2 = j) := by
  induction j with
  | zero => exact ⟨fun h => absurd h (Nat.not_lt_zero _), fun _ => ⟨rfl, rfl⟩⟩
  | succ j ih =>
    obtain ⟨i1, i2⟩ := ih
    have e0 : n3 2 p j = if j = p then 0 else 1 := rfl
    have e2 : ct (n3 2 p) (j + 1) 2 = ct (n3 2 p) j 2 + (if n3 2 p j + 1 = 2 then 1 else 0) := rfl
    have e1 : ct (n3 2 p) (j + 1) 1 = ct (n3 2 p) j 1 + (if n3 2 p j + 1 = 1 then 1 else 0) := rfl
    by_cases z : j = p
    · rw [if_pos z] at e0; rw [e0, if_neg (show ¬ 0 + 1 = 2 by decide)] at e2; rw [e0, if_pos (show 0 + 1 = 1 from rfl)] at e1
      have q := i2 (by omega)
      exact ⟨fun _ => ⟨by omega, by omega⟩, fun r => ⟨by omega, by omega⟩⟩
    · rw [if_neg z] at e0; rw [e0, if_pos (show 1 + 1 = 2 from rfl)] at e2; rw [e0, if_neg (show ¬ 1 + 1 = 1 by decide)] at e1
      by_cases w : p < j
      · have q := i1 w; exact ⟨fun _ => ⟨by omega, by omega⟩, fun r => ⟨by omega, by omega⟩⟩
      · have q := i2 w; exact ⟨fun _ => ⟨by omega, by omega⟩, fun r => ⟨by omega, by omega⟩⟩
/-- where the place j is listed; the place listed at t -/
def ixF (k p j : Nat) : Nat := if k = 0 then j else if k = 1 then (if j = p then 65 else if j < p then j else j - 1) else (if j = p then 0 else if j < p then j + 1 else j)
def cF (k p t : Nat) : Nat := if k = 0 then t else if k = 1 then (if t = 65 then p else if t < p then t else t + 1) else (if t = 0 then p else if t ≤ p then t - 1 else t)
theorem ix_eq {k p j : Nat} (hk : k < 3) : s3 k (n3 k p j) + ct (n3 k p) j (n3 k p j + 1) = ixF k p j := by
  rcases (show k = 0 ∨ k = 1 ∨ k = 2 by omega) with rfl | rfl | rfl
  · show 0 + ct (n3 0 p) j 1 = j; rw [ctA]; omega
  · have q := ctB p j
    have e0 : n3 1 p j = if j = p then 1 else 0 := rfl
    have e9 : ixF 1 p j = if j = p then 65 else if j < p then j else j - 1 := rfl
    by_cases z : j = p
    · rw [if_pos z] at e0 e9; rw [e0, e9]; show 65 + ct (n3 1 p) j 2 = 65; have := q.2 (by omega); omega
    · rw [if_neg z] at e0 e9; rw [e0, e9]; show 0 + ct (n3 1 p) j 1 = _
      by_cases w : j < p
      · rw [if_pos w]; have := q.2 (by omega); omega
      · rw [if_neg w]; have := q.1 (by omega); omega
  · have q := ctC p j
    have e0 : n3 2 p j = if j = p then 0 else 1 := rfl
    have e9 : ixF 2 p j = if j = p then 0 else if j < p then j + 1 else j := rfl
    by_cases z : j = p
    · rw [if_pos z] at e0 e9; rw [e0, e9]; show 0 + ct (n3 2 p) j 1 = 0; have := q.2 (by omega); omega
    · rw [if_neg z] at e0 e9; rw [e0, e9]; show 1 + ct (n3 2 p) j 2 = _
      by_cases w : j < p
      · rw [if_pos w]; have := q.2 (by omega); omega
      · rw [if_neg w]; have := q.1 (by omega); omega
theorem ct_end {k p : Nat} (hk : k < 3) (hp : p < 66) : ct (n3 k p) 66 1 = s3 k 1 ∧ (¬ k = 0 → ct (n3 k p) 66 2 + s3 k 1 = 66) := by
  rcases (show k = 0 ∨ k = 1 ∨ k = 2 by omega) with rfl | rfl | rfl
  · exact ⟨ctA p 66, fun h => absurd rfl h⟩
  · have q := (ctB p 66).1 hp; exact ⟨by show _ = 65; omega, fun _ => by show _ + 65 = 66; omega⟩
  · have q := (ctC p 66).1 hp; exact ⟨by show _ = 1; omega, fun _ => by show _ + 1 = 66; omega⟩
theorem ix_in : ∀ k, k < 3 → ∀ p, p < 66 → ∀ j, j < 66 → ixF k p j < 66 ∧ cF k p (ixF k p j) = j := by decide +kernel
theorem cF_in : ∀ k, k < 3 → ∀ p, p < 66 → ∀ t, t < 66 → cF k p t < 66 ∧ ixF k p (cF k p t) = t := by decide +kernel
def bit1 (t : Nat) : Int64 := (1 : Int64) <<< ((Int32.ofNat t) &&& 63).toInt64
/-- the bits of the places from k0 -/
def bo0 (f : Nat → Nat) (k0 : Nat) : Nat → Int64
  | 0 => 0
  | n + 1 => if f (k0 + n) / 64 = 0 then bo0 f k0 n ||| bit1 (f (k0 + n)) else bo0 f k0 n
def bo1 (f : Nat → Nat) (k0 : Nat) : Nat → Int64
  | 0 => 0
  | n + 1 => if f (k0 + n) / 64 = 0 then bo1 f k0 n else bo1 f k0 n ||| bit1 (f (k0 + n))
def two (x y : Int64) : Nat → Value := fun i => .long (if i = 0 then x else y)
theorem two_0 {x y : Int64} : two x y 0 = .long x := rfl
theorem two_1 {x y : Int64} : two x y 1 = .long y := rfl
theorem two_at {x y : Int64} {i : Nat} : two x y i = .long (if i = 0 then x else y) := rfl
theorem upd_two {x y v : Int64} {i j : Nat} (hj : j < 2) (hi : i < 2) : upd (two x y) i (.long v) j = two (if i = 0 then v else x) (if i = 0 then y else v) j := by
  rcases (show i = 0 ∨ i = 1 by omega) with rfl | rfl <;> rcases (show j = 0 ∨ j = 1 by omega) with rfl | rfl <;> rfl
/-- one long of a row's step: carry, rises, falls, match; gives plus, minus, the carry out -/
def stq (m1 : Int64) (cg cl : Int32) (r f m : Int64) : Int64 × Int64 × Int32 :=
  let mof := m ||| f
  let re := (((m1 &&& r) + r) ^^^ r) ||| m1
  let ga := f ||| ((re ||| r) ^^^ (-1 : Int64))
  let lo := r &&& re
  let ga2 := (ga <<< ((1 : Int32) &&& 63).toInt64) ||| cg.toInt64
  let lo2 := (lo <<< ((1 : Int32) &&& 63).toInt64) ||| cl.toInt64
  (lo2 ||| ((mof ||| ga2) ^^^ (-1 : Int64)), ga2 &&& mof, (ushrL ga 63).toInt32 - (ushrL lo 63).toInt32)
def stp (c : Int32) (r f m : Int64) : Int64 × Int64 × Int32 := stq (if c < 0 then m ||| 1 else m) (if 0 < c then 1 else 0) (if c < 0 then 1 else 0) r f m
theorem stp_p {c : Int32} {r f m : Int64} (h0 : (0 : Int32) < c) (h1 : ¬ c < 0) : stp c r f m = stq m 1 0 r f m := by unfold stp; rw [if_neg h1, if_pos h0, if_neg h1]
theorem stp_0 {c : Int32} {r f m : Int64} (h0 : ¬ (0 : Int32) < c) (h1 : ¬ c < 0) : stp c r f m = stq m 0 0 r f m := by unfold stp; rw [if_neg h1, if_neg h0, if_neg h1]
theorem stp_n {c : Int32} {r f m : Int64} (h0 : c < 0) (h1 : ¬ (0 : Int32) < c) : stp c r f m = stq (m ||| 1) 0 1 r f m := by unfold stp; rw [if_pos h0, if_neg h1, if_pos h0]
/-- the two longs of the step's row: plus, minus -/
def rw2 (s0 s1 : Int64) : Int64 × Int64 × Int64 × Int64 :=
  ((stp 1 (-1) 0 s0).1, (stp (stp 1 (-1) 0 s0).2.2 (-1) 0 s1).1, (stp 1 (-1) 0 s0).2.1, (stp (stp 1 (-1) 0 s0).2.2 (-1) 0 s1).2.1)
def bt (x : Int64) (j : Nat) : Int32 := ((ushrL x (Int32.ofNat j)) &&& 1).toInt32
/-- the row's values -/
def V (P0 P1 M0 M1 : Int64) (r : Int32) : Nat → Int32
  | 0 => r
  | j + 1 => V P0 P1 M0 M1 r j + (bt (if j / 64 = 0 then P0 else P1) j - bt (if j / 64 = 0 then M0 else M1) j)
theorem V_of {P0 P1 M0 M1 : Int64} {r : Int32} (E : Nat → Nat) (h0 : r = Int32.ofNat (E 0)) (hs : ∀ j, j < 66 → Int32.ofNat (E j) + (bt (if j / 64 = 0 then P0 else P1) j - bt (if j / 64 = 0 then M0 else M1) j) = Int32.ofNat (E (j + 1))) : ∀ j, j ≤ 66 → V P0 P1 M0 M1 r j = Int32.ofNat (E j) := by
  intro j
  induction j with
  | zero => intro _; exact h0
  | succ j ih => intro hj; show V P0 P1 M0 M1 r j + _ = _; rw [ih (by omega)]; exact hs j (by omega)
theorem V_row0 : ∀ j, j ≤ 66 → V (-1) (-1) 0 0 0 j = Int32.ofNat j := V_of (fun j => j) rfl (by decide +kernel)
/-- what a step is fed with: k = 0: no bits; 1: all; 2: all but p; 3: p alone -/
def sm (k p : Nat) : Int64 × Int64 :=
  if k = 0 then (0, 0) else if k = 1 then (-1, 3) else if k = 2 then (if p / 64 = 0 then (bit1 p ^^^ (-1), 3) else (-1, 3 ^^^ bit1 p)) else (if p / 64 = 0 then (0 ^^^ bit1 p, 0) else (0, 0 ^^^ bit1 p))
def eN (k p j : Nat) : Nat := if j = 0 then 1 else if k = 0 then j else if k = 1 then j - 1 else if k = 2 then (if j = 1 ∧ p = 0 then j else j - 1) else (if p < j then j - 1 else j)
theorem V_stp : ∀ k, k < 4 → ∀ p, p < 66 → ∀ j, j < 66 → Int32.ofNat (eN k p j) + (bt (if j / 64 = 0 then (rw2 (sm k p).1 (sm k p).2).1 else (rw2 (sm k p).1 (sm k p).2).2.1) j - bt (if j / 64 = 0 then (rw2 (sm k p).1 (sm k p).2).2.2.1 else (rw2 (sm k p).1 (sm k p).2).2.2.2) j) = Int32.ofNat (eN k p (j + 1)) := by decide +kernel
theorem V_row1 {k p : Nat} (hk : k < 4) (hp : p < 66) : ∀ j, j ≤ 66 → V (rw2 (sm k p).1 (sm k p).2).1 (rw2 (sm k p).1 (sm k p).2).2.1 (rw2 (sm k p).1 (sm k p).2).2.2.1 (rw2 (sm k p).1 (sm k p).2).2.2.2 1 j = Int32.ofNat (eN k p j) := V_of (eN k p) rfl (V_stp k hk p hp)
theorem bo_z : ∀ p, p < 66 → bo0 (cF 0 p) 0 66 = (sm 1 p).1 ∧ bo1 (cF 0 p) 0 66 = (sm 1 p).2 := by decide +kernel
theorem bo_p : ∀ p, p < 66 → bo0 (cF 1 p) 0 65 = (sm 2 p).1 ∧ bo1 (cF 1 p) 0 65 = (sm 2 p).2 := by decide +kernel
theorem bo_n : ∀ p, p < 66 → bo0 (cF 2 p) 1 65 = (sm 2 p).1 ∧ bo1 (cF 2 p) 1 65 = (sm 2 p).2 := by decide +kernel
/-- which row the law asks -/
def kx (x y : Int32) : Nat := if x = 0 then (if y = 0 then 1 else 2) else if x = y then 3 else 0
theorem kx_lt (x y : Int32) : kx x y < 4 := by unfold kx; split; split; decide; decide; split <;> decide
def exF (r x y p j : Int32) : Int32 := if r = 0 then j else if j = 0 then 1 else if x = 0 then (if j = 1 ∧ p = 0 ∧ ¬ y = 0 then j else j - 1) else if x = y ∧ p < j then j - 1 else j
theorem ex_row0 {x y p j : Int32} : exF 0 x y p j = j := if_pos rfl
theorem ex_row1 {x y : Int32} {p j : Nat} (hp : p < 66) (hj : j < 67) : exF 1 x y (Int32.ofNat p) (Int32.ofNat j) = Int32.ofNat (eN (kx x y) p j) := by
  have ej : (Int32.ofNat j = 0) ↔ j = 0 := eq_n (k := 0) (by omega) (by omega)
  have ej1 : (Int32.ofNat j = 1) ↔ j = 1 := eq_n (k := 1) (by omega) (by omega)
  have ep : (Int32.ofNat p = 0) ↔ p = 0 := eq_n (k := 0) (by omega) (by omega)
  have lp : (Int32.ofNat p < Int32.ofNat j) ↔ p < j := lt_n (by omega) (by omega)
  have sj : ¬ j = 0 → Int32.ofNat j - 1 = Int32.ofNat (j - 1) := fun z => sub_n (k := 1) (by omega)
  by_cases z : j = 0
  · have eR : eN (kx x y) p j = 1 := if_pos z
    have eL : exF 1 x y (Int32.ofNat p) (Int32.ofNat j) = 1 := if_pos (ej.2 z)
    rw [eR]; exact eL
  · have nj : ¬ Int32.ofNat j = 0 := fun q => z (ej.1 q)
    by_cases zx : x = 0
    · by_cases zy : y = 0
      · have ek : kx x y = 1 := by unfold kx; rw [if_pos zx, if_pos zy]
        have eR : eN 1 p j = j - 1 := by show (if j = 0 then 1 else j - 1) = j - 1; exact if_neg z
        have eL : exF 1 x y (Int32.ofNat p) (Int32.ofNat j) = Int32.ofNat j - 1 := by
          show (if Int32.ofNat j = 0 then 1 else if x = 0 then (if Int32.ofNat j = 1 ∧ Int32.ofNat p = 0 ∧ ¬ y = 0 then Int32.ofNat j else Int32.ofNat j - 1) else _) = _
          rw [if_neg nj, if_pos zx]; exact if_neg fun q => q.2.2 zy
        rw [ek, eR, eL]; exact sj z
      · have ek : kx x y = 2 := by unfold kx; rw [if_pos zx, if_neg zy]
        have eR : eN 2 p j = if j = 1 ∧ p = 0 then j else j - 1 := by show (if j = 0 then 1 else if j = 1 ∧ p = 0 then j else j - 1) = _; exact if_neg z
        have eL : exF 1 x y (Int32.ofNat p) (Int32.ofNat j) = if Int32.ofNat j = 1 ∧ Int32.ofNat p = 0 ∧ ¬ y = 0 then Int32.ofNat j else Int32.ofNat j - 1 := by
          show (if Int32.ofNat j = 0 then 1 else if x = 0 then (if Int32.ofNat j = 1 ∧ Int32.ofNat p = 0 ∧ ¬ y = 0 then Int32.ofNat j else Int32.ofNat j - 1) else _) = _
          rw [if_neg nj, if_pos zx]
        rw [ek, eR, eL]
        by_cases w : j = 1 ∧ p = 0
        · rw [if_pos w]; exact if_pos ⟨ej1.2 w.1, ep.2 w.2, zy⟩
        · rw [if_neg w, ← sj z]; exact if_neg fun q => w ⟨ej1.1 q.1, ep.1 q.2.1⟩
    · have eL : exF 1 x y (Int32.ofNat p) (Int32.ofNat j) = if x = y ∧ Int32.ofNat p < Int32.ofNat j then Int32.ofNat j - 1 else Int32.ofNat j := by
        show (if Int32.ofNat j = 0 then 1 else if x = 0 then _ else if x = y ∧ Int32.ofNat p < Int32.ofNat j then Int32.ofNat j - 1 else Int32.ofNat j) = _
        rw [if_neg nj, if_neg zx]
      by_cases zy : x = y
      · have ek : kx x y = 3 := by unfold kx; rw [if_neg zx, if_pos zy]
        have eR : eN 3 p j = if p < j then j - 1 else j := by show (if j = 0 then 1 else if p < j then j - 1 else j) = _; exact if_neg z
        rw [ek, eR, eL]
        by_cases w : p < j
        · rw [if_pos w, ← sj z]; exact if_pos ⟨zy, lp.2 w⟩
        · rw [if_neg w]; exact if_neg fun q => w (lp.1 q.2)
      · have ek : kx x y = 0 := by unfold kx; rw [if_neg zx, if_neg zy]
        have eR : eN 0 p j = j := by show (if j = 0 then 1 else j) = j; exact if_neg z
        rw [ek, eR, eL]; exact if_neg fun q => zy q.1
/-- the first text's word as it is held -/
def Wd (x y av : Int32) : Prop := (av = -1 ∧ kx x y = 0) ∨ (av = Int32.ofNat (izF y) ∧ kx x y = if y = 0 then 1 else 2) ∨ (¬ y = 0 ∧ av = Int32.ofNat (iyF y) ∧ kx x y = 3)
theorem wd_of {x y r : Int32} (B : BS y x r) : Wd x y (if (-1 : Int32) < r then r else -1) := by
  unfold BS at B; unfold Wd kx
  have l0 : (if (-1 : Int32) < 0 then (0 : Int32) else -1) = 0 := by decide
  have l1 : (if (-1 : Int32) < 1 then (1 : Int32) else -1) = 1 := by decide
  have lm : r < 0 → (if (-1 : Int32) < r then r else -1) = -1 := fun q => if_neg fun q2 => by
    rw [Int32.lt_iff_toInt_lt] at q q2
    have e0 : (0 : Int32).toInt = 0 := rfl
    have e1 : (-1 : Int32).toInt = -1 := rfl
    omega
  rcases sgn y with q | q | q
  · subst q
    obtain ⟨e1, e2, e3, e4⟩ := fun_z
    rw [e1, e2, dF_z] at B; rw [e4]
    rcases B with ⟨h1, h2⟩ | ⟨h1, -⟩ | ⟨h1, -, h2⟩
    · exact Or.inr (Or.inl ⟨by rw [h2]; exact l0, by rw [if_pos h1.symm]⟩)
    · exact absurd h1 (by decide)
    · have n0 : ¬ x = 0 := fun z => h1 z.symm
      exact Or.inl ⟨lm h2, by rw [if_neg n0, if_neg n0]⟩
  · obtain ⟨e1, e2, e3, e4⟩ := fun_p q
    obtain ⟨n1, n2⟩ := pos_nn q
    rw [e1, e2, dF_p q] at B; rw [e3, e4]
    rcases B with ⟨h1, h2⟩ | ⟨-, h1, h2⟩ | ⟨h1, h3, h2⟩
    · exact Or.inr (Or.inl ⟨by rw [h2]; exact l0, by rw [if_pos h1.symm]⟩)
    · subst h1; exact Or.inr (Or.inr ⟨n2, by rw [h2]; exact l1, by rw [if_neg n2, if_pos rfl]⟩)
    · have n0 : ¬ x = 0 := fun z => h1 z.symm
      have n3 : ¬ x = y := fun z => h3 rfl z.symm
      exact Or.inl ⟨lm h2, by rw [if_neg n0, if_neg n3]⟩
  · obtain ⟨e1, e2, e3, e4⟩ := fun_n q
    obtain ⟨n1, n2⟩ := neg_nn q
    rw [e1, e2, dF_n q] at B; rw [e3, e4]
    rcases B with ⟨h1, h2⟩ | ⟨-, h1, h2⟩ | ⟨h1, h3, h2⟩
    · subst h1; exact Or.inr (Or.inr ⟨n2, by rw [h2]; exact l0, by rw [if_neg n2, if_pos rfl]⟩)
    · exact Or.inr (Or.inl ⟨by rw [h2]; exact l1, by rw [if_pos h1.symm]⟩)
    · have n0 : ¬ x = 0 := fun z => h3 rfl z.symm
      have n3 : ¬ x = y := fun z => h1 z.symm
      exact Or.inl ⟨lm h2, by rw [if_neg n0, if_neg n3]⟩
theorem iz_lt (y : Int32) : izF y < dF y ∧ iyF y < dF y := by
  rcases sgn y with q | q | q
  · subst q; decide
  · obtain ⟨-, -, e1, e2⟩ := fun_p q; rw [dF_p q, e1, e2]; decide
  · obtain ⟨-, -, e1, e2⟩ := fun_n q; rw [dF_n q, e1, e2]; decide
theorem iy_ne {y : Int32} (h : ¬ y = 0) : ¬ iyF y = izF y := by
  rcases sgn y with q | q | q
  · exact absurd q h
  · obtain ⟨-, -, e1, e2⟩ := fun_p q; rw [e1, e2]; decide
  · obtain ⟨-, -, e1, e2⟩ := fun_n q; rw [e1, e2]; decide
theorem fl_of {y : Int32} (h : ¬ y = 0) (p : Nat) : s3 (kd y) (iyF y + 1) = s3 (kd y) (iyF y) + 1 ∧ cF (kd y) p (s3 (kd y) (iyF y)) = p ∧ s3 (kd y) (iyF y) < 66 := by
  rcases sgn y with q | q | q
  · exact absurd q h
  · obtain ⟨-, -, e1, e2⟩ := fun_p q; rw [kd_p q, e1]; exact ⟨rfl, rfl, by decide⟩
  · obtain ⟨-, -, e1, e2⟩ := fun_n q; rw [kd_n q, e1]; exact ⟨rfl, rfl, by decide⟩
theorem sm3 (p : Nat) : (sm 3 p).1 = (if p / 64 = 0 then (if p / 64 = 0 then (0 : Int64) else 0) ^^^ bit1 p else 0) ∧ (sm 3 p).2 = (if p / 64 = 0 then (0 : Int64) else (if p / 64 = 0 then (0 : Int64) else 0) ^^^ bit1 p) := by
  have e : sm 3 p = if p / 64 = 0 then ((0 : Int64) ^^^ bit1 p, (0 : Int64)) else ((0 : Int64), (0 : Int64) ^^^ bit1 p) := rfl
  rw [e]
  by_cases z : p / 64 = 0
  · refine ⟨?_, ?_⟩ <;> simp only [if_pos z]
  · refine ⟨?_, ?_⟩ <;> simp only [if_neg z]
theorem kd_ne {y : Int32} (h : dF y = 2) : ¬ kd y = 0 := by
  rcases sgn y with q | q | q
  · subst q; exact absurd h (by decide)
  · rw [kd_p q]; decide
  · rw [kd_n q]; decide
theorem ush6 : ∀ p, p < 66 → ushr (Int32.ofNat p) 6 = Int32.ofNat (p / 64) := by decide +kernel
end OwnPlain
theorem d_jdk_2529_method_9_0 : decode jdk_2529_method_9_code 0 = .ok (.aconst_null, 1) := by decide +kernel
theorem d_jdk_2529_method_9_1 : decode jdk_2529_method_9_code 1 = .ok (.astore 4, 2) := by decide +kernel
theorem d_jdk_2529_method_9_3 : decode jdk_2529_method_9_code 3 = .ok (.iload_n 2, 1) := by decide +kernel
theorem d_jdk_2529_method_9_4 : decode jdk_2529_method_9_code 4 = .ok (.iload_n 3, 1) := by decide +kernel
theorem d_jdk_2529_method_9_5 : decode jdk_2529_method_9_code 5 = .ok (.iadd, 1) := by decide +kernel
theorem d_jdk_2529_method_9_6 : decode jdk_2529_method_9_code 6 = .ok (.istore 5, 2) := by decide +kernel
theorem d_jdk_2529_method_9_8 : decode jdk_2529_method_9_code 8 = .ok (.iconst 1, 1) := by decide +kernel
theorem d_jdk_2529_method_9_9 : decode jdk_2529_method_9_code 9 = .ok (.istore 6, 2) := by decide +kernel
theorem d_jdk_2529_method_9_11 : decode jdk_2529_method_9_code 11 = .ok (.iload_n 2, 1) := by decide +kernel
theorem d_jdk_2529_method_9_12 : decode jdk_2529_method_9_code 12 = .ok (.istore 7, 2) := by decide +kernel
theorem d_jdk_2529_method_9_14 : decode jdk_2529_method_9_code 14 = .ok (.iload_n 2, 1) := by decide +kernel
theorem d_jdk_2529_method_9_15 : decode jdk_2529_method_9_code 15 = .ok (.iconst 1, 1) := by decide +kernel
theorem d_jdk_2529_method_9_16 : decode jdk_2529_method_9_code 16 = .ok (.iadd, 1) := by decide +kernel
theorem d_jdk_2529_method_9_17 : decode jdk_2529_method_9_code 17 = .ok (.istore 8, 2) := by decide +kernel
theorem d_jdk_2529_method_9_19 : decode jdk_2529_method_9_code 19 = .ok (.iload 8, 2) := by decide +kernel
theorem d_jdk_2529_method_9_21 : decode jdk_2529_method_9_code 21 = .ok (.iload 5, 2) := by decide +kernel
theorem d_jdk_2529_method_9_23 : decode jdk_2529_method_9_code 23 = .ok (.if_icmp .ge 299, 3) := by decide +kernel
theorem d_jdk_2529_method_9_26 : decode jdk_2529_method_9_code 26 = .ok (.aload_n 1, 1) := by decide +kernel
theorem d_jdk_2529_method_9_27 : decode jdk_2529_method_9_code 27 = .ok (.iload 8, 2) := by decide +kernel
theorem d_jdk_2529_method_9_29 : decode jdk_2529_method_9_code 29 = .ok (.iconst 1, 1) := by decide +kernel
theorem d_jdk_2529_method_9_30 : decode jdk_2529_method_9_code 30 = .ok (.isub, 1) := by decide +kernel
theorem d_jdk_2529_method_9_31 : decode jdk_2529_method_9_code 31 = .ok (.iaload, 1) := by decide +kernel
theorem d_jdk_2529_method_9_32 : decode jdk_2529_method_9_code 32 = .ok (.aload_n 1, 1) := by decide +kernel
theorem d_jdk_2529_method_9_33 : decode jdk_2529_method_9_code 33 = .ok (.iload 8, 2) := by decide +kernel
theorem d_jdk_2529_method_9_35 : decode jdk_2529_method_9_code 35 = .ok (.iaload, 1) := by decide +kernel
theorem d_jdk_2529_method_9_36 : decode jdk_2529_method_9_code 36 = .ok (.if_icmp .ge 29, 3) := by decide +kernel
theorem d_jdk_2529_method_9_65 : decode jdk_2529_method_9_code 65 = .ok (.aload_n 1, 1) := by decide +kernel
theorem d_jdk_2529_method_9_66 : decode jdk_2529_method_9_code 66 = .ok (.iload 8, 2) := by decide +kernel
theorem d_jdk_2529_method_9_68 : decode jdk_2529_method_9_code 68 = .ok (.iconst 1, 1) := by decide +kernel
theorem d_jdk_2529_method_9_69 : decode jdk_2529_method_9_code 69 = .ok (.isub, 1) := by decide +kernel
theorem d_jdk_2529_method_9_70 : decode jdk_2529_method_9_code 70 = .ok (.iaload, 1) := by decide +kernel
theorem d_jdk_2529_method_9_71 : decode jdk_2529_method_9_code 71 = .ok (.aload_n 1, 1) := by decide +kernel
theorem d_jdk_2529_method_9_72 : decode jdk_2529_method_9_code 72 = .ok (.iload 8, 2) := by decide +kernel
theorem d_jdk_2529_method_9_74 : decode jdk_2529_method_9_code 74 = .ok (.iaload, 1) := by decide +kernel
theorem d_jdk_2529_method_9_75 : decode jdk_2529_method_9_code 75 = .ok (.if_icmp .le 89, 3) := by decide +kernel
theorem d_jdk_2529_method_9_164 : decode jdk_2529_method_9_code 164 = .ok (.aload_n 1, 1) := by decide +kernel
theorem d_jdk_2529_method_9_165 : decode jdk_2529_method_9_code 165 = .ok (.iload 8, 2) := by decide +kernel
theorem d_jdk_2529_method_9_167 : decode jdk_2529_method_9_code 167 = .ok (.iaload, 1) := by decide +kernel
theorem d_jdk_2529_method_9_168 : decode jdk_2529_method_9_code 168 = .ok (.istore 9, 2) := by decide +kernel
theorem d_jdk_2529_method_9_170 : decode jdk_2529_method_9_code 170 = .ok (.iinc 8 1, 3) := by decide +kernel
theorem d_jdk_2529_method_9_173 : decode jdk_2529_method_9_code 173 = .ok (.iload 8, 2) := by decide +kernel
theorem d_jdk_2529_method_9_175 : decode jdk_2529_method_9_code 175 = .ok (.iload 5, 2) := by decide +kernel
theorem d_jdk_2529_method_9_177 : decode jdk_2529_method_9_code 177 = .ok (.if_icmp .ge 15, 3) := by decide +kernel
theorem d_jdk_2529_method_9_180 : decode jdk_2529_method_9_code 180 = .ok (.iload 9, 2) := by decide +kernel
theorem d_jdk_2529_method_9_182 : decode jdk_2529_method_9_code 182 = .ok (.aload_n 1, 1) := by decide +kernel
theorem d_jdk_2529_method_9_183 : decode jdk_2529_method_9_code 183 = .ok (.iload 8, 2) := by decide +kernel
theorem d_jdk_2529_method_9_185 : decode jdk_2529_method_9_code 185 = .ok (.iaload, 1) := by decide +kernel
theorem d_jdk_2529_method_9_186 : decode jdk_2529_method_9_code 186 = .ok (.if_icmp .ne 6, 3) := by decide +kernel
theorem d_jdk_2529_method_9_189 : decode jdk_2529_method_9_code 189 = .ok (.goto (-19), 3) := by decide +kernel
theorem d_jdk_2529_method_9_192 : decode jdk_2529_method_9_code 192 = .ok (.iload 8, 2) := by decide +kernel
theorem d_jdk_2529_method_9_194 : decode jdk_2529_method_9_code 194 = .ok (.iload 5, 2) := by decide +kernel
theorem d_jdk_2529_method_9_196 : decode jdk_2529_method_9_code 196 = .ok (.if_icmp .ge 6, 3) := by decide +kernel
theorem d_jdk_2529_method_9_202 : decode jdk_2529_method_9_code 202 = .ok (.aload 4, 2) := by decide +kernel
theorem d_jdk_2529_method_9_204 : decode jdk_2529_method_9_code 204 = .ok (.ifnonnull 46, 3) := by decide +kernel
theorem d_jdk_2529_method_9_207 : decode jdk_2529_method_9_code 207 = .ok (.iload 8, 2) := by decide +kernel
theorem d_jdk_2529_method_9_209 : decode jdk_2529_method_9_code 209 = .ok (.iload 5, 2) := by decide +kernel
theorem d_jdk_2529_method_9_211 : decode jdk_2529_method_9_code 211 = .ok (.if_icmp .ne 5, 3) := by decide +kernel
theorem d_jdk_2529_method_9_214 : decode jdk_2529_method_9_code 214 = .ok (.iconst 1, 1) := by decide +kernel
theorem d_jdk_2529_method_9_215 : decode jdk_2529_method_9_code 215 = .ok (.ireturn, 1) := by decide +kernel
theorem d_jdk_2529_method_9_78 : decode jdk_2529_method_9_code 78 = .ok (.iinc 8 1, 3) := by decide +kernel
theorem d_jdk_2529_method_9_81 : decode jdk_2529_method_9_code 81 = .ok (.iload 8, 2) := by decide +kernel
theorem d_jdk_2529_method_9_83 : decode jdk_2529_method_9_code 83 = .ok (.iload 5, 2) := by decide +kernel
theorem d_jdk_2529_method_9_85 : decode jdk_2529_method_9_code 85 = .ok (.if_icmp .ge 19, 3) := by decide +kernel
theorem d_jdk_2529_method_9_88 : decode jdk_2529_method_9_code 88 = .ok (.aload_n 1, 1) := by decide +kernel
theorem d_jdk_2529_method_9_89 : decode jdk_2529_method_9_code 89 = .ok (.iload 8, 2) := by decide +kernel
theorem d_jdk_2529_method_9_91 : decode jdk_2529_method_9_code 91 = .ok (.iconst 1, 1) := by decide +kernel
theorem d_jdk_2529_method_9_92 : decode jdk_2529_method_9_code 92 = .ok (.isub, 1) := by decide +kernel
theorem d_jdk_2529_method_9_93 : decode jdk_2529_method_9_code 93 = .ok (.iaload, 1) := by decide +kernel
theorem d_jdk_2529_method_9_94 : decode jdk_2529_method_9_code 94 = .ok (.aload_n 1, 1) := by decide +kernel
theorem d_jdk_2529_method_9_95 : decode jdk_2529_method_9_code 95 = .ok (.iload 8, 2) := by decide +kernel
theorem d_jdk_2529_method_9_97 : decode jdk_2529_method_9_code 97 = .ok (.iaload, 1) := by decide +kernel
theorem d_jdk_2529_method_9_98 : decode jdk_2529_method_9_code 98 = .ok (.if_icmp .lt 6, 3) := by decide +kernel
theorem d_jdk_2529_method_9_101 : decode jdk_2529_method_9_code 101 = .ok (.goto (-23), 3) := by decide +kernel
theorem d_jdk_2529_method_9_104 : decode jdk_2529_method_9_code 104 = .ok (.iload 7, 2) := by decide +kernel
theorem d_jdk_2529_method_9_106 : decode jdk_2529_method_9_code 106 = .ok (.iconst 1, 1) := by decide +kernel
theorem d_jdk_2529_method_9_107 : decode jdk_2529_method_9_code 107 = .ok (.isub, 1) := by decide +kernel
theorem d_jdk_2529_method_9_108 : decode jdk_2529_method_9_code 108 = .ok (.istore 9, 2) := by decide +kernel
theorem d_jdk_2529_method_9_110 : decode jdk_2529_method_9_code 110 = .ok (.iload 8, 2) := by decide +kernel
theorem d_jdk_2529_method_9_112 : decode jdk_2529_method_9_code 112 = .ok (.istore 10, 2) := by decide +kernel
theorem d_jdk_2529_method_9_114 : decode jdk_2529_method_9_code 114 = .ok (.iinc 9 1, 3) := by decide +kernel
theorem d_jdk_2529_method_9_117 : decode jdk_2529_method_9_code 117 = .ok (.iload 9, 2) := by decide +kernel
theorem d_jdk_2529_method_9_119 : decode jdk_2529_method_9_code 119 = .ok (.iinc 10 (-1), 3) := by decide +kernel
theorem d_jdk_2529_method_9_122 : decode jdk_2529_method_9_code 122 = .ok (.iload 10, 2) := by decide +kernel
theorem d_jdk_2529_method_9_124 : decode jdk_2529_method_9_code 124 = .ok (.if_icmp .ge 37, 3) := by decide +kernel
theorem d_jdk_2529_method_9_127 : decode jdk_2529_method_9_code 127 = .ok (.aload_n 1, 1) := by decide +kernel
theorem d_jdk_2529_method_9_128 : decode jdk_2529_method_9_code 128 = .ok (.iload 9, 2) := by decide +kernel
theorem d_jdk_2529_method_9_130 : decode jdk_2529_method_9_code 130 = .ok (.iaload, 1) := by decide +kernel
theorem d_jdk_2529_method_9_131 : decode jdk_2529_method_9_code 131 = .ok (.aload_n 1, 1) := by decide +kernel
theorem d_jdk_2529_method_9_132 : decode jdk_2529_method_9_code 132 = .ok (.iload 10, 2) := by decide +kernel
theorem d_jdk_2529_method_9_134 : decode jdk_2529_method_9_code 134 = .ok (.iaload, 1) := by decide +kernel
theorem d_jdk_2529_method_9_135 : decode jdk_2529_method_9_code 135 = .ok (.if_icmp .le 26, 3) := by decide +kernel
theorem d_jdk_2529_method_9_138 : decode jdk_2529_method_9_code 138 = .ok (.aload_n 1, 1) := by decide +kernel
theorem d_jdk_2529_method_9_139 : decode jdk_2529_method_9_code 139 = .ok (.iload 9, 2) := by decide +kernel
theorem d_jdk_2529_method_9_141 : decode jdk_2529_method_9_code 141 = .ok (.iaload, 1) := by decide +kernel
theorem d_jdk_2529_method_9_142 : decode jdk_2529_method_9_code 142 = .ok (.istore 11, 2) := by decide +kernel
theorem d_jdk_2529_method_9_144 : decode jdk_2529_method_9_code 144 = .ok (.aload_n 1, 1) := by decide +kernel
theorem d_jdk_2529_method_9_145 : decode jdk_2529_method_9_code 145 = .ok (.iload 9, 2) := by decide +kernel
theorem d_jdk_2529_method_9_147 : decode jdk_2529_method_9_code 147 = .ok (.aload_n 1, 1) := by decide +kernel
theorem d_jdk_2529_method_9_148 : decode jdk_2529_method_9_code 148 = .ok (.iload 10, 2) := by decide +kernel
theorem d_jdk_2529_method_9_150 : decode jdk_2529_method_9_code 150 = .ok (.iaload, 1) := by decide +kernel
theorem d_jdk_2529_method_9_151 : decode jdk_2529_method_9_code 151 = .ok (.iastore, 1) := by decide +kernel
theorem d_jdk_2529_method_9_152 : decode jdk_2529_method_9_code 152 = .ok (.aload_n 1, 1) := by decide +kernel
theorem d_jdk_2529_method_9_153 : decode jdk_2529_method_9_code 153 = .ok (.iload 10, 2) := by decide +kernel
theorem d_jdk_2529_method_9_155 : decode jdk_2529_method_9_code 155 = .ok (.iload 11, 2) := by decide +kernel
theorem d_jdk_2529_method_9_157 : decode jdk_2529_method_9_code 157 = .ok (.iastore, 1) := by decide +kernel
theorem d_jdk_2529_method_9_158 : decode jdk_2529_method_9_code 158 = .ok (.goto (-44), 3) := by decide +kernel
theorem d_jdk_2529_method_9_161 : decode jdk_2529_method_9_code 161 = .ok (.goto 41, 3) := by decide +kernel
theorem d_jdk_2529_method_9_39 : decode jdk_2529_method_9_code 39 = .ok (.iinc 8 1, 3) := by decide +kernel
theorem d_jdk_2529_method_9_42 : decode jdk_2529_method_9_code 42 = .ok (.iload 8, 2) := by decide +kernel
theorem d_jdk_2529_method_9_44 : decode jdk_2529_method_9_code 44 = .ok (.iload 5, 2) := by decide +kernel
theorem d_jdk_2529_method_9_46 : decode jdk_2529_method_9_code 46 = .ok (.if_icmp .ge 156, 3) := by decide +kernel
theorem d_jdk_2529_method_9_49 : decode jdk_2529_method_9_code 49 = .ok (.aload_n 1, 1) := by decide +kernel
theorem d_jdk_2529_method_9_50 : decode jdk_2529_method_9_code 50 = .ok (.iload 8, 2) := by decide +kernel
theorem d_jdk_2529_method_9_52 : decode jdk_2529_method_9_code 52 = .ok (.iconst 1, 1) := by decide +kernel
theorem d_jdk_2529_method_9_53 : decode jdk_2529_method_9_code 53 = .ok (.isub, 1) := by decide +kernel
theorem d_jdk_2529_method_9_54 : decode jdk_2529_method_9_code 54 = .ok (.iaload, 1) := by decide +kernel
theorem d_jdk_2529_method_9_55 : decode jdk_2529_method_9_code 55 = .ok (.aload_n 1, 1) := by decide +kernel
theorem d_jdk_2529_method_9_56 : decode jdk_2529_method_9_code 56 = .ok (.iload 8, 2) := by decide +kernel
theorem d_jdk_2529_method_9_58 : decode jdk_2529_method_9_code 58 = .ok (.iaload, 1) := by decide +kernel
theorem d_jdk_2529_method_9_59 : decode jdk_2529_method_9_code 59 = .ok (.if_icmp .gt 143, 3) := by decide +kernel
theorem d_jdk_2529_method_9_216 : decode jdk_2529_method_9_code 216 = .ok (.iload 8, 2) := by decide +kernel
theorem d_jdk_2529_method_9_218 : decode jdk_2529_method_9_code 218 = .ok (.iload_n 2, 1) := by decide +kernel
theorem d_jdk_2529_method_9_219 : decode jdk_2529_method_9_code 219 = .ok (.isub, 1) := by decide +kernel
theorem d_jdk_2529_method_9_220 : decode jdk_2529_method_9_code 220 = .ok (.bipush 16, 2) := by decide +kernel
theorem d_jdk_2529_method_9_222 : decode jdk_2529_method_9_code 222 = .ok (.if_icmp .ge 5, 3) := by decide +kernel
theorem d_jdk_2529_method_9_225 : decode jdk_2529_method_9_code 225 = .ok (.iconst 0, 1) := by decide +kernel
theorem d_jdk_2529_method_9_226 : decode jdk_2529_method_9_code 226 = .ok (.ireturn, 1) := by decide +kernel
theorem d_jdk_2529_method_9_227 : decode jdk_2529_method_9_code 227 = .ok (.iload_n 3, 1) := by decide +kernel
theorem d_jdk_2529_method_9_228 : decode jdk_2529_method_9_code 228 = .ok (.bipush 10, 2) := by decide +kernel
theorem d_jdk_2529_method_9_230 : decode jdk_2529_method_9_code 230 = .ok (.ishr, 1) := by decide +kernel
theorem d_jdk_2529_method_9_231 : decode jdk_2529_method_9_code 231 = .ok (.bipush 127, 2) := by decide +kernel
theorem d_jdk_2529_method_9_233 : decode jdk_2529_method_9_code 233 = .ok (.ior, 1) := by decide +kernel
theorem d_jdk_2529_method_9_234 : decode jdk_2529_method_9_code 234 = .ok (.sipush 1023, 3) := by decide +kernel
theorem d_jdk_2529_method_9_237 : decode jdk_2529_method_9_code 237 = .ok (.iand, 1) := by decide +kernel
theorem d_jdk_2529_method_9_238 : decode jdk_2529_method_9_code 238 = .ok (.newarray .int, 2) := by decide +kernel
theorem d_jdk_2529_method_9_240 : decode jdk_2529_method_9_code 240 = .ok (.astore 4, 2) := by decide +kernel
theorem d_jdk_2529_method_9_242 : decode jdk_2529_method_9_code 242 = .ok (.aload 4, 2) := by decide +kernel
theorem d_jdk_2529_method_9_244 : decode jdk_2529_method_9_code 244 = .ok (.iconst 0, 1) := by decide +kernel
theorem d_jdk_2529_method_9_245 : decode jdk_2529_method_9_code 245 = .ok (.iload_n 2, 1) := by decide +kernel
theorem d_jdk_2529_method_9_246 : decode jdk_2529_method_9_code 246 = .ok (.iastore, 1) := by decide +kernel
theorem d_jdk_2529_method_9_247 : decode jdk_2529_method_9_code 247 = .ok (.goto 62, 3) := by decide +kernel
theorem d_jdk_2529_method_9_309 : decode jdk_2529_method_9_code 309 = .ok (.aload 4, 2) := by decide +kernel
theorem d_jdk_2529_method_9_311 : decode jdk_2529_method_9_code 311 = .ok (.iload 6, 2) := by decide +kernel
theorem d_jdk_2529_method_9_313 : decode jdk_2529_method_9_code 313 = .ok (.iload 8, 2) := by decide +kernel
theorem d_jdk_2529_method_9_315 : decode jdk_2529_method_9_code 315 = .ok (.dup, 1) := by decide +kernel
theorem d_jdk_2529_method_9_316 : decode jdk_2529_method_9_code 316 = .ok (.istore 7, 2) := by decide +kernel
theorem d_jdk_2529_method_9_318 : decode jdk_2529_method_9_code 318 = .ok (.iastore, 1) := by decide +kernel
theorem d_jdk_2529_method_9_319 : decode jdk_2529_method_9_code 319 = .ok (.goto (-300), 3) := by decide +kernel
theorem d_jdk_2529_method_9_250 : decode jdk_2529_method_9_code 250 = .ok (.aload_n 1, 1) := by decide +kernel
theorem d_jdk_2529_method_9_251 : decode jdk_2529_method_9_code 251 = .ok (.iload 7, 2) := by decide +kernel
theorem d_jdk_2529_method_9_253 : decode jdk_2529_method_9_code 253 = .ok (.iconst 1, 1) := by decide +kernel
theorem d_jdk_2529_method_9_254 : decode jdk_2529_method_9_code 254 = .ok (.isub, 1) := by decide +kernel
theorem d_jdk_2529_method_9_255 : decode jdk_2529_method_9_code 255 = .ok (.iaload, 1) := by decide +kernel
theorem d_jdk_2529_method_9_256 : decode jdk_2529_method_9_code 256 = .ok (.aload_n 1, 1) := by decide +kernel
theorem d_jdk_2529_method_9_257 : decode jdk_2529_method_9_code 257 = .ok (.iload 7, 2) := by decide +kernel
theorem d_jdk_2529_method_9_259 : decode jdk_2529_method_9_code 259 = .ok (.iaload, 1) := by decide +kernel
theorem d_jdk_2529_method_9_260 : decode jdk_2529_method_9_code 260 = .ok (.if_icmp .le 49, 3) := by decide +kernel
theorem d_jdk_2529_method_9_263 : decode jdk_2529_method_9_code 263 = .ok (.iload 6, 2) := by decide +kernel
theorem d_jdk_2529_method_9_265 : decode jdk_2529_method_9_code 265 = .ok (.iload 8, 2) := by decide +kernel
theorem d_jdk_2529_method_9_267 : decode jdk_2529_method_9_code 267 = .ok (.iload_n 2, 1) := by decide +kernel
theorem d_jdk_2529_method_9_268 : decode jdk_2529_method_9_code 268 = .ok (.isub, 1) := by decide +kernel
theorem d_jdk_2529_method_9_269 : decode jdk_2529_method_9_code 269 = .ok (.bipush 7, 2) := by decide +kernel
theorem d_jdk_2529_method_9_271 : decode jdk_2529_method_9_code 271 = .ok (.ishr, 1) := by decide +kernel
theorem d_jdk_2529_method_9_272 : decode jdk_2529_method_9_code 272 = .ok (.if_icmp .le 5, 3) := by decide +kernel
theorem d_jdk_2529_method_9_275 : decode jdk_2529_method_9_code 275 = .ok (.iconst 0, 1) := by decide +kernel
theorem d_jdk_2529_method_9_276 : decode jdk_2529_method_9_code 276 = .ok (.ireturn, 1) := by decide +kernel
theorem d_jdk_2529_method_9_199 : decode jdk_2529_method_9_code 199 = .ok (.goto (-180), 3) := by decide +kernel
theorem d_jdk_2529_method_9_62 : decode jdk_2529_method_9_code 62 = .ok (.goto (-23), 3) := by decide +kernel
theorem d_jdk_2529_method_9_322 : decode jdk_2529_method_9_code 322 = .ok (.iload 6, 2) := by decide +kernel
theorem d_jdk_2529_method_9_324 : decode jdk_2529_method_9_code 324 = .ok (.iconst 1, 1) := by decide +kernel
theorem d_jdk_2529_method_9_325 : decode jdk_2529_method_9_code 325 = .ok (.if_icmp .le 61, 3) := by decide +kernel
theorem d_jdk_2529_method_9_386 : decode jdk_2529_method_9_code 386 = .ok (.iconst 1, 1) := by decide +kernel
theorem d_jdk_2529_method_9_387 : decode jdk_2529_method_9_code 387 = .ok (.ireturn, 1) := by decide +kernel
theorem d_prog_102_method_9_0 : decode prog_102_method_9_code 0 = .ok (.iload_n 0, 1) := by decide +kernel
theorem d_prog_102_method_9_1 : decode prog_102_method_9_code 1 = .ok (.bipush 63, 2) := by decide +kernel
theorem d_prog_102_method_9_3 : decode prog_102_method_9_code 3 = .ok (.iadd, 1) := by decide +kernel
theorem d_prog_102_method_9_4 : decode prog_102_method_9_code 4 = .ok (.bipush 6, 2) := by decide +kernel
theorem d_prog_102_method_9_6 : decode prog_102_method_9_code 6 = .ok (.iushr, 1) := by decide +kernel
theorem d_prog_102_method_9_7 : decode prog_102_method_9_code 7 = .ok (.ireturn, 1) := by decide +kernel
theorem d_jdk_29_method_69_0 : decode jdk_29_method_69_code 0 = .ok (.iload_n 0, 1) := by decide +kernel
theorem d_jdk_29_method_69_1 : decode jdk_29_method_69_code 1 = .ok (.iload_n 1, 1) := by decide +kernel
theorem d_jdk_29_method_69_2 : decode jdk_29_method_69_code 2 = .ok (.if_icmp .gt 7, 3) := by decide +kernel
theorem d_jdk_29_method_69_9 : decode jdk_29_method_69_code 9 = .ok (.iload_n 1, 1) := by decide +kernel
theorem d_jdk_29_method_69_10 : decode jdk_29_method_69_code 10 = .ok (.ireturn, 1) := by decide +kernel
theorem d_jdk_29_method_65_0 : decode jdk_29_method_65_code 0 = .ok (.iload_n 0, 1) := by decide +kernel
theorem d_jdk_29_method_65_1 : decode jdk_29_method_65_code 1 = .ok (.iload_n 1, 1) := by decide +kernel
theorem d_jdk_29_method_65_2 : decode jdk_29_method_65_code 2 = .ok (.if_icmp .lt 7, 3) := by decide +kernel
theorem d_jdk_29_method_65_9 : decode jdk_29_method_65_code 9 = .ok (.iload_n 1, 1) := by decide +kernel
theorem d_jdk_29_method_65_10 : decode jdk_29_method_65_code 10 = .ok (.ireturn, 1) := by decide +kernel
theorem d_jdk_29_method_65_5 : decode jdk_29_method_65_code 5 = .ok (.iload_n 0, 1) := by decide +kernel
theorem d_jdk_29_method_65_6 : decode jdk_29_method_65_code 6 = .ok (.goto 4, 3) := by decide +kernel
theorem d_jdk_65_method_101_0 : decode jdk_65_method_101_code 0 = .ok (.iconst 0, 1) := by decide +kernel
theorem d_jdk_65_method_101_1 : decode jdk_65_method_101_code 1 = .ok (.istore_n 3, 1) := by decide +kernel
theorem d_jdk_65_method_101_2 : decode jdk_65_method_101_code 2 = .ok (.aload_n 0, 1) := by decide +kernel
theorem d_jdk_65_method_101_3 : decode jdk_65_method_101_code 3 = .ok (.arraylength, 1) := by decide +kernel
theorem d_jdk_65_method_101_4 : decode jdk_65_method_101_code 4 = .ok (.istore 4, 2) := by decide +kernel
theorem d_jdk_65_method_101_6 : decode jdk_65_method_101_code 6 = .ok (.iload_n 3, 1) := by decide +kernel
theorem d_jdk_65_method_101_7 : decode jdk_65_method_101_code 7 = .ok (.iload 4, 2) := by decide +kernel
theorem d_jdk_65_method_101_9 : decode jdk_65_method_101_code 9 = .ok (.if_icmp .ge 13, 3) := by decide +kernel
theorem d_jdk_65_method_101_12 : decode jdk_65_method_101_code 12 = .ok (.aload_n 0, 1) := by decide +kernel
theorem d_jdk_65_method_101_13 : decode jdk_65_method_101_code 13 = .ok (.iload_n 3, 1) := by decide +kernel
theorem d_jdk_65_method_101_14 : decode jdk_65_method_101_code 14 = .ok (.lload_n 1, 1) := by decide +kernel
theorem d_jdk_65_method_101_15 : decode jdk_65_method_101_code 15 = .ok (.lastore, 1) := by decide +kernel
theorem d_jdk_65_method_101_16 : decode jdk_65_method_101_code 16 = .ok (.iinc 3 1, 3) := by decide +kernel
theorem d_jdk_65_method_101_19 : decode jdk_65_method_101_code 19 = .ok (.goto (-13), 3) := by decide +kernel
theorem d_jdk_65_method_101_22 : decode jdk_65_method_101_code 22 = .ok (.return_, 1) := by decide +kernel
theorem d_jdk_65_method_30_0 : decode jdk_65_method_30_code 0 = .ok (.iload_n 1, 1) := by decide +kernel
theorem d_jdk_65_method_30_1 : decode jdk_65_method_30_code 1 = .ok (.iload_n 2, 1) := by decide +kernel
theorem d_jdk_65_method_30_2 : decode jdk_65_method_30_code 2 = .ok (.if_icmp .le 44, 3) := by decide +kernel
theorem d_jdk_65_method_30_46 : decode jdk_65_method_30_code 46 = .ok (.iload_n 1, 1) := by decide +kernel
theorem d_jdk_65_method_30_47 : decode jdk_65_method_30_code 47 = .ok (.ifCond .ge 12, 3) := by decide +kernel
theorem d_jdk_65_method_30_59 : decode jdk_65_method_30_code 59 = .ok (.iload_n 2, 1) := by decide +kernel
theorem d_jdk_65_method_30_60 : decode jdk_65_method_30_code 60 = .ok (.iload_n 0, 1) := by decide +kernel
theorem d_jdk_65_method_30_61 : decode jdk_65_method_30_code 61 = .ok (.if_icmp .le 12, 3) := by decide +kernel
theorem d_jdk_65_method_30_73 : decode jdk_65_method_30_code 73 = .ok (.return_, 1) := by decide +kernel
theorem d_jdk_65_method_59_0 : decode jdk_65_method_59_code 0 = .ok (.iload_n 1, 1) := by decide +kernel
theorem d_jdk_65_method_59_1 : decode jdk_65_method_59_code 1 = .ok (.istore 4, 2) := by decide +kernel
theorem d_jdk_65_method_59_3 : decode jdk_65_method_59_code 3 = .ok (.iload_n 2, 1) := by decide +kernel
theorem d_jdk_65_method_59_4 : decode jdk_65_method_59_code 4 = .ok (.iconst 1, 1) := by decide +kernel
theorem d_jdk_65_method_59_5 : decode jdk_65_method_59_code 5 = .ok (.isub, 1) := by decide +kernel
theorem d_jdk_65_method_59_6 : decode jdk_65_method_59_code 6 = .ok (.istore 5, 2) := by decide +kernel
theorem d_jdk_65_method_59_8 : decode jdk_65_method_59_code 8 = .ok (.iload 4, 2) := by decide +kernel
theorem d_jdk_65_method_59_10 : decode jdk_65_method_59_code 10 = .ok (.iload 5, 2) := by decide +kernel
theorem d_jdk_65_method_59_12 : decode jdk_65_method_59_code 12 = .ok (.if_icmp .gt 54, 3) := by decide +kernel
theorem d_jdk_65_method_59_15 : decode jdk_65_method_59_code 15 = .ok (.iload 4, 2) := by decide +kernel
theorem d_jdk_65_method_59_17 : decode jdk_65_method_59_code 17 = .ok (.iload 5, 2) := by decide +kernel
theorem d_jdk_65_method_59_19 : decode jdk_65_method_59_code 19 = .ok (.iadd, 1) := by decide +kernel
theorem d_jdk_65_method_59_20 : decode jdk_65_method_59_code 20 = .ok (.iconst 1, 1) := by decide +kernel
theorem d_jdk_65_method_59_21 : decode jdk_65_method_59_code 21 = .ok (.iushr, 1) := by decide +kernel
theorem d_jdk_65_method_59_22 : decode jdk_65_method_59_code 22 = .ok (.istore 6, 2) := by decide +kernel
theorem d_jdk_65_method_59_24 : decode jdk_65_method_59_code 24 = .ok (.aload_n 0, 1) := by decide +kernel
theorem d_jdk_65_method_59_25 : decode jdk_65_method_59_code 25 = .ok (.iload 6, 2) := by decide +kernel
theorem d_jdk_65_method_59_27 : decode jdk_65_method_59_code 27 = .ok (.iaload, 1) := by decide +kernel
theorem d_jdk_65_method_59_28 : decode jdk_65_method_59_code 28 = .ok (.istore 7, 2) := by decide +kernel
theorem d_jdk_65_method_59_30 : decode jdk_65_method_59_code 30 = .ok (.iload 7, 2) := by decide +kernel
theorem d_jdk_65_method_59_32 : decode jdk_65_method_59_code 32 = .ok (.iload_n 3, 1) := by decide +kernel
theorem d_jdk_65_method_59_33 : decode jdk_65_method_59_code 33 = .ok (.if_icmp .ge 12, 3) := by decide +kernel
theorem d_jdk_65_method_59_36 : decode jdk_65_method_59_code 36 = .ok (.iload 6, 2) := by decide +kernel
theorem d_jdk_65_method_59_38 : decode jdk_65_method_59_code 38 = .ok (.iconst 1, 1) := by decide +kernel
theorem d_jdk_65_method_59_39 : decode jdk_65_method_59_code 39 = .ok (.iadd, 1) := by decide +kernel
theorem d_jdk_65_method_59_40 : decode jdk_65_method_59_code 40 = .ok (.istore 4, 2) := by decide +kernel
theorem d_jdk_65_method_59_42 : decode jdk_65_method_59_code 42 = .ok (.goto 21, 3) := by decide +kernel
theorem d_jdk_65_method_59_63 : decode jdk_65_method_59_code 63 = .ok (.goto (-55), 3) := by decide +kernel
theorem d_jdk_65_method_59_66 : decode jdk_65_method_59_code 66 = .ok (.iload 4, 2) := by decide +kernel
theorem d_jdk_65_method_59_68 : decode jdk_65_method_59_code 68 = .ok (.iconst 1, 1) := by decide +kernel
theorem d_jdk_65_method_59_69 : decode jdk_65_method_59_code 69 = .ok (.iadd, 1) := by decide +kernel
theorem d_jdk_65_method_59_70 : decode jdk_65_method_59_code 70 = .ok (.ineg, 1) := by decide +kernel
theorem d_jdk_65_method_59_71 : decode jdk_65_method_59_code 71 = .ok (.ireturn, 1) := by decide +kernel
theorem d_jdk_65_method_59_45 : decode jdk_65_method_59_code 45 = .ok (.iload 7, 2) := by decide +kernel
theorem d_jdk_65_method_59_47 : decode jdk_65_method_59_code 47 = .ok (.iload_n 3, 1) := by decide +kernel
theorem d_jdk_65_method_59_48 : decode jdk_65_method_59_code 48 = .ok (.if_icmp .le 12, 3) := by decide +kernel
theorem d_jdk_65_method_59_60 : decode jdk_65_method_59_code 60 = .ok (.iload 6, 2) := by decide +kernel
theorem d_jdk_65_method_59_62 : decode jdk_65_method_59_code 62 = .ok (.ireturn, 1) := by decide +kernel
theorem d_jdk_65_method_59_51 : decode jdk_65_method_59_code 51 = .ok (.iload 6, 2) := by decide +kernel
theorem d_jdk_65_method_59_53 : decode jdk_65_method_59_code 53 = .ok (.iconst 1, 1) := by decide +kernel
theorem d_jdk_65_method_59_54 : decode jdk_65_method_59_code 54 = .ok (.isub, 1) := by decide +kernel
theorem d_jdk_65_method_59_55 : decode jdk_65_method_59_code 55 = .ok (.istore 5, 2) := by decide +kernel
theorem d_jdk_65_method_59_57 : decode jdk_65_method_59_code 57 = .ok (.goto 6, 3) := by decide +kernel
theorem d_jdk_65_method_58_0 : decode jdk_65_method_58_code 0 = .ok (.aload_n 0, 1) := by decide +kernel
theorem d_jdk_65_method_58_1 : decode jdk_65_method_58_code 1 = .ok (.arraylength, 1) := by decide +kernel
theorem d_jdk_65_method_58_2 : decode jdk_65_method_58_code 2 = .ok (.iload_n 1, 1) := by decide +kernel
theorem d_jdk_65_method_58_3 : decode jdk_65_method_58_code 3 = .ok (.iload_n 2, 1) := by decide +kernel
theorem d_jdk_65_method_58_4 : decode jdk_65_method_58_code 4 = .ok (.invokestatic 13, 3) := by decide +kernel
theorem d_jdk_65_method_58_7 : decode jdk_65_method_58_code 7 = .ok (.aload_n 0, 1) := by decide +kernel
theorem d_jdk_65_method_58_8 : decode jdk_65_method_58_code 8 = .ok (.iload_n 1, 1) := by decide +kernel
theorem d_jdk_65_method_58_9 : decode jdk_65_method_58_code 9 = .ok (.iload_n 2, 1) := by decide +kernel
theorem d_jdk_65_method_58_10 : decode jdk_65_method_58_code 10 = .ok (.iload_n 3, 1) := by decide +kernel
theorem d_jdk_65_method_58_11 : decode jdk_65_method_58_code 11 = .ok (.invokestatic 209, 3) := by decide +kernel
theorem d_jdk_65_method_58_14 : decode jdk_65_method_58_code 14 = .ok (.ireturn, 1) := by decide +kernel
theorem d_jdk_65_method_123_0 : decode jdk_65_method_123_code 0 = .ok (.iload_n 1, 1) := by decide +kernel
theorem d_jdk_65_method_123_1 : decode jdk_65_method_123_code 1 = .ok (.aload_n 0, 1) := by decide +kernel
theorem d_jdk_65_method_123_2 : decode jdk_65_method_123_code 2 = .ok (.arraylength, 1) := by decide +kernel
theorem d_jdk_65_method_123_3 : decode jdk_65_method_123_code 3 = .ok (.if_icmp .ne 11, 3) := by decide +kernel
theorem d_jdk_65_method_123_14 : decode jdk_65_method_123_code 14 = .ok (.iload_n 1, 1) := by decide +kernel
theorem d_jdk_65_method_123_15 : decode jdk_65_method_123_code 15 = .ok (.newarray .int, 2) := by decide +kernel
theorem d_jdk_65_method_123_17 : decode jdk_65_method_123_code 17 = .ok (.astore_n 2, 1) := by decide +kernel
theorem d_jdk_65_method_123_18 : decode jdk_65_method_123_code 18 = .ok (.aload_n 0, 1) := by decide +kernel
theorem d_jdk_65_method_123_19 : decode jdk_65_method_123_code 19 = .ok (.iconst 0, 1) := by decide +kernel
theorem d_jdk_65_method_123_20 : decode jdk_65_method_123_code 20 = .ok (.aload_n 2, 1) := by decide +kernel
theorem d_jdk_65_method_123_21 : decode jdk_65_method_123_code 21 = .ok (.iconst 0, 1) := by decide +kernel
theorem d_jdk_65_method_123_22 : decode jdk_65_method_123_code 22 = .ok (.aload_n 0, 1) := by decide +kernel
theorem d_jdk_65_method_123_23 : decode jdk_65_method_123_code 23 = .ok (.arraylength, 1) := by decide +kernel
theorem d_jdk_65_method_123_24 : decode jdk_65_method_123_code 24 = .ok (.iload_n 1, 1) := by decide +kernel
theorem d_jdk_65_method_123_25 : decode jdk_65_method_123_code 25 = .ok (.invokestatic 304, 3) := by decide +kernel
theorem d_jdk_65_method_123_28 : decode jdk_65_method_123_code 28 = .ok (.invokestatic 150, 3) := by decide +kernel
theorem d_jdk_65_method_123_31 : decode jdk_65_method_123_code 31 = .ok (.aload_n 2, 1) := by decide +kernel
theorem d_jdk_65_method_123_32 : decode jdk_65_method_123_code 32 = .ok (.areturn, 1) := by decide +kernel
theorem d_jdk_2529_method_6_0 : decode jdk_2529_method_6_code 0 = .ok (.iload_n 1, 1) := by decide +kernel
theorem d_jdk_2529_method_6_1 : decode jdk_2529_method_6_code 1 = .ok (.istore 4, 2) := by decide +kernel
theorem d_jdk_2529_method_6_3 : decode jdk_2529_method_6_code 3 = .ok (.iinc 4 1, 3) := by decide +kernel
theorem d_jdk_2529_method_6_6 : decode jdk_2529_method_6_code 6 = .ok (.iload 4, 2) := by decide +kernel
theorem d_jdk_2529_method_6_8 : decode jdk_2529_method_6_code 8 = .ok (.iload_n 2, 1) := by decide +kernel
theorem d_jdk_2529_method_6_9 : decode jdk_2529_method_6_code 9 = .ok (.if_icmp .ge 58, 3) := by decide +kernel
theorem d_jdk_2529_method_6_67 : decode jdk_2529_method_6_code 67 = .ok (.return_, 1) := by decide +kernel
theorem d_jdk_2529_method_5_0 : decode jdk_2529_method_5_code 0 = .ok (.iload_n 2, 1) := by decide +kernel
theorem d_jdk_2529_method_5_1 : decode jdk_2529_method_5_code 1 = .ok (.iload_n 3, 1) := by decide +kernel
theorem d_jdk_2529_method_5_2 : decode jdk_2529_method_5_code 2 = .ok (.if_icmp .ne 58, 3) := by decide +kernel
theorem d_jdk_2529_method_5_5 : decode jdk_2529_method_5_code 5 = .ok (.iinc 1 1, 3) := by decide +kernel
theorem d_jdk_2529_method_5_8 : decode jdk_2529_method_5_code 8 = .ok (.iload_n 1, 1) := by decide +kernel
theorem d_jdk_2529_method_5_9 : decode jdk_2529_method_5_code 9 = .ok (.iload_n 2, 1) := by decide +kernel
theorem d_jdk_2529_method_5_10 : decode jdk_2529_method_5_code 10 = .ok (.if_icmp .ge 47, 3) := by decide +kernel
theorem d_jdk_2529_method_5_57 : decode jdk_2529_method_5_code 57 = .ok (.goto 357, 3) := by decide +kernel
theorem d_jdk_2529_method_5_414 : decode jdk_2529_method_5_code 414 = .ok (.return_, 1) := by decide +kernel
theorem d_jdk_2529_method_4_0 : decode jdk_2529_method_4_code 0 = .ok (.iload 4, 2) := by decide +kernel
theorem d_jdk_2529_method_4_2 : decode jdk_2529_method_4_code 2 = .ok (.iconst 1, 1) := by decide +kernel
theorem d_jdk_2529_method_4_3 : decode jdk_2529_method_4_code 3 = .ok (.isub, 1) := by decide +kernel
theorem d_jdk_2529_method_4_4 : decode jdk_2529_method_4_code 4 = .ok (.istore 5, 2) := by decide +kernel
theorem d_jdk_2529_method_4_6 : decode jdk_2529_method_4_code 6 = .ok (.iload 4, 2) := by decide +kernel
theorem d_jdk_2529_method_4_8 : decode jdk_2529_method_4_code 8 = .ok (.iload_n 3, 1) := by decide +kernel
theorem d_jdk_2529_method_4_9 : decode jdk_2529_method_4_code 9 = .ok (.isub, 1) := by decide +kernel
theorem d_jdk_2529_method_4_10 : decode jdk_2529_method_4_code 10 = .ok (.istore 6, 2) := by decide +kernel
theorem d_jdk_2529_method_4_12 : decode jdk_2529_method_4_code 12 = .ok (.iload 6, 2) := by decide +kernel
theorem d_jdk_2529_method_4_14 : decode jdk_2529_method_4_code 14 = .ok (.bipush 65, 2) := by decide +kernel
theorem d_jdk_2529_method_4_16 : decode jdk_2529_method_4_code 16 = .ok (.iload_n 2, 1) := by decide +kernel
theorem d_jdk_2529_method_4_17 : decode jdk_2529_method_4_code 17 = .ok (.iadd, 1) := by decide +kernel
theorem d_jdk_2529_method_4_18 : decode jdk_2529_method_4_code 18 = .ok (.if_icmp .ge 28, 3) := by decide +kernel
theorem d_jdk_2529_method_4_21 : decode jdk_2529_method_4_code 21 = .ok (.iload_n 2, 1) := by decide +kernel
theorem d_jdk_2529_method_4_22 : decode jdk_2529_method_4_code 22 = .ok (.iconst 1, 1) := by decide +kernel
theorem d_jdk_2529_method_4_23 : decode jdk_2529_method_4_code 23 = .ok (.iand, 1) := by decide +kernel
theorem d_jdk_2529_method_4_24 : decode jdk_2529_method_4_code 24 = .ok (.ifCond .le 22, 3) := by decide +kernel
theorem d_jdk_2529_method_4_27 : decode jdk_2529_method_4_code 27 = .ok (.aload_n 1, 1) := by decide +kernel
theorem d_jdk_2529_method_4_28 : decode jdk_2529_method_4_code 28 = .ok (.iload_n 3, 1) := by decide +kernel
theorem d_jdk_2529_method_4_29 : decode jdk_2529_method_4_code 29 = .ok (.iload 4, 2) := by decide +kernel
theorem d_jdk_2529_method_4_31 : decode jdk_2529_method_4_code 31 = .ok (.iconst 3, 1) := by decide +kernel
theorem d_jdk_2529_method_4_32 : decode jdk_2529_method_4_code 32 = .ok (.iload 6, 2) := by decide +kernel
theorem d_jdk_2529_method_4_34 : decode jdk_2529_method_4_code 34 = .ok (.iconst 5, 1) := by decide +kernel
theorem d_jdk_2529_method_4_35 : decode jdk_2529_method_4_code 35 = .ok (.ishr, 1) := by decide +kernel
theorem d_jdk_2529_method_4_36 : decode jdk_2529_method_4_code 36 = .ok (.iconst 3, 1) := by decide +kernel
theorem d_jdk_2529_method_4_37 : decode jdk_2529_method_4_code 37 = .ok (.ishl, 1) := by decide +kernel
theorem d_jdk_2529_method_4_38 : decode jdk_2529_method_4_code 38 = .ok (.imul, 1) := by decide +kernel
theorem d_jdk_2529_method_4_39 : decode jdk_2529_method_4_code 39 = .ok (.isub, 1) := by decide +kernel
theorem d_jdk_2529_method_4_40 : decode jdk_2529_method_4_code 40 = .ok (.iload 4, 2) := by decide +kernel
theorem d_jdk_2529_method_4_42 : decode jdk_2529_method_4_code 42 = .ok (.invokestatic 30, 3) := by decide +kernel
theorem d_jdk_2529_method_4_45 : decode jdk_2529_method_4_code 45 = .ok (.return_, 1) := by decide +kernel
theorem d_jdk_2529_method_4_46 : decode jdk_2529_method_4_code 46 = .ok (.iload 6, 2) := by decide +kernel
theorem d_jdk_2529_method_4_48 : decode jdk_2529_method_4_code 48 = .ok (.bipush 44, 2) := by decide +kernel
theorem d_jdk_2529_method_4_50 : decode jdk_2529_method_4_code 50 = .ok (.if_icmp .ge 11, 3) := by decide +kernel
theorem d_jdk_2529_method_4_61 : decode jdk_2529_method_4_code 61 = .ok (.iload_n 2, 1) := by decide +kernel
theorem d_jdk_2529_method_4_62 : decode jdk_2529_method_4_code 62 = .ok (.ifCond .eq 17, 3) := by decide +kernel
theorem d_jdk_2529_method_4_79 : decode jdk_2529_method_4_code 79 = .ok (.aload_n 0, 1) := by decide +kernel
theorem d_jdk_2529_method_4_80 : decode jdk_2529_method_4_code 80 = .ok (.aload_n 1, 1) := by decide +kernel
theorem d_jdk_2529_method_4_81 : decode jdk_2529_method_4_code 81 = .ok (.iload_n 3, 1) := by decide +kernel
theorem d_jdk_2529_method_4_82 : decode jdk_2529_method_4_code 82 = .ok (.iload 6, 2) := by decide +kernel
theorem d_jdk_2529_method_4_84 : decode jdk_2529_method_4_code 84 = .ok (.invokestatic 38, 3) := by decide +kernel
theorem d_jdk_2529_method_4_87 : decode jdk_2529_method_4_code 87 = .ok (.ifCond .eq 4, 3) := by decide +kernel
theorem d_jdk_2529_method_4_90 : decode jdk_2529_method_4_code 90 = .ok (.return_, 1) := by decide +kernel
theorem d_jdk_2529_method_4_91 : decode jdk_2529_method_4_code 91 = .ok (.iinc 2 6, 3) := by decide +kernel
theorem d_jdk_2529_method_4_94 : decode jdk_2529_method_4_code 94 = .ok (.iload_n 2, 1) := by decide +kernel
theorem d_jdk_2529_method_4_95 : decode jdk_2529_method_4_code 95 = .ok (.sipush 384, 3) := by decide +kernel
theorem d_jdk_2529_method_4_98 : decode jdk_2529_method_4_code 98 = .ok (.if_icmp .le 11, 3) := by decide +kernel
theorem d_jdk_2529_method_4_109 : decode jdk_2529_method_4_code 109 = .ok (.iload 6, 2) := by decide +kernel
theorem d_jdk_2529_method_4_111 : decode jdk_2529_method_4_code 111 = .ok (.iconst 3, 1) := by decide +kernel
theorem d_jdk_2529_method_4_112 : decode jdk_2529_method_4_code 112 = .ok (.ishr, 1) := by decide +kernel
theorem d_jdk_2529_method_4_113 : decode jdk_2529_method_4_code 113 = .ok (.iconst 3, 1) := by decide +kernel
theorem d_jdk_2529_method_4_114 : decode jdk_2529_method_4_code 114 = .ok (.imul, 1) := by decide +kernel
theorem d_jdk_2529_method_4_115 : decode jdk_2529_method_4_code 115 = .ok (.iconst 3, 1) := by decide +kernel
theorem d_jdk_2529_method_4_116 : decode jdk_2529_method_4_code 116 = .ok (.iadd, 1) := by decide +kernel
theorem d_jdk_2529_method_4_117 : decode jdk_2529_method_4_code 117 = .ok (.istore 7, 2) := by decide +kernel
theorem d_jdk_2529_method_4_119 : decode jdk_2529_method_4_code 119 = .ok (.iload_n 3, 1) := by decide +kernel
theorem d_jdk_2529_method_4_120 : decode jdk_2529_method_4_code 120 = .ok (.iload 7, 2) := by decide +kernel
theorem d_jdk_2529_method_4_122 : decode jdk_2529_method_4_code 122 = .ok (.iadd, 1) := by decide +kernel
theorem d_jdk_2529_method_4_123 : decode jdk_2529_method_4_code 123 = .ok (.istore 8, 2) := by decide +kernel
theorem d_jdk_2529_method_4_125 : decode jdk_2529_method_4_code 125 = .ok (.iload 5, 2) := by decide +kernel
theorem d_jdk_2529_method_4_127 : decode jdk_2529_method_4_code 127 = .ok (.iload 7, 2) := by decide +kernel
theorem d_jdk_2529_method_4_129 : decode jdk_2529_method_4_code 129 = .ok (.isub, 1) := by decide +kernel
theorem d_jdk_2529_method_4_130 : decode jdk_2529_method_4_code 130 = .ok (.istore 9, 2) := by decide +kernel
theorem d_jdk_2529_method_4_132 : decode jdk_2529_method_4_code 132 = .ok (.iload 8, 2) := by decide +kernel
theorem d_jdk_2529_method_4_134 : decode jdk_2529_method_4_code 134 = .ok (.iload 9, 2) := by decide +kernel
theorem d_jdk_2529_method_4_136 : decode jdk_2529_method_4_code 136 = .ok (.iadd, 1) := by decide +kernel
theorem d_jdk_2529_method_4_137 : decode jdk_2529_method_4_code 137 = .ok (.iconst 1, 1) := by decide +kernel
theorem d_jdk_2529_method_4_138 : decode jdk_2529_method_4_code 138 = .ok (.iushr, 1) := by decide +kernel
theorem d_jdk_2529_method_4_139 : decode jdk_2529_method_4_code 139 = .ok (.istore 10, 2) := by decide +kernel
theorem d_jdk_2529_method_4_141 : decode jdk_2529_method_4_code 141 = .ok (.iload 8, 2) := by decide +kernel
theorem d_jdk_2529_method_4_143 : decode jdk_2529_method_4_code 143 = .ok (.iload 10, 2) := by decide +kernel
theorem d_jdk_2529_method_4_145 : decode jdk_2529_method_4_code 145 = .ok (.iadd, 1) := by decide +kernel
theorem d_jdk_2529_method_4_146 : decode jdk_2529_method_4_code 146 = .ok (.iconst 1, 1) := by decide +kernel
theorem d_jdk_2529_method_4_147 : decode jdk_2529_method_4_code 147 = .ok (.iushr, 1) := by decide +kernel
theorem d_jdk_2529_method_4_148 : decode jdk_2529_method_4_code 148 = .ok (.istore 11, 2) := by decide +kernel
theorem d_jdk_2529_method_4_150 : decode jdk_2529_method_4_code 150 = .ok (.iload 10, 2) := by decide +kernel
theorem d_jdk_2529_method_4_152 : decode jdk_2529_method_4_code 152 = .ok (.iload 9, 2) := by decide +kernel
theorem d_jdk_2529_method_4_154 : decode jdk_2529_method_4_code 154 = .ok (.iadd, 1) := by decide +kernel
theorem d_jdk_2529_method_4_155 : decode jdk_2529_method_4_code 155 = .ok (.iconst 1, 1) := by decide +kernel
theorem d_jdk_2529_method_4_156 : decode jdk_2529_method_4_code 156 = .ok (.iushr, 1) := by decide +kernel
theorem d_jdk_2529_method_4_157 : decode jdk_2529_method_4_code 157 = .ok (.istore 12, 2) := by decide +kernel
theorem d_jdk_2529_method_4_159 : decode jdk_2529_method_4_code 159 = .ok (.aload_n 1, 1) := by decide +kernel
theorem d_jdk_2529_method_4_160 : decode jdk_2529_method_4_code 160 = .ok (.iload 10, 2) := by decide +kernel
theorem d_jdk_2529_method_4_162 : decode jdk_2529_method_4_code 162 = .ok (.iaload, 1) := by decide +kernel
theorem d_jdk_2529_method_4_437 : decode jdk_2529_method_4_code 437 = .ok (.iload_n 3, 1) := by decide +kernel
theorem d_jdk_2529_method_4_438 : decode jdk_2529_method_4_code 438 = .ok (.istore 14, 2) := by decide +kernel
theorem d_jdk_2529_method_4_440 : decode jdk_2529_method_4_code 440 = .ok (.iload 5, 2) := by decide +kernel
theorem d_jdk_2529_method_4_442 : decode jdk_2529_method_4_code 442 = .ok (.istore 15, 2) := by decide +kernel
theorem d_jdk_2529_method_4_444 : decode jdk_2529_method_4_code 444 = .ok (.aload_n 1, 1) := by decide +kernel
theorem d_jdk_2529_method_4_445 : decode jdk_2529_method_4_code 445 = .ok (.iload 8, 2) := by decide +kernel
theorem d_jdk_2529_method_4_447 : decode jdk_2529_method_4_code 447 = .ok (.iaload, 1) := by decide +kernel
theorem d_jdk_2529_method_4_448 : decode jdk_2529_method_4_code 448 = .ok (.aload_n 1, 1) := by decide +kernel
theorem d_jdk_2529_method_4_449 : decode jdk_2529_method_4_code 449 = .ok (.iload 11, 2) := by decide +kernel
theorem d_jdk_2529_method_4_451 : decode jdk_2529_method_4_code 451 = .ok (.iaload, 1) := by decide +kernel
theorem d_jdk_2529_method_4_452 : decode jdk_2529_method_4_code 452 = .ok (.if_icmp .ge 324, 3) := by decide +kernel
theorem d_jdk_2529_method_4_776 : decode jdk_2529_method_4_code 776 = .ok (.aload_n 1, 1) := by decide +kernel
theorem d_jdk_2529_method_4_777 : decode jdk_2529_method_4_code 777 = .ok (.iload 10, 2) := by decide +kernel
theorem d_jdk_2529_method_4_779 : decode jdk_2529_method_4_code 779 = .ok (.iaload, 1) := by decide +kernel
theorem d_jdk_2529_method_4_780 : decode jdk_2529_method_4_code 780 = .ok (.istore 16, 2) := by decide +kernel
theorem d_jdk_2529_method_4_782 : decode jdk_2529_method_4_code 782 = .ok (.aload_n 1, 1) := by decide +kernel
theorem d_jdk_2529_method_4_783 : decode jdk_2529_method_4_code 783 = .ok (.iload 10, 2) := by decide +kernel
theorem d_jdk_2529_method_4_785 : decode jdk_2529_method_4_code 785 = .ok (.aload_n 1, 1) := by decide +kernel
theorem d_jdk_2529_method_4_786 : decode jdk_2529_method_4_code 786 = .ok (.iload 14, 2) := by decide +kernel
theorem d_jdk_2529_method_4_788 : decode jdk_2529_method_4_code 788 = .ok (.iaload, 1) := by decide +kernel
theorem d_jdk_2529_method_4_789 : decode jdk_2529_method_4_code 789 = .ok (.iastore, 1) := by decide +kernel
theorem d_jdk_2529_method_4_790 : decode jdk_2529_method_4_code 790 = .ok (.iinc 15 1, 3) := by decide +kernel
theorem d_jdk_2529_method_4_793 : decode jdk_2529_method_4_code 793 = .ok (.iload 15, 2) := by decide +kernel
theorem d_jdk_2529_method_4_795 : decode jdk_2529_method_4_code 795 = .ok (.istore 17, 2) := by decide +kernel
theorem d_jdk_2529_method_4_797 : decode jdk_2529_method_4_code 797 = .ok (.iinc 17 (-1), 3) := by decide +kernel
theorem d_jdk_2529_method_4_800 : decode jdk_2529_method_4_code 800 = .ok (.iload 17, 2) := by decide +kernel
theorem d_jdk_2529_method_4_802 : decode jdk_2529_method_4_code 802 = .ok (.iload 14, 2) := by decide +kernel
theorem d_jdk_2529_method_4_804 : decode jdk_2529_method_4_code 804 = .ok (.if_icmp .le 85, 3) := by decide +kernel
theorem d_jdk_2529_method_4_807 : decode jdk_2529_method_4_code 807 = .ok (.aload_n 1, 1) := by decide +kernel
theorem d_jdk_2529_method_4_808 : decode jdk_2529_method_4_code 808 = .ok (.iload 17, 2) := by decide +kernel
theorem d_jdk_2529_method_4_810 : decode jdk_2529_method_4_code 810 = .ok (.iaload, 1) := by decide +kernel
theorem d_jdk_2529_method_4_811 : decode jdk_2529_method_4_code 811 = .ok (.istore 18, 2) := by decide +kernel
theorem d_jdk_2529_method_4_813 : decode jdk_2529_method_4_code 813 = .ok (.iload 18, 2) := by decide +kernel
theorem d_jdk_2529_method_4_815 : decode jdk_2529_method_4_code 815 = .ok (.iload 16, 2) := by decide +kernel
theorem d_jdk_2529_method_4_817 : decode jdk_2529_method_4_code 817 = .ok (.if_icmp .eq 69, 3) := by decide +kernel
theorem d_jdk_2529_method_4_886 : decode jdk_2529_method_4_code 886 = .ok (.goto (-89), 3) := by decide +kernel
theorem d_jdk_2529_method_4_820 : decode jdk_2529_method_4_code 820 = .ok (.aload_n 1, 1) := by decide +kernel
theorem d_jdk_2529_method_4_821 : decode jdk_2529_method_4_code 821 = .ok (.iload 17, 2) := by decide +kernel
theorem d_jdk_2529_method_4_823 : decode jdk_2529_method_4_code 823 = .ok (.iload 16, 2) := by decide +kernel
theorem d_jdk_2529_method_4_825 : decode jdk_2529_method_4_code 825 = .ok (.iastore, 1) := by decide +kernel
theorem d_jdk_2529_method_4_826 : decode jdk_2529_method_4_code 826 = .ok (.iload 18, 2) := by decide +kernel
theorem d_jdk_2529_method_4_828 : decode jdk_2529_method_4_code 828 = .ok (.iload 16, 2) := by decide +kernel
theorem d_jdk_2529_method_4_830 : decode jdk_2529_method_4_code 830 = .ok (.if_icmp .ge 47, 3) := by decide +kernel
theorem d_jdk_2529_method_4_877 : decode jdk_2529_method_4_code 877 = .ok (.aload_n 1, 1) := by decide +kernel
theorem d_jdk_2529_method_4_878 : decode jdk_2529_method_4_code 878 = .ok (.iinc 15 (-1), 3) := by decide +kernel
theorem d_jdk_2529_method_4_881 : decode jdk_2529_method_4_code 881 = .ok (.iload 15, 2) := by decide +kernel
theorem d_jdk_2529_method_4_883 : decode jdk_2529_method_4_code 883 = .ok (.iload 18, 2) := by decide +kernel
theorem d_jdk_2529_method_4_885 : decode jdk_2529_method_4_code 885 = .ok (.iastore, 1) := by decide +kernel
theorem d_jdk_2529_method_4_889 : decode jdk_2529_method_4_code 889 = .ok (.aload_n 1, 1) := by decide +kernel
theorem d_jdk_2529_method_4_890 : decode jdk_2529_method_4_code 890 = .ok (.iload_n 3, 1) := by decide +kernel
theorem d_jdk_2529_method_4_891 : decode jdk_2529_method_4_code 891 = .ok (.aload_n 1, 1) := by decide +kernel
theorem d_jdk_2529_method_4_892 : decode jdk_2529_method_4_code 892 = .ok (.iload 14, 2) := by decide +kernel
theorem d_jdk_2529_method_4_894 : decode jdk_2529_method_4_code 894 = .ok (.iaload, 1) := by decide +kernel
theorem d_jdk_2529_method_4_895 : decode jdk_2529_method_4_code 895 = .ok (.iastore, 1) := by decide +kernel
theorem d_jdk_2529_method_4_896 : decode jdk_2529_method_4_code 896 = .ok (.aload_n 1, 1) := by decide +kernel
theorem d_jdk_2529_method_4_897 : decode jdk_2529_method_4_code 897 = .ok (.iload 14, 2) := by decide +kernel
theorem d_jdk_2529_method_4_899 : decode jdk_2529_method_4_code 899 = .ok (.iload 16, 2) := by decide +kernel
theorem d_jdk_2529_method_4_901 : decode jdk_2529_method_4_code 901 = .ok (.iastore, 1) := by decide +kernel
theorem d_jdk_2529_method_4_902 : decode jdk_2529_method_4_code 902 = .ok (.iload 6, 2) := by decide +kernel
theorem d_jdk_2529_method_4_904 : decode jdk_2529_method_4_code 904 = .ok (.sipush 4096, 3) := by decide +kernel
theorem d_jdk_2529_method_4_907 : decode jdk_2529_method_4_code 907 = .ok (.if_icmp .le 21, 3) := by decide +kernel
theorem d_jdk_2529_method_4_928 : decode jdk_2529_method_4_code 928 = .ok (.aload_n 0, 1) := by decide +kernel
theorem d_jdk_2529_method_4_929 : decode jdk_2529_method_4_code 929 = .ok (.aload_n 1, 1) := by decide +kernel
theorem d_jdk_2529_method_4_930 : decode jdk_2529_method_4_code 930 = .ok (.iload_n 2, 1) := by decide +kernel
theorem d_jdk_2529_method_4_931 : decode jdk_2529_method_4_code 931 = .ok (.iconst 1, 1) := by decide +kernel
theorem d_jdk_2529_method_4_932 : decode jdk_2529_method_4_code 932 = .ok (.ior, 1) := by decide +kernel
theorem d_jdk_2529_method_4_933 : decode jdk_2529_method_4_code 933 = .ok (.iload 15, 2) := by decide +kernel
theorem d_jdk_2529_method_4_935 : decode jdk_2529_method_4_code 935 = .ok (.iload 4, 2) := by decide +kernel
theorem d_jdk_2529_method_4_937 : decode jdk_2529_method_4_code 937 = .ok (.invokestatic 26, 3) := by decide +kernel
theorem d_jdk_2529_method_4_940 : decode jdk_2529_method_4_code 940 = .ok (.iload 14, 2) := by decide +kernel
theorem d_jdk_2529_method_4_942 : decode jdk_2529_method_4_code 942 = .ok (.istore 4, 2) := by decide +kernel
theorem d_jdk_2529_method_4_944 : decode jdk_2529_method_4_code 944 = .ok (.goto (-944), 3) := by decide +kernel
theorem d_jdk_2529_method_4_53 : decode jdk_2529_method_4_code 53 = .ok (.aload_n 1, 1) := by decide +kernel
theorem d_jdk_2529_method_4_54 : decode jdk_2529_method_4_code 54 = .ok (.iload_n 3, 1) := by decide +kernel
theorem d_jdk_2529_method_4_55 : decode jdk_2529_method_4_code 55 = .ok (.iload 4, 2) := by decide +kernel
theorem d_jdk_2529_method_4_57 : decode jdk_2529_method_4_code 57 = .ok (.invokestatic 34, 3) := by decide +kernel
theorem d_jdk_2529_method_4_60 : decode jdk_2529_method_4_code 60 = .ok (.return_, 1) := by decide +kernel
theorem d_jdk_2529_method_4_163 : decode jdk_2529_method_4_code 163 = .ok (.istore 13, 2) := by decide +kernel
theorem d_jdk_2529_method_4_165 : decode jdk_2529_method_4_code 165 = .ok (.aload_n 1, 1) := by decide +kernel
theorem d_jdk_2529_method_4_166 : decode jdk_2529_method_4_code 166 = .ok (.iload 9, 2) := by decide +kernel
theorem d_jdk_2529_method_4_168 : decode jdk_2529_method_4_code 168 = .ok (.iaload, 1) := by decide +kernel
theorem d_jdk_2529_method_4_169 : decode jdk_2529_method_4_code 169 = .ok (.aload_n 1, 1) := by decide +kernel
theorem d_jdk_2529_method_4_170 : decode jdk_2529_method_4_code 170 = .ok (.iload 11, 2) := by decide +kernel
theorem d_jdk_2529_method_4_172 : decode jdk_2529_method_4_code 172 = .ok (.iaload, 1) := by decide +kernel
theorem d_jdk_2529_method_4_173 : decode jdk_2529_method_4_code 173 = .ok (.if_icmp .ge 23, 3) := by decide +kernel
theorem d_jdk_2529_method_4_196 : decode jdk_2529_method_4_code 196 = .ok (.aload_n 1, 1) := by decide +kernel
theorem d_jdk_2529_method_4_197 : decode jdk_2529_method_4_code 197 = .ok (.iload 12, 2) := by decide +kernel
theorem d_jdk_2529_method_4_199 : decode jdk_2529_method_4_code 199 = .ok (.iaload, 1) := by decide +kernel
theorem d_jdk_2529_method_4_200 : decode jdk_2529_method_4_code 200 = .ok (.aload_n 1, 1) := by decide +kernel
theorem d_jdk_2529_method_4_201 : decode jdk_2529_method_4_code 201 = .ok (.iload 8, 2) := by decide +kernel
theorem d_jdk_2529_method_4_203 : decode jdk_2529_method_4_code 203 = .ok (.iaload, 1) := by decide +kernel
theorem d_jdk_2529_method_4_204 : decode jdk_2529_method_4_code 204 = .ok (.if_icmp .ge 23, 3) := by decide +kernel
theorem d_jdk_2529_method_4_207 : decode jdk_2529_method_4_code 207 = .ok (.aload_n 1, 1) := by decide +kernel
theorem d_jdk_2529_method_4_208 : decode jdk_2529_method_4_code 208 = .ok (.iload 12, 2) := by decide +kernel
theorem d_jdk_2529_method_4_210 : decode jdk_2529_method_4_code 210 = .ok (.iaload, 1) := by decide +kernel
theorem d_jdk_2529_method_4_211 : decode jdk_2529_method_4_code 211 = .ok (.istore 14, 2) := by decide +kernel
theorem d_jdk_2529_method_4_213 : decode jdk_2529_method_4_code 213 = .ok (.aload_n 1, 1) := by decide +kernel
theorem d_jdk_2529_method_4_214 : decode jdk_2529_method_4_code 214 = .ok (.iload 12, 2) := by decide +kernel
theorem d_jdk_2529_method_4_216 : decode jdk_2529_method_4_code 216 = .ok (.aload_n 1, 1) := by decide +kernel
theorem d_jdk_2529_method_4_217 : decode jdk_2529_method_4_code 217 = .ok (.iload 8, 2) := by decide +kernel
theorem d_jdk_2529_method_4_219 : decode jdk_2529_method_4_code 219 = .ok (.iaload, 1) := by decide +kernel
theorem d_jdk_2529_method_4_220 : decode jdk_2529_method_4_code 220 = .ok (.iastore, 1) := by decide +kernel
theorem d_jdk_2529_method_4_221 : decode jdk_2529_method_4_code 221 = .ok (.aload_n 1, 1) := by decide +kernel
theorem d_jdk_2529_method_4_222 : decode jdk_2529_method_4_code 222 = .ok (.iload 8, 2) := by decide +kernel
theorem d_jdk_2529_method_4_224 : decode jdk_2529_method_4_code 224 = .ok (.iload 14, 2) := by decide +kernel
theorem d_jdk_2529_method_4_226 : decode jdk_2529_method_4_code 226 = .ok (.iastore, 1) := by decide +kernel
theorem d_jdk_2529_method_4_227 : decode jdk_2529_method_4_code 227 = .ok (.aload_n 1, 1) := by decide +kernel
theorem d_jdk_2529_method_4_228 : decode jdk_2529_method_4_code 228 = .ok (.iload 9, 2) := by decide +kernel
theorem d_jdk_2529_method_4_230 : decode jdk_2529_method_4_code 230 = .ok (.iaload, 1) := by decide +kernel
theorem d_jdk_2529_method_4_231 : decode jdk_2529_method_4_code 231 = .ok (.aload_n 1, 1) := by decide +kernel
theorem d_jdk_2529_method_4_232 : decode jdk_2529_method_4_code 232 = .ok (.iload 12, 2) := by decide +kernel
theorem d_jdk_2529_method_4_234 : decode jdk_2529_method_4_code 234 = .ok (.iaload, 1) := by decide +kernel
theorem d_jdk_2529_method_4_235 : decode jdk_2529_method_4_code 235 = .ok (.if_icmp .ge 23, 3) := by decide +kernel
theorem d_jdk_2529_method_4_238 : decode jdk_2529_method_4_code 238 = .ok (.aload_n 1, 1) := by decide +kernel
theorem d_jdk_2529_method_4_239 : decode jdk_2529_method_4_code 239 = .ok (.iload 9, 2) := by decide +kernel
theorem d_jdk_2529_method_4_241 : decode jdk_2529_method_4_code 241 = .ok (.iaload, 1) := by decide +kernel
theorem d_jdk_2529_method_4_242 : decode jdk_2529_method_4_code 242 = .ok (.istore 14, 2) := by decide +kernel
theorem d_jdk_2529_method_4_244 : decode jdk_2529_method_4_code 244 = .ok (.aload_n 1, 1) := by decide +kernel
theorem d_jdk_2529_method_4_245 : decode jdk_2529_method_4_code 245 = .ok (.iload 9, 2) := by decide +kernel
theorem d_jdk_2529_method_4_247 : decode jdk_2529_method_4_code 247 = .ok (.aload_n 1, 1) := by decide +kernel
theorem d_jdk_2529_method_4_248 : decode jdk_2529_method_4_code 248 = .ok (.iload 12, 2) := by decide +kernel
theorem d_jdk_2529_method_4_250 : decode jdk_2529_method_4_code 250 = .ok (.iaload, 1) := by decide +kernel
theorem d_jdk_2529_method_4_251 : decode jdk_2529_method_4_code 251 = .ok (.iastore, 1) := by decide +kernel
theorem d_jdk_2529_method_4_252 : decode jdk_2529_method_4_code 252 = .ok (.aload_n 1, 1) := by decide +kernel
theorem d_jdk_2529_method_4_253 : decode jdk_2529_method_4_code 253 = .ok (.iload 12, 2) := by decide +kernel
theorem d_jdk_2529_method_4_255 : decode jdk_2529_method_4_code 255 = .ok (.iload 14, 2) := by decide +kernel
theorem d_jdk_2529_method_4_257 : decode jdk_2529_method_4_code 257 = .ok (.iastore, 1) := by decide +kernel
theorem d_jdk_2529_method_4_258 : decode jdk_2529_method_4_code 258 = .ok (.aload_n 1, 1) := by decide +kernel
theorem d_jdk_2529_method_4_259 : decode jdk_2529_method_4_code 259 = .ok (.iload 11, 2) := by decide +kernel
theorem d_jdk_2529_method_4_261 : decode jdk_2529_method_4_code 261 = .ok (.iaload, 1) := by decide +kernel
theorem d_jdk_2529_method_4_262 : decode jdk_2529_method_4_code 262 = .ok (.aload_n 1, 1) := by decide +kernel
theorem d_jdk_2529_method_4_263 : decode jdk_2529_method_4_code 263 = .ok (.iload 8, 2) := by decide +kernel
theorem d_jdk_2529_method_4_265 : decode jdk_2529_method_4_code 265 = .ok (.iaload, 1) := by decide +kernel
theorem d_jdk_2529_method_4_266 : decode jdk_2529_method_4_code 266 = .ok (.if_icmp .ge 23, 3) := by decide +kernel
theorem d_jdk_2529_method_4_289 : decode jdk_2529_method_4_code 289 = .ok (.aload_n 1, 1) := by decide +kernel
theorem d_jdk_2529_method_4_290 : decode jdk_2529_method_4_code 290 = .ok (.iload 12, 2) := by decide +kernel
theorem d_jdk_2529_method_4_292 : decode jdk_2529_method_4_code 292 = .ok (.iaload, 1) := by decide +kernel
theorem d_jdk_2529_method_4_293 : decode jdk_2529_method_4_code 293 = .ok (.aload_n 1, 1) := by decide +kernel
theorem d_jdk_2529_method_4_294 : decode jdk_2529_method_4_code 294 = .ok (.iload 11, 2) := by decide +kernel
theorem d_jdk_2529_method_4_296 : decode jdk_2529_method_4_code 296 = .ok (.iaload, 1) := by decide +kernel
theorem d_jdk_2529_method_4_297 : decode jdk_2529_method_4_code 297 = .ok (.if_icmp .ge 23, 3) := by decide +kernel
theorem d_jdk_2529_method_4_320 : decode jdk_2529_method_4_code 320 = .ok (.iload 13, 2) := by decide +kernel
theorem d_jdk_2529_method_4_322 : decode jdk_2529_method_4_code 322 = .ok (.aload_n 1, 1) := by decide +kernel
theorem d_jdk_2529_method_4_323 : decode jdk_2529_method_4_code 323 = .ok (.iload 11, 2) := by decide +kernel
theorem d_jdk_2529_method_4_325 : decode jdk_2529_method_4_code 325 = .ok (.iaload, 1) := by decide +kernel
theorem d_jdk_2529_method_4_326 : decode jdk_2529_method_4_code 326 = .ok (.if_icmp .ge 54, 3) := by decide +kernel
theorem d_jdk_2529_method_4_380 : decode jdk_2529_method_4_code 380 = .ok (.iload 13, 2) := by decide +kernel
theorem d_jdk_2529_method_4_382 : decode jdk_2529_method_4_code 382 = .ok (.aload_n 1, 1) := by decide +kernel
theorem d_jdk_2529_method_4_383 : decode jdk_2529_method_4_code 383 = .ok (.iload 12, 2) := by decide +kernel
theorem d_jdk_2529_method_4_385 : decode jdk_2529_method_4_code 385 = .ok (.iaload, 1) := by decide +kernel
theorem d_jdk_2529_method_4_386 : decode jdk_2529_method_4_code 386 = .ok (.if_icmp .le 51, 3) := by decide +kernel
theorem d_jdk_2529_method_4_176 : decode jdk_2529_method_4_code 176 = .ok (.aload_n 1, 1) := by decide +kernel
theorem d_jdk_2529_method_4_177 : decode jdk_2529_method_4_code 177 = .ok (.iload 9, 2) := by decide +kernel
theorem d_jdk_2529_method_4_179 : decode jdk_2529_method_4_code 179 = .ok (.iaload, 1) := by decide +kernel
theorem d_jdk_2529_method_4_180 : decode jdk_2529_method_4_code 180 = .ok (.istore 14, 2) := by decide +kernel
theorem d_jdk_2529_method_4_182 : decode jdk_2529_method_4_code 182 = .ok (.aload_n 1, 1) := by decide +kernel
theorem d_jdk_2529_method_4_183 : decode jdk_2529_method_4_code 183 = .ok (.iload 9, 2) := by decide +kernel
theorem d_jdk_2529_method_4_185 : decode jdk_2529_method_4_code 185 = .ok (.aload_n 1, 1) := by decide +kernel
theorem d_jdk_2529_method_4_186 : decode jdk_2529_method_4_code 186 = .ok (.iload 11, 2) := by decide +kernel
theorem d_jdk_2529_method_4_188 : decode jdk_2529_method_4_code 188 = .ok (.iaload, 1) := by decide +kernel
theorem d_jdk_2529_method_4_189 : decode jdk_2529_method_4_code 189 = .ok (.iastore, 1) := by decide +kernel
theorem d_jdk_2529_method_4_190 : decode jdk_2529_method_4_code 190 = .ok (.aload_n 1, 1) := by decide +kernel
theorem d_jdk_2529_method_4_191 : decode jdk_2529_method_4_code 191 = .ok (.iload 11, 2) := by decide +kernel
theorem d_jdk_2529_method_4_193 : decode jdk_2529_method_4_code 193 = .ok (.iload 14, 2) := by decide +kernel
theorem d_jdk_2529_method_4_195 : decode jdk_2529_method_4_code 195 = .ok (.iastore, 1) := by decide +kernel
theorem d_jdk_2529_method_4_389 : decode jdk_2529_method_4_code 389 = .ok (.iload 13, 2) := by decide +kernel
theorem d_jdk_2529_method_4_391 : decode jdk_2529_method_4_code 391 = .ok (.aload_n 1, 1) := by decide +kernel
theorem d_jdk_2529_method_4_392 : decode jdk_2529_method_4_code 392 = .ok (.iload 9, 2) := by decide +kernel
theorem d_jdk_2529_method_4_394 : decode jdk_2529_method_4_code 394 = .ok (.iaload, 1) := by decide +kernel
theorem d_jdk_2529_method_4_395 : decode jdk_2529_method_4_code 395 = .ok (.if_icmp .le 28, 3) := by decide +kernel
theorem d_jdk_2529_method_4_398 : decode jdk_2529_method_4_code 398 = .ok (.aload_n 1, 1) := by decide +kernel
theorem d_jdk_2529_method_4_399 : decode jdk_2529_method_4_code 399 = .ok (.iload 10, 2) := by decide +kernel
theorem d_jdk_2529_method_4_401 : decode jdk_2529_method_4_code 401 = .ok (.aload_n 1, 1) := by decide +kernel
theorem d_jdk_2529_method_4_402 : decode jdk_2529_method_4_code 402 = .ok (.iload 12, 2) := by decide +kernel
theorem d_jdk_2529_method_4_404 : decode jdk_2529_method_4_code 404 = .ok (.iaload, 1) := by decide +kernel
theorem d_jdk_2529_method_4_405 : decode jdk_2529_method_4_code 405 = .ok (.iastore, 1) := by decide +kernel
theorem d_jdk_2529_method_4_406 : decode jdk_2529_method_4_code 406 = .ok (.aload_n 1, 1) := by decide +kernel
theorem d_jdk_2529_method_4_407 : decode jdk_2529_method_4_code 407 = .ok (.iload 12, 2) := by decide +kernel
theorem d_jdk_2529_method_4_409 : decode jdk_2529_method_4_code 409 = .ok (.aload_n 1, 1) := by decide +kernel
theorem d_jdk_2529_method_4_410 : decode jdk_2529_method_4_code 410 = .ok (.iload 9, 2) := by decide +kernel
theorem d_jdk_2529_method_4_412 : decode jdk_2529_method_4_code 412 = .ok (.iaload, 1) := by decide +kernel
theorem d_jdk_2529_method_4_413 : decode jdk_2529_method_4_code 413 = .ok (.iastore, 1) := by decide +kernel
theorem d_jdk_2529_method_4_414 : decode jdk_2529_method_4_code 414 = .ok (.aload_n 1, 1) := by decide +kernel
theorem d_jdk_2529_method_4_415 : decode jdk_2529_method_4_code 415 = .ok (.iload 9, 2) := by decide +kernel
theorem d_jdk_2529_method_4_417 : decode jdk_2529_method_4_code 417 = .ok (.iload 13, 2) := by decide +kernel
theorem d_jdk_2529_method_4_419 : decode jdk_2529_method_4_code 419 = .ok (.iastore, 1) := by decide +kernel
theorem d_jdk_2529_method_4_420 : decode jdk_2529_method_4_code 420 = .ok (.goto 17, 3) := by decide +kernel
theorem d_jdk_2529_method_4_833 : decode jdk_2529_method_4_code 833 = .ok (.aload_n 1, 1) := by decide +kernel
theorem d_jdk_2529_method_4_834 : decode jdk_2529_method_4_code 834 = .ok (.iinc 14 1, 3) := by decide +kernel
theorem d_jdk_2529_method_4_837 : decode jdk_2529_method_4_code 837 = .ok (.iload 14, 2) := by decide +kernel
theorem d_jdk_2529_method_4_839 : decode jdk_2529_method_4_code 839 = .ok (.iaload, 1) := by decide +kernel
theorem d_jdk_2529_method_4_840 : decode jdk_2529_method_4_code 840 = .ok (.iload 16, 2) := by decide +kernel
theorem d_jdk_2529_method_4_842 : decode jdk_2529_method_4_code 842 = .ok (.if_icmp .ge 6, 3) := by decide +kernel
theorem d_jdk_2529_method_4_848 : decode jdk_2529_method_4_code 848 = .ok (.aload_n 1, 1) := by decide +kernel
theorem d_jdk_2529_method_4_849 : decode jdk_2529_method_4_code 849 = .ok (.iload 14, 2) := by decide +kernel
theorem d_jdk_2529_method_4_851 : decode jdk_2529_method_4_code 851 = .ok (.iaload, 1) := by decide +kernel
theorem d_jdk_2529_method_4_852 : decode jdk_2529_method_4_code 852 = .ok (.iload 16, 2) := by decide +kernel
theorem d_jdk_2529_method_4_854 : decode jdk_2529_method_4_code 854 = .ok (.if_icmp .le 14, 3) := by decide +kernel
theorem d_jdk_2529_method_4_868 : decode jdk_2529_method_4_code 868 = .ok (.aload_n 1, 1) := by decide +kernel
theorem d_jdk_2529_method_4_869 : decode jdk_2529_method_4_code 869 = .ok (.iload 14, 2) := by decide +kernel
theorem d_jdk_2529_method_4_871 : decode jdk_2529_method_4_code 871 = .ok (.iload 18, 2) := by decide +kernel
theorem d_jdk_2529_method_4_873 : decode jdk_2529_method_4_code 873 = .ok (.iastore, 1) := by decide +kernel
theorem d_jdk_2529_method_4_874 : decode jdk_2529_method_4_code 874 = .ok (.goto 12, 3) := by decide +kernel
theorem d_jdk_2529_method_3_0 : decode jdk_2529_method_3_code 0 = .ok (.iload_n 3, 1) := by decide +kernel
theorem d_jdk_2529_method_3_1 : decode jdk_2529_method_3_code 1 = .ok (.iload_n 2, 1) := by decide +kernel
theorem d_jdk_2529_method_3_2 : decode jdk_2529_method_3_code 2 = .ok (.isub, 1) := by decide +kernel
theorem d_jdk_2529_method_3_3 : decode jdk_2529_method_3_code 3 = .ok (.istore 4, 2) := by decide +kernel
theorem d_jdk_2529_method_3_5 : decode jdk_2529_method_3_code 5 = .ok (.iload_n 1, 1) := by decide +kernel
theorem d_jdk_2529_method_3_6 : decode jdk_2529_method_3_code 6 = .ok (.iconst 1, 1) := by decide +kernel
theorem d_jdk_2529_method_3_7 : decode jdk_2529_method_3_code 7 = .ok (.if_icmp .le 61, 3) := by decide +kernel
theorem d_jdk_2529_method_3_68 : decode jdk_2529_method_3_code 68 = .ok (.aconst_null, 1) := by decide +kernel
theorem d_jdk_2529_method_3_69 : decode jdk_2529_method_3_code 69 = .ok (.aload_n 0, 1) := by decide +kernel
theorem d_jdk_2529_method_3_70 : decode jdk_2529_method_3_code 70 = .ok (.iconst 0, 1) := by decide +kernel
theorem d_jdk_2529_method_3_71 : decode jdk_2529_method_3_code 71 = .ok (.iload_n 2, 1) := by decide +kernel
theorem d_jdk_2529_method_3_72 : decode jdk_2529_method_3_code 72 = .ok (.iload_n 3, 1) := by decide +kernel
theorem d_jdk_2529_method_3_73 : decode jdk_2529_method_3_code 73 = .ok (.invokestatic 26, 3) := by decide +kernel
theorem d_jdk_2529_method_3_76 : decode jdk_2529_method_3_code 76 = .ok (.return_, 1) := by decide +kernel
theorem d_jdk_65_method_2_0 : decode jdk_65_method_2_code 0 = .ok (.aload_n 0, 1) := by decide +kernel
theorem d_jdk_65_method_2_1 : decode jdk_65_method_2_code 1 = .ok (.iconst 0, 1) := by decide +kernel
theorem d_jdk_65_method_2_2 : decode jdk_65_method_2_code 2 = .ok (.iconst 0, 1) := by decide +kernel
theorem d_jdk_65_method_2_3 : decode jdk_65_method_2_code 3 = .ok (.aload_n 0, 1) := by decide +kernel
theorem d_jdk_65_method_2_4 : decode jdk_65_method_2_code 4 = .ok (.arraylength, 1) := by decide +kernel
theorem d_jdk_65_method_2_5 : decode jdk_65_method_2_code 5 = .ok (.invokestatic 7, 3) := by decide +kernel
theorem d_jdk_65_method_2_8 : decode jdk_65_method_2_code 8 = .ok (.return_, 1) := by decide +kernel
theorem d_prog_102_method_8_0 : decode prog_102_method_8_code 0 = .ok (.aload_n 0, 1) := by decide +kernel
theorem d_prog_102_method_8_1 : decode prog_102_method_8_code 1 = .ok (.getfield 29, 3) := by decide +kernel
theorem d_prog_102_method_8_4 : decode prog_102_method_8_code 4 = .ok (.iload_n 1, 1) := by decide +kernel
theorem d_prog_102_method_8_5 : decode prog_102_method_8_code 5 = .ok (.iaload, 1) := by decide +kernel
theorem d_prog_102_method_8_6 : decode prog_102_method_8_code 6 = .ok (.istore_n 2, 1) := by decide +kernel
theorem d_prog_102_method_8_7 : decode prog_102_method_8_code 7 = .ok (.iload_n 2, 1) := by decide +kernel
theorem d_prog_102_method_8_8 : decode prog_102_method_8_code 8 = .ok (.aload_n 0, 1) := by decide +kernel
theorem d_prog_102_method_8_9 : decode prog_102_method_8_code 9 = .ok (.getfield 29, 3) := by decide +kernel
theorem d_prog_102_method_8_12 : decode prog_102_method_8_code 12 = .ok (.iload_n 1, 1) := by decide +kernel
theorem d_prog_102_method_8_13 : decode prog_102_method_8_code 13 = .ok (.iconst 1, 1) := by decide +kernel
theorem d_prog_102_method_8_14 : decode prog_102_method_8_code 14 = .ok (.iadd, 1) := by decide +kernel
theorem d_prog_102_method_8_15 : decode prog_102_method_8_code 15 = .ok (.iaload, 1) := by decide +kernel
theorem d_prog_102_method_8_16 : decode prog_102_method_8_code 16 = .ok (.if_icmp .ge 34, 3) := by decide +kernel
theorem d_prog_102_method_8_19 : decode prog_102_method_8_code 19 = .ok (.aload_n 0, 1) := by decide +kernel
theorem d_prog_102_method_8_20 : decode prog_102_method_8_code 20 = .ok (.getfield 58, 3) := by decide +kernel
theorem d_prog_102_method_8_23 : decode prog_102_method_8_code 23 = .ok (.aload_n 0, 1) := by decide +kernel
theorem d_prog_102_method_8_24 : decode prog_102_method_8_code 24 = .ok (.getfield 32, 3) := by decide +kernel
theorem d_prog_102_method_8_27 : decode prog_102_method_8_code 27 = .ok (.iload_n 2, 1) := by decide +kernel
theorem d_prog_102_method_8_28 : decode prog_102_method_8_code 28 = .ok (.iaload, 1) := by decide +kernel
theorem d_prog_102_method_8_29 : decode prog_102_method_8_code 29 = .ok (.bipush 6, 2) := by decide +kernel
theorem d_prog_102_method_8_31 : decode prog_102_method_8_code 31 = .ok (.iushr, 1) := by decide +kernel
theorem d_prog_102_method_8_32 : decode prog_102_method_8_code 32 = .ok (.dup2, 1) := by decide +kernel
theorem d_prog_102_method_8_33 : decode prog_102_method_8_code 33 = .ok (.laload, 1) := by decide +kernel
theorem d_prog_102_method_8_34 : decode prog_102_method_8_code 34 = .ok (.lconst 1, 1) := by decide +kernel
theorem d_prog_102_method_8_35 : decode prog_102_method_8_code 35 = .ok (.aload_n 0, 1) := by decide +kernel
theorem d_prog_102_method_8_36 : decode prog_102_method_8_code 36 = .ok (.getfield 32, 3) := by decide +kernel
theorem d_prog_102_method_8_39 : decode prog_102_method_8_code 39 = .ok (.iload_n 2, 1) := by decide +kernel
theorem d_prog_102_method_8_40 : decode prog_102_method_8_code 40 = .ok (.iaload, 1) := by decide +kernel
theorem d_prog_102_method_8_41 : decode prog_102_method_8_code 41 = .ok (.lshl, 1) := by decide +kernel
theorem d_prog_102_method_8_42 : decode prog_102_method_8_code 42 = .ok (.lxor, 1) := by decide +kernel
theorem d_prog_102_method_8_43 : decode prog_102_method_8_code 43 = .ok (.lastore, 1) := by decide +kernel
theorem d_prog_102_method_8_44 : decode prog_102_method_8_code 44 = .ok (.iinc 2 1, 3) := by decide +kernel
theorem d_prog_102_method_8_47 : decode prog_102_method_8_code 47 = .ok (.goto (-40), 3) := by decide +kernel
theorem d_prog_102_method_8_50 : decode prog_102_method_8_code 50 = .ok (.return_, 1) := by decide +kernel
theorem d_prog_102_method_7_0 : decode prog_102_method_7_code 0 = .ok (.iconst 1, 1) := by decide +kernel
theorem d_prog_102_method_7_1 : decode prog_102_method_7_code 1 = .ok (.istore_n 2, 1) := by decide +kernel
theorem d_prog_102_method_7_2 : decode prog_102_method_7_code 2 = .ok (.iconst 0, 1) := by decide +kernel
theorem d_prog_102_method_7_3 : decode prog_102_method_7_code 3 = .ok (.istore_n 3, 1) := by decide +kernel
theorem d_prog_102_method_7_4 : decode prog_102_method_7_code 4 = .ok (.iload_n 3, 1) := by decide +kernel
theorem d_prog_102_method_7_5 : decode prog_102_method_7_code 5 = .ok (.aload_n 0, 1) := by decide +kernel
theorem d_prog_102_method_7_6 : decode prog_102_method_7_code 6 = .ok (.getfield 61, 3) := by decide +kernel
theorem d_prog_102_method_7_9 : decode prog_102_method_7_code 9 = .ok (.arraylength, 1) := by decide +kernel
theorem d_prog_102_method_7_10 : decode prog_102_method_7_code 10 = .ok (.if_icmp .ge 165, 3) := by decide +kernel
theorem d_prog_102_method_7_13 : decode prog_102_method_7_code 13 = .ok (.aload_n 0, 1) := by decide +kernel
theorem d_prog_102_method_7_14 : decode prog_102_method_7_code 14 = .ok (.getfield 61, 3) := by decide +kernel
theorem d_prog_102_method_7_17 : decode prog_102_method_7_code 17 = .ok (.iload_n 3, 1) := by decide +kernel
theorem d_prog_102_method_7_18 : decode prog_102_method_7_code 18 = .ok (.laload, 1) := by decide +kernel
theorem d_prog_102_method_7_19 : decode prog_102_method_7_code 19 = .ok (.lstore 4, 2) := by decide +kernel
theorem d_prog_102_method_7_21 : decode prog_102_method_7_code 21 = .ok (.aload_n 0, 1) := by decide +kernel
theorem d_prog_102_method_7_22 : decode prog_102_method_7_code 22 = .ok (.getfield 64, 3) := by decide +kernel
theorem d_prog_102_method_7_25 : decode prog_102_method_7_code 25 = .ok (.iload_n 3, 1) := by decide +kernel
theorem d_prog_102_method_7_26 : decode prog_102_method_7_code 26 = .ok (.laload, 1) := by decide +kernel
theorem d_prog_102_method_7_27 : decode prog_102_method_7_code 27 = .ok (.lstore 6, 2) := by decide +kernel
theorem d_prog_102_method_7_29 : decode prog_102_method_7_code 29 = .ok (.aload_n 1, 1) := by decide +kernel
theorem d_prog_102_method_7_30 : decode prog_102_method_7_code 30 = .ok (.iload_n 3, 1) := by decide +kernel
theorem d_prog_102_method_7_31 : decode prog_102_method_7_code 31 = .ok (.laload, 1) := by decide +kernel
theorem d_prog_102_method_7_32 : decode prog_102_method_7_code 32 = .ok (.lstore 8, 2) := by decide +kernel
theorem d_prog_102_method_7_34 : decode prog_102_method_7_code 34 = .ok (.lload 8, 2) := by decide +kernel
theorem d_prog_102_method_7_36 : decode prog_102_method_7_code 36 = .ok (.lload 6, 2) := by decide +kernel
theorem d_prog_102_method_7_38 : decode prog_102_method_7_code 38 = .ok (.lor, 1) := by decide +kernel
theorem d_prog_102_method_7_39 : decode prog_102_method_7_code 39 = .ok (.lstore 10, 2) := by decide +kernel
theorem d_prog_102_method_7_41 : decode prog_102_method_7_code 41 = .ok (.iload_n 2, 1) := by decide +kernel
theorem d_prog_102_method_7_42 : decode prog_102_method_7_code 42 = .ok (.ifCond .ge 9, 3) := by decide +kernel
theorem d_prog_102_method_7_51 : decode prog_102_method_7_code 51 = .ok (.lload 8, 2) := by decide +kernel
theorem d_prog_102_method_7_53 : decode prog_102_method_7_code 53 = .ok (.lload 4, 2) := by decide +kernel
theorem d_prog_102_method_7_55 : decode prog_102_method_7_code 55 = .ok (.land, 1) := by decide +kernel
theorem d_prog_102_method_7_56 : decode prog_102_method_7_code 56 = .ok (.lload 4, 2) := by decide +kernel
theorem d_prog_102_method_7_58 : decode prog_102_method_7_code 58 = .ok (.ladd, 1) := by decide +kernel
theorem d_prog_102_method_7_59 : decode prog_102_method_7_code 59 = .ok (.lload 4, 2) := by decide +kernel
theorem d_prog_102_method_7_61 : decode prog_102_method_7_code 61 = .ok (.lxor, 1) := by decide +kernel
theorem d_prog_102_method_7_62 : decode prog_102_method_7_code 62 = .ok (.lload 8, 2) := by decide +kernel
theorem d_prog_102_method_7_64 : decode prog_102_method_7_code 64 = .ok (.lor, 1) := by decide +kernel
theorem d_prog_102_method_7_65 : decode prog_102_method_7_code 65 = .ok (.lstore 12, 2) := by decide +kernel
theorem d_prog_102_method_7_67 : decode prog_102_method_7_code 67 = .ok (.lload 6, 2) := by decide +kernel
theorem d_prog_102_method_7_69 : decode prog_102_method_7_code 69 = .ok (.lload 12, 2) := by decide +kernel
theorem d_prog_102_method_7_71 : decode prog_102_method_7_code 71 = .ok (.lload 4, 2) := by decide +kernel
theorem d_prog_102_method_7_73 : decode prog_102_method_7_code 73 = .ok (.lor, 1) := by decide +kernel
theorem d_prog_102_method_7_74 : decode prog_102_method_7_code 74 = .ok (.ldc2_w 67, 3) := by decide +kernel
theorem d_prog_102_method_7_77 : decode prog_102_method_7_code 77 = .ok (.lxor, 1) := by decide +kernel
theorem d_prog_102_method_7_78 : decode prog_102_method_7_code 78 = .ok (.lor, 1) := by decide +kernel
theorem d_prog_102_method_7_79 : decode prog_102_method_7_code 79 = .ok (.lstore 14, 2) := by decide +kernel
theorem d_prog_102_method_7_81 : decode prog_102_method_7_code 81 = .ok (.lload 4, 2) := by decide +kernel
theorem d_prog_102_method_7_83 : decode prog_102_method_7_code 83 = .ok (.lload 12, 2) := by decide +kernel
theorem d_prog_102_method_7_85 : decode prog_102_method_7_code 85 = .ok (.land, 1) := by decide +kernel
theorem d_prog_102_method_7_86 : decode prog_102_method_7_code 86 = .ok (.lstore 16, 2) := by decide +kernel
theorem d_prog_102_method_7_88 : decode prog_102_method_7_code 88 = .ok (.lload 14, 2) := by decide +kernel
theorem d_prog_102_method_7_90 : decode prog_102_method_7_code 90 = .ok (.bipush 63, 2) := by decide +kernel
theorem d_prog_102_method_7_92 : decode prog_102_method_7_code 92 = .ok (.lushr, 1) := by decide +kernel
theorem d_prog_102_method_7_93 : decode prog_102_method_7_code 93 = .ok (.l2i, 1) := by decide +kernel
theorem d_prog_102_method_7_94 : decode prog_102_method_7_code 94 = .ok (.lload 16, 2) := by decide +kernel
theorem d_prog_102_method_7_96 : decode prog_102_method_7_code 96 = .ok (.bipush 63, 2) := by decide +kernel
theorem d_prog_102_method_7_98 : decode prog_102_method_7_code 98 = .ok (.lushr, 1) := by decide +kernel
theorem d_prog_102_method_7_99 : decode prog_102_method_7_code 99 = .ok (.l2i, 1) := by decide +kernel
theorem d_prog_102_method_7_100 : decode prog_102_method_7_code 100 = .ok (.isub, 1) := by decide +kernel
theorem d_prog_102_method_7_101 : decode prog_102_method_7_code 101 = .ok (.istore 18, 2) := by decide +kernel
theorem d_prog_102_method_7_103 : decode prog_102_method_7_code 103 = .ok (.lload 14, 2) := by decide +kernel
theorem d_prog_102_method_7_105 : decode prog_102_method_7_code 105 = .ok (.iconst 1, 1) := by decide +kernel
theorem d_prog_102_method_7_106 : decode prog_102_method_7_code 106 = .ok (.lshl, 1) := by decide +kernel
theorem d_prog_102_method_7_107 : decode prog_102_method_7_code 107 = .ok (.iload_n 2, 1) := by decide +kernel
theorem d_prog_102_method_7_108 : decode prog_102_method_7_code 108 = .ok (.ifCond .le 7, 3) := by decide +kernel
theorem d_prog_102_method_7_111 : decode prog_102_method_7_code 111 = .ok (.iconst 1, 1) := by decide +kernel
theorem d_prog_102_method_7_112 : decode prog_102_method_7_code 112 = .ok (.goto 4, 3) := by decide +kernel
theorem d_prog_102_method_7_116 : decode prog_102_method_7_code 116 = .ok (.i2l, 1) := by decide +kernel
theorem d_prog_102_method_7_117 : decode prog_102_method_7_code 117 = .ok (.lor, 1) := by decide +kernel
theorem d_prog_102_method_7_118 : decode prog_102_method_7_code 118 = .ok (.lstore 14, 2) := by decide +kernel
theorem d_prog_102_method_7_120 : decode prog_102_method_7_code 120 = .ok (.lload 16, 2) := by decide +kernel
theorem d_prog_102_method_7_122 : decode prog_102_method_7_code 122 = .ok (.iconst 1, 1) := by decide +kernel
theorem d_prog_102_method_7_123 : decode prog_102_method_7_code 123 = .ok (.lshl, 1) := by decide +kernel
theorem d_prog_102_method_7_124 : decode prog_102_method_7_code 124 = .ok (.iload_n 2, 1) := by decide +kernel
theorem d_prog_102_method_7_125 : decode prog_102_method_7_code 125 = .ok (.ifCond .ge 7, 3) := by decide +kernel
theorem d_prog_102_method_7_132 : decode prog_102_method_7_code 132 = .ok (.iconst 0, 1) := by decide +kernel
theorem d_prog_102_method_7_133 : decode prog_102_method_7_code 133 = .ok (.i2l, 1) := by decide +kernel
theorem d_prog_102_method_7_134 : decode prog_102_method_7_code 134 = .ok (.lor, 1) := by decide +kernel
theorem d_prog_102_method_7_135 : decode prog_102_method_7_code 135 = .ok (.lstore 16, 2) := by decide +kernel
theorem d_prog_102_method_7_137 : decode prog_102_method_7_code 137 = .ok (.aload_n 0, 1) := by decide +kernel
theorem d_prog_102_method_7_138 : decode prog_102_method_7_code 138 = .ok (.getfield 61, 3) := by decide +kernel
theorem d_prog_102_method_7_141 : decode prog_102_method_7_code 141 = .ok (.iload_n 3, 1) := by decide +kernel
theorem d_prog_102_method_7_142 : decode prog_102_method_7_code 142 = .ok (.lload 16, 2) := by decide +kernel
theorem d_prog_102_method_7_144 : decode prog_102_method_7_code 144 = .ok (.lload 10, 2) := by decide +kernel
theorem d_prog_102_method_7_146 : decode prog_102_method_7_code 146 = .ok (.lload 14, 2) := by decide +kernel
theorem d_prog_102_method_7_148 : decode prog_102_method_7_code 148 = .ok (.lor, 1) := by decide +kernel
theorem d_prog_102_method_7_149 : decode prog_102_method_7_code 149 = .ok (.ldc2_w 67, 3) := by decide +kernel
theorem d_prog_102_method_7_152 : decode prog_102_method_7_code 152 = .ok (.lxor, 1) := by decide +kernel
theorem d_prog_102_method_7_153 : decode prog_102_method_7_code 153 = .ok (.lor, 1) := by decide +kernel
theorem d_prog_102_method_7_154 : decode prog_102_method_7_code 154 = .ok (.lastore, 1) := by decide +kernel
theorem d_prog_102_method_7_155 : decode prog_102_method_7_code 155 = .ok (.aload_n 0, 1) := by decide +kernel
theorem d_prog_102_method_7_156 : decode prog_102_method_7_code 156 = .ok (.getfield 64, 3) := by decide +kernel
theorem d_prog_102_method_7_159 : decode prog_102_method_7_code 159 = .ok (.iload_n 3, 1) := by decide +kernel
theorem d_prog_102_method_7_160 : decode prog_102_method_7_code 160 = .ok (.lload 14, 2) := by decide +kernel
theorem d_prog_102_method_7_162 : decode prog_102_method_7_code 162 = .ok (.lload 10, 2) := by decide +kernel
theorem d_prog_102_method_7_164 : decode prog_102_method_7_code 164 = .ok (.land, 1) := by decide +kernel
theorem d_prog_102_method_7_165 : decode prog_102_method_7_code 165 = .ok (.lastore, 1) := by decide +kernel
theorem d_prog_102_method_7_166 : decode prog_102_method_7_code 166 = .ok (.iload 18, 2) := by decide +kernel
theorem d_prog_102_method_7_168 : decode prog_102_method_7_code 168 = .ok (.istore_n 2, 1) := by decide +kernel
theorem d_prog_102_method_7_169 : decode prog_102_method_7_code 169 = .ok (.iinc 3 1, 3) := by decide +kernel
theorem d_prog_102_method_7_172 : decode prog_102_method_7_code 172 = .ok (.goto (-168), 3) := by decide +kernel
theorem d_prog_102_method_7_115 : decode prog_102_method_7_code 115 = .ok (.iconst 0, 1) := by decide +kernel
theorem d_prog_102_method_7_175 : decode prog_102_method_7_code 175 = .ok (.return_, 1) := by decide +kernel
theorem d_prog_102_method_7_45 : decode prog_102_method_7_code 45 = .ok (.lload 8, 2) := by decide +kernel
theorem d_prog_102_method_7_47 : decode prog_102_method_7_code 47 = .ok (.lconst 1, 1) := by decide +kernel
theorem d_prog_102_method_7_48 : decode prog_102_method_7_code 48 = .ok (.lor, 1) := by decide +kernel
theorem d_prog_102_method_7_49 : decode prog_102_method_7_code 49 = .ok (.lstore 8, 2) := by decide +kernel
theorem d_prog_102_method_7_128 : decode prog_102_method_7_code 128 = .ok (.iconst 1, 1) := by decide +kernel
theorem d_prog_102_method_7_129 : decode prog_102_method_7_code 129 = .ok (.goto 4, 3) := by decide +kernel
theorem d_prog_102_method_6_0 : decode prog_102_method_6_code 0 = .ok (.aload_n 0, 1) := by decide +kernel
theorem d_prog_102_method_6_1 : decode prog_102_method_6_code 1 = .ok (.getfield 86, 3) := by decide +kernel
theorem d_prog_102_method_6_4 : decode prog_102_method_6_code 4 = .ok (.istore_n 2, 1) := by decide +kernel
theorem d_prog_102_method_6_5 : decode prog_102_method_6_code 5 = .ok (.aload_n 1, 1) := by decide +kernel
theorem d_prog_102_method_6_6 : decode prog_102_method_6_code 6 = .ok (.iconst 0, 1) := by decide +kernel
theorem d_prog_102_method_6_7 : decode prog_102_method_6_code 7 = .ok (.iload_n 2, 1) := by decide +kernel
theorem d_prog_102_method_6_8 : decode prog_102_method_6_code 8 = .ok (.iastore, 1) := by decide +kernel
theorem d_prog_102_method_6_9 : decode prog_102_method_6_code 9 = .ok (.iconst 0, 1) := by decide +kernel
theorem d_prog_102_method_6_10 : decode prog_102_method_6_code 10 = .ok (.istore_n 3, 1) := by decide +kernel
theorem d_prog_102_method_6_11 : decode prog_102_method_6_code 11 = .ok (.iload_n 3, 1) := by decide +kernel
theorem d_prog_102_method_6_12 : decode prog_102_method_6_code 12 = .ok (.aload_n 0, 1) := by decide +kernel
theorem d_prog_102_method_6_13 : decode prog_102_method_6_code 13 = .ok (.getfield 25, 3) := by decide +kernel
theorem d_prog_102_method_6_16 : decode prog_102_method_6_code 16 = .ok (.if_icmp .ge 47, 3) := by decide +kernel
theorem d_prog_102_method_6_63 : decode prog_102_method_6_code 63 = .ok (.return_, 1) := by decide +kernel
theorem d_prog_102_method_6_19 : decode prog_102_method_6_code 19 = .ok (.iload_n 2, 1) := by decide +kernel
theorem d_prog_102_method_6_20 : decode prog_102_method_6_code 20 = .ok (.aload_n 0, 1) := by decide +kernel
theorem d_prog_102_method_6_21 : decode prog_102_method_6_code 21 = .ok (.getfield 61, 3) := by decide +kernel
theorem d_prog_102_method_6_24 : decode prog_102_method_6_code 24 = .ok (.iload_n 3, 1) := by decide +kernel
theorem d_prog_102_method_6_25 : decode prog_102_method_6_code 25 = .ok (.bipush 6, 2) := by decide +kernel
theorem d_prog_102_method_6_27 : decode prog_102_method_6_code 27 = .ok (.iushr, 1) := by decide +kernel
theorem d_prog_102_method_6_28 : decode prog_102_method_6_code 28 = .ok (.laload, 1) := by decide +kernel
theorem d_prog_102_method_6_29 : decode prog_102_method_6_code 29 = .ok (.iload_n 3, 1) := by decide +kernel
theorem d_prog_102_method_6_30 : decode prog_102_method_6_code 30 = .ok (.lushr, 1) := by decide +kernel
theorem d_prog_102_method_6_31 : decode prog_102_method_6_code 31 = .ok (.lconst 1, 1) := by decide +kernel
theorem d_prog_102_method_6_32 : decode prog_102_method_6_code 32 = .ok (.land, 1) := by decide +kernel
theorem d_prog_102_method_6_33 : decode prog_102_method_6_code 33 = .ok (.l2i, 1) := by decide +kernel
theorem d_prog_102_method_6_34 : decode prog_102_method_6_code 34 = .ok (.aload_n 0, 1) := by decide +kernel
theorem d_prog_102_method_6_35 : decode prog_102_method_6_code 35 = .ok (.getfield 64, 3) := by decide +kernel
theorem d_prog_102_method_6_38 : decode prog_102_method_6_code 38 = .ok (.iload_n 3, 1) := by decide +kernel
theorem d_prog_102_method_6_39 : decode prog_102_method_6_code 39 = .ok (.bipush 6, 2) := by decide +kernel
theorem d_prog_102_method_6_41 : decode prog_102_method_6_code 41 = .ok (.iushr, 1) := by decide +kernel
theorem d_prog_102_method_6_42 : decode prog_102_method_6_code 42 = .ok (.laload, 1) := by decide +kernel
theorem d_prog_102_method_6_43 : decode prog_102_method_6_code 43 = .ok (.iload_n 3, 1) := by decide +kernel
theorem d_prog_102_method_6_44 : decode prog_102_method_6_code 44 = .ok (.lushr, 1) := by decide +kernel
theorem d_prog_102_method_6_45 : decode prog_102_method_6_code 45 = .ok (.lconst 1, 1) := by decide +kernel
theorem d_prog_102_method_6_46 : decode prog_102_method_6_code 46 = .ok (.land, 1) := by decide +kernel
theorem d_prog_102_method_6_47 : decode prog_102_method_6_code 47 = .ok (.l2i, 1) := by decide +kernel
theorem d_prog_102_method_6_48 : decode prog_102_method_6_code 48 = .ok (.isub, 1) := by decide +kernel
theorem d_prog_102_method_6_49 : decode prog_102_method_6_code 49 = .ok (.iadd, 1) := by decide +kernel
theorem d_prog_102_method_6_50 : decode prog_102_method_6_code 50 = .ok (.istore_n 2, 1) := by decide +kernel
theorem d_prog_102_method_6_51 : decode prog_102_method_6_code 51 = .ok (.aload_n 1, 1) := by decide +kernel
theorem d_prog_102_method_6_52 : decode prog_102_method_6_code 52 = .ok (.iload_n 3, 1) := by decide +kernel
theorem d_prog_102_method_6_53 : decode prog_102_method_6_code 53 = .ok (.iconst 1, 1) := by decide +kernel
theorem d_prog_102_method_6_54 : decode prog_102_method_6_code 54 = .ok (.iadd, 1) := by decide +kernel
theorem d_prog_102_method_6_55 : decode prog_102_method_6_code 55 = .ok (.iload_n 2, 1) := by decide +kernel
theorem d_prog_102_method_6_56 : decode prog_102_method_6_code 56 = .ok (.iastore, 1) := by decide +kernel
theorem d_prog_102_method_6_57 : decode prog_102_method_6_code 57 = .ok (.iinc 3 1, 3) := by decide +kernel
theorem d_prog_102_method_6_60 : decode prog_102_method_6_code 60 = .ok (.goto (-49), 3) := by decide +kernel
theorem d_prog_102_method_4_0 : decode prog_102_method_4_code 0 = .ok (.aload_n 0, 1) := by decide +kernel
theorem d_prog_102_method_4_1 : decode prog_102_method_4_code 1 = .ok (.getfield 86, 3) := by decide +kernel
theorem d_prog_102_method_4_4 : decode prog_102_method_4_code 4 = .ok (.ireturn, 1) := by decide +kernel
theorem d_method_2_0 : decode method_2_code 0 = .ok (.iload_n 0, 1) := by decide +kernel
theorem d_method_2_1 : decode method_2_code 1 = .ok (.ifCond .ne 6, 3) := by decide +kernel
theorem d_method_2_4 : decode method_2_code 4 = .ok (.iload 4, 2) := by decide +kernel
theorem d_method_2_6 : decode method_2_code 6 = .ok (.ireturn, 1) := by decide +kernel
theorem d_method_2_7 : decode method_2_code 7 = .ok (.iload 4, 2) := by decide +kernel
theorem d_method_2_9 : decode method_2_code 9 = .ok (.ifCond .ne 5, 3) := by decide +kernel
theorem d_method_2_12 : decode method_2_code 12 = .ok (.iconst 1, 1) := by decide +kernel
theorem d_method_2_13 : decode method_2_code 13 = .ok (.ireturn, 1) := by decide +kernel
theorem d_method_2_14 : decode method_2_code 14 = .ok (.iload_n 1, 1) := by decide +kernel
theorem d_method_2_15 : decode method_2_code 15 = .ok (.ifCond .ne 27, 3) := by decide +kernel
theorem d_method_2_18 : decode method_2_code 18 = .ok (.iload 4, 2) := by decide +kernel
theorem d_method_2_20 : decode method_2_code 20 = .ok (.iconst 1, 1) := by decide +kernel
theorem d_method_2_21 : decode method_2_code 21 = .ok (.if_icmp .ne 11, 3) := by decide +kernel
theorem d_method_2_32 : decode method_2_code 32 = .ok (.iconst 1, 1) := by decide +kernel
theorem d_method_2_33 : decode method_2_code 33 = .ok (.goto 4, 3) := by decide +kernel
theorem d_method_2_37 : decode method_2_code 37 = .ok (.istore 5, 2) := by decide +kernel
theorem d_method_2_39 : decode method_2_code 39 = .ok (.goto 21, 3) := by decide +kernel
theorem d_method_2_60 : decode method_2_code 60 = .ok (.iload 5, 2) := by decide +kernel
theorem d_method_2_62 : decode method_2_code 62 = .ok (.ifCond .eq 10, 3) := by decide +kernel
theorem d_method_2_65 : decode method_2_code 65 = .ok (.iload 4, 2) := by decide +kernel
theorem d_method_2_67 : decode method_2_code 67 = .ok (.iconst 1, 1) := by decide +kernel
theorem d_method_2_68 : decode method_2_code 68 = .ok (.isub, 1) := by decide +kernel
theorem d_method_2_69 : decode method_2_code 69 = .ok (.goto 5, 3) := by decide +kernel
theorem d_method_2_74 : decode method_2_code 74 = .ok (.ireturn, 1) := by decide +kernel
theorem d_method_2_24 : decode method_2_code 24 = .ok (.iload_n 3, 1) := by decide +kernel
theorem d_method_2_25 : decode method_2_code 25 = .ok (.ifCond .ne 7, 3) := by decide +kernel
theorem d_method_2_28 : decode method_2_code 28 = .ok (.iload_n 2, 1) := by decide +kernel
theorem d_method_2_29 : decode method_2_code 29 = .ok (.ifCond .ne 7, 3) := by decide +kernel
theorem d_method_2_36 : decode method_2_code 36 = .ok (.iconst 0, 1) := by decide +kernel
theorem d_method_2_72 : decode method_2_code 72 = .ok (.iload 4, 2) := by decide +kernel
theorem d_method_2_42 : decode method_2_code 42 = .ok (.iload_n 1, 1) := by decide +kernel
theorem d_method_2_43 : decode method_2_code 43 = .ok (.iload_n 2, 1) := by decide +kernel
theorem d_method_2_44 : decode method_2_code 44 = .ok (.if_icmp .ne 13, 3) := by decide +kernel
theorem d_method_2_57 : decode method_2_code 57 = .ok (.iconst 0, 1) := by decide +kernel
theorem d_method_2_58 : decode method_2_code 58 = .ok (.istore 5, 2) := by decide +kernel
theorem d_method_2_47 : decode method_2_code 47 = .ok (.iload_n 3, 1) := by decide +kernel
theorem d_method_2_48 : decode method_2_code 48 = .ok (.iload 4, 2) := by decide +kernel
theorem d_method_2_50 : decode method_2_code 50 = .ok (.if_icmp .ge 7, 3) := by decide +kernel
theorem d_method_2_53 : decode method_2_code 53 = .ok (.iconst 1, 1) := by decide +kernel
theorem d_method_2_54 : decode method_2_code 54 = .ok (.goto 4, 3) := by decide +kernel
theorem d_prog_102_method_5_0 : decode prog_102_method_5_code 0 = .ok (.aload_n 0, 1) := by decide +kernel
theorem d_prog_102_method_5_1 : decode prog_102_method_5_code 1 = .ok (.getfield 49, 3) := by decide +kernel
theorem d_prog_102_method_5_4 : decode prog_102_method_5_code 4 = .ok (.aload_n 0, 1) := by decide +kernel
theorem d_prog_102_method_5_5 : decode prog_102_method_5_code 5 = .ok (.getfield 86, 3) := by decide +kernel
theorem d_prog_102_method_5_8 : decode prog_102_method_5_code 8 = .ok (.iaload, 1) := by decide +kernel
theorem d_prog_102_method_5_9 : decode prog_102_method_5_code 9 = .ok (.istore_n 1, 1) := by decide +kernel
theorem d_prog_102_method_5_10 : decode prog_102_method_5_code 10 = .ok (.iload_n 1, 1) := by decide +kernel
theorem d_prog_102_method_5_11 : decode prog_102_method_5_code 11 = .ok (.ifCond .lt 16, 3) := by decide +kernel
theorem d_prog_102_method_5_27 : decode prog_102_method_5_code 27 = .ok (.iconst 0, 1) := by decide +kernel
theorem d_prog_102_method_5_28 : decode prog_102_method_5_code 28 = .ok (.istore_n 2, 1) := by decide +kernel
theorem d_prog_102_method_5_29 : decode prog_102_method_5_code 29 = .ok (.iload_n 2, 1) := by decide +kernel
theorem d_prog_102_method_5_30 : decode prog_102_method_5_code 30 = .ok (.ifCond .eq 8, 3) := by decide +kernel
theorem d_prog_102_method_5_38 : decode prog_102_method_5_code 38 = .ok (.aload_n 0, 1) := by decide +kernel
theorem d_prog_102_method_5_39 : decode prog_102_method_5_code 39 = .ok (.iload_n 1, 1) := by decide +kernel
theorem d_prog_102_method_5_40 : decode prog_102_method_5_code 40 = .ok (.ifCond .lt 16, 3) := by decide +kernel
theorem d_prog_102_method_5_56 : decode prog_102_method_5_code 56 = .ok (.aload_n 0, 1) := by decide +kernel
theorem d_prog_102_method_5_57 : decode prog_102_method_5_code 57 = .ok (.getfield 58, 3) := by decide +kernel
theorem d_prog_102_method_5_60 : decode prog_102_method_5_code 60 = .ok (.invokevirtual 92, 3) := by decide +kernel
theorem d_prog_102_method_5_63 : decode prog_102_method_5_code 63 = .ok (.iload_n 2, 1) := by decide +kernel
theorem d_prog_102_method_5_64 : decode prog_102_method_5_code 64 = .ok (.ifCond .eq 8, 3) := by decide +kernel
theorem d_prog_102_method_5_72 : decode prog_102_method_5_code 72 = .ok (.aload_n 0, 1) := by decide +kernel
theorem d_prog_102_method_5_73 : decode prog_102_method_5_code 73 = .ok (.dup, 1) := by decide +kernel
theorem d_prog_102_method_5_74 : decode prog_102_method_5_code 74 = .ok (.getfield 86, 3) := by decide +kernel
theorem d_prog_102_method_5_77 : decode prog_102_method_5_code 77 = .ok (.iconst 1, 1) := by decide +kernel
theorem d_prog_102_method_5_78 : decode prog_102_method_5_code 78 = .ok (.iadd, 1) := by decide +kernel
theorem d_prog_102_method_5_79 : decode prog_102_method_5_code 79 = .ok (.putfield 86, 3) := by decide +kernel
theorem d_prog_102_method_5_82 : decode prog_102_method_5_code 82 = .ok (.return_, 1) := by decide +kernel
theorem d_prog_102_method_5_14 : decode prog_102_method_5_code 14 = .ok (.aload_n 0, 1) := by decide +kernel
theorem d_prog_102_method_5_15 : decode prog_102_method_5_code 15 = .ok (.getfield 45, 3) := by decide +kernel
theorem d_prog_102_method_5_18 : decode prog_102_method_5_code 18 = .ok (.iload_n 1, 1) := by decide +kernel
theorem d_prog_102_method_5_19 : decode prog_102_method_5_code 19 = .ok (.aaload, 1) := by decide +kernel
theorem d_prog_102_method_5_20 : decode prog_102_method_5_code 20 = .ok (.ifnonnull 7, 3) := by decide +kernel
theorem d_prog_102_method_5_43 : decode prog_102_method_5_code 43 = .ok (.iload_n 2, 1) := by decide +kernel
theorem d_prog_102_method_5_44 : decode prog_102_method_5_code 44 = .ok (.ifCond .ne 12, 3) := by decide +kernel
theorem d_prog_102_method_5_47 : decode prog_102_method_5_code 47 = .ok (.aload_n 0, 1) := by decide +kernel
theorem d_prog_102_method_5_48 : decode prog_102_method_5_code 48 = .ok (.getfield 45, 3) := by decide +kernel
theorem d_prog_102_method_5_51 : decode prog_102_method_5_code 51 = .ok (.iload_n 1, 1) := by decide +kernel
theorem d_prog_102_method_5_52 : decode prog_102_method_5_code 52 = .ok (.aaload, 1) := by decide +kernel
theorem d_prog_102_method_5_53 : decode prog_102_method_5_code 53 = .ok (.goto 7, 3) := by decide +kernel
theorem d_prog_102_method_5_23 : decode prog_102_method_5_code 23 = .ok (.iconst 1, 1) := by decide +kernel
theorem d_prog_102_method_5_24 : decode prog_102_method_5_code 24 = .ok (.goto 4, 3) := by decide +kernel
theorem d_prog_102_method_5_33 : decode prog_102_method_5_code 33 = .ok (.aload_n 0, 1) := by decide +kernel
theorem d_prog_102_method_5_34 : decode prog_102_method_5_code 34 = .ok (.iload_n 1, 1) := by decide +kernel
theorem d_prog_102_method_5_35 : decode prog_102_method_5_code 35 = .ok (.invokevirtual 88, 3) := by decide +kernel
theorem d_prog_102_method_5_67 : decode prog_102_method_5_code 67 = .ok (.aload_n 0, 1) := by decide +kernel
theorem d_prog_102_method_5_68 : decode prog_102_method_5_code 68 = .ok (.iload_n 1, 1) := by decide +kernel
theorem d_prog_102_method_5_69 : decode prog_102_method_5_code 69 = .ok (.invokevirtual 88, 3) := by decide +kernel
theorem d_prog_102_method_1_39 : decode prog_102_method_1_code 39 = .ok (.iload 8, 2) := by decide +kernel
theorem d_prog_102_method_1_41 : decode prog_102_method_1_code 41 = .ok (.iload 7, 2) := by decide +kernel
theorem d_prog_102_method_1_43 : decode prog_102_method_1_code 43 = .ok (.if_icmp .ge 43, 3) := by decide +kernel
theorem d_prog_102_method_1_46 : decode prog_102_method_1_code 46 = .ok (.aload 6, 2) := by decide +kernel
theorem d_prog_102_method_1_48 : decode prog_102_method_1_code 48 = .ok (.iload 8, 2) := by decide +kernel
theorem d_prog_102_method_1_50 : decode prog_102_method_1_code 50 = .ok (.iaload, 1) := by decide +kernel
theorem d_prog_102_method_1_51 : decode prog_102_method_1_code 51 = .ok (.istore 9, 2) := by decide +kernel
theorem d_prog_102_method_1_53 : decode prog_102_method_1_code 53 = .ok (.iload 5, 2) := by decide +kernel
theorem d_prog_102_method_1_55 : decode prog_102_method_1_code 55 = .ok (.ifCond .eq 15, 3) := by decide +kernel
theorem d_prog_102_method_1_70 : decode prog_102_method_1_code 70 = .ok (.aload 4, 2) := by decide +kernel
theorem d_prog_102_method_1_72 : decode prog_102_method_1_code 72 = .ok (.iload 5, 2) := by decide +kernel
theorem d_prog_102_method_1_74 : decode prog_102_method_1_code 74 = .ok (.iinc 5 1, 3) := by decide +kernel
theorem d_prog_102_method_1_77 : decode prog_102_method_1_code 77 = .ok (.iload 9, 2) := by decide +kernel
theorem d_prog_102_method_1_79 : decode prog_102_method_1_code 79 = .ok (.iastore, 1) := by decide +kernel
theorem d_prog_102_method_1_80 : decode prog_102_method_1_code 80 = .ok (.iinc 8 1, 3) := by decide +kernel
theorem d_prog_102_method_1_83 : decode prog_102_method_1_code 83 = .ok (.goto (-44), 3) := by decide +kernel
theorem d_prog_102_method_1_58 : decode prog_102_method_1_code 58 = .ok (.aload 4, 2) := by decide +kernel
theorem d_prog_102_method_1_60 : decode prog_102_method_1_code 60 = .ok (.iload 5, 2) := by decide +kernel
theorem d_prog_102_method_1_62 : decode prog_102_method_1_code 62 = .ok (.iconst 1, 1) := by decide +kernel
theorem d_prog_102_method_1_63 : decode prog_102_method_1_code 63 = .ok (.isub, 1) := by decide +kernel
theorem d_prog_102_method_1_64 : decode prog_102_method_1_code 64 = .ok (.iaload, 1) := by decide +kernel
theorem d_prog_102_method_1_65 : decode prog_102_method_1_code 65 = .ok (.iload 9, 2) := by decide +kernel
theorem d_prog_102_method_1_67 : decode prog_102_method_1_code 67 = .ok (.if_icmp .eq 13, 3) := by decide +kernel
theorem d_prog_102_method_1_119 : decode prog_102_method_1_code 119 = .ok (.iload 7, 2) := by decide +kernel
theorem d_prog_102_method_1_121 : decode prog_102_method_1_code 121 = .ok (.aload_n 2, 1) := by decide +kernel
theorem d_prog_102_method_1_122 : decode prog_102_method_1_code 122 = .ok (.arraylength, 1) := by decide +kernel
theorem d_prog_102_method_1_123 : decode prog_102_method_1_code 123 = .ok (.if_icmp .ge 42, 3) := by decide +kernel
theorem d_prog_102_method_1_126 : decode prog_102_method_1_code 126 = .ok (.aload 6, 2) := by decide +kernel
theorem d_prog_102_method_1_128 : decode prog_102_method_1_code 128 = .ok (.iload 7, 2) := by decide +kernel
theorem d_prog_102_method_1_130 : decode prog_102_method_1_code 130 = .ok (.aload 4, 2) := by decide +kernel
theorem d_prog_102_method_1_132 : decode prog_102_method_1_code 132 = .ok (.iconst 0, 1) := by decide +kernel
theorem d_prog_102_method_1_133 : decode prog_102_method_1_code 133 = .ok (.iload 5, 2) := by decide +kernel
theorem d_prog_102_method_1_135 : decode prog_102_method_1_code 135 = .ok (.aload_n 2, 1) := by decide +kernel
theorem d_prog_102_method_1_136 : decode prog_102_method_1_code 136 = .ok (.iload 7, 2) := by decide +kernel
theorem d_prog_102_method_1_138 : decode prog_102_method_1_code 138 = .ok (.iaload, 1) := by decide +kernel
theorem d_prog_102_method_1_139 : decode prog_102_method_1_code 139 = .ok (.invokestatic 35, 3) := by decide +kernel
theorem d_prog_102_method_1_142 : decode prog_102_method_1_code 142 = .ok (.iastore, 1) := by decide +kernel
theorem d_prog_102_method_1_143 : decode prog_102_method_1_code 143 = .ok (.aload_n 0, 1) := by decide +kernel
theorem d_prog_102_method_1_144 : decode prog_102_method_1_code 144 = .ok (.getfield 29, 3) := by decide +kernel
theorem d_prog_102_method_1_147 : decode prog_102_method_1_code 147 = .ok (.aload 6, 2) := by decide +kernel
theorem d_prog_102_method_1_149 : decode prog_102_method_1_code 149 = .ok (.iload 7, 2) := by decide +kernel
theorem d_prog_102_method_1_151 : decode prog_102_method_1_code 151 = .ok (.iaload, 1) := by decide +kernel
theorem d_prog_102_method_1_152 : decode prog_102_method_1_code 152 = .ok (.iconst 1, 1) := by decide +kernel
theorem d_prog_102_method_1_153 : decode prog_102_method_1_code 153 = .ok (.iadd, 1) := by decide +kernel
theorem d_prog_102_method_1_154 : decode prog_102_method_1_code 154 = .ok (.dup2, 1) := by decide +kernel
theorem d_prog_102_method_1_155 : decode prog_102_method_1_code 155 = .ok (.iaload, 1) := by decide +kernel
theorem d_prog_102_method_1_156 : decode prog_102_method_1_code 156 = .ok (.iconst 1, 1) := by decide +kernel
theorem d_prog_102_method_1_157 : decode prog_102_method_1_code 157 = .ok (.iadd, 1) := by decide +kernel
theorem d_prog_102_method_1_158 : decode prog_102_method_1_code 158 = .ok (.iastore, 1) := by decide +kernel
theorem d_prog_102_method_1_159 : decode prog_102_method_1_code 159 = .ok (.iinc 7 1, 3) := by decide +kernel
theorem d_prog_102_method_1_162 : decode prog_102_method_1_code 162 = .ok (.goto (-43), 3) := by decide +kernel
theorem d_prog_102_method_1_165 : decode prog_102_method_1_code 165 = .ok (.iconst 0, 1) := by decide +kernel
theorem d_prog_102_method_1_166 : decode prog_102_method_1_code 166 = .ok (.istore 7, 2) := by decide +kernel
theorem d_prog_102_method_1_168 : decode prog_102_method_1_code 168 = .ok (.iload 7, 2) := by decide +kernel
theorem d_prog_102_method_1_170 : decode prog_102_method_1_code 170 = .ok (.iload 5, 2) := by decide +kernel
theorem d_prog_102_method_1_172 : decode prog_102_method_1_code 172 = .ok (.if_icmp .ge 28, 3) := by decide +kernel
theorem d_prog_102_method_1_175 : decode prog_102_method_1_code 175 = .ok (.aload_n 0, 1) := by decide +kernel
theorem d_prog_102_method_1_176 : decode prog_102_method_1_code 176 = .ok (.getfield 29, 3) := by decide +kernel
theorem d_prog_102_method_1_179 : decode prog_102_method_1_code 179 = .ok (.iload 7, 2) := by decide +kernel
theorem d_prog_102_method_1_181 : decode prog_102_method_1_code 181 = .ok (.iconst 1, 1) := by decide +kernel
theorem d_prog_102_method_1_182 : decode prog_102_method_1_code 182 = .ok (.iadd, 1) := by decide +kernel
theorem d_prog_102_method_1_183 : decode prog_102_method_1_code 183 = .ok (.dup2, 1) := by decide +kernel
theorem d_prog_102_method_1_184 : decode prog_102_method_1_code 184 = .ok (.iaload, 1) := by decide +kernel
theorem d_prog_102_method_1_185 : decode prog_102_method_1_code 185 = .ok (.aload_n 0, 1) := by decide +kernel
theorem d_prog_102_method_1_186 : decode prog_102_method_1_code 186 = .ok (.getfield 29, 3) := by decide +kernel
theorem d_prog_102_method_1_189 : decode prog_102_method_1_code 189 = .ok (.iload 7, 2) := by decide +kernel
theorem d_prog_102_method_1_191 : decode prog_102_method_1_code 191 = .ok (.iaload, 1) := by decide +kernel
theorem d_prog_102_method_1_192 : decode prog_102_method_1_code 192 = .ok (.iadd, 1) := by decide +kernel
theorem d_prog_102_method_1_193 : decode prog_102_method_1_code 193 = .ok (.iastore, 1) := by decide +kernel
theorem d_prog_102_method_1_194 : decode prog_102_method_1_code 194 = .ok (.iinc 7 1, 3) := by decide +kernel
theorem d_prog_102_method_1_197 : decode prog_102_method_1_code 197 = .ok (.goto (-29), 3) := by decide +kernel
theorem d_prog_102_method_1_214 : decode prog_102_method_1_code 214 = .ok (.iload 8, 2) := by decide +kernel
theorem d_prog_102_method_1_216 : decode prog_102_method_1_code 216 = .ok (.aload_n 2, 1) := by decide +kernel
theorem d_prog_102_method_1_217 : decode prog_102_method_1_code 217 = .ok (.arraylength, 1) := by decide +kernel
theorem d_prog_102_method_1_218 : decode prog_102_method_1_code 218 = .ok (.if_icmp .ge 29, 3) := by decide +kernel
theorem d_prog_102_method_1_221 : decode prog_102_method_1_code 221 = .ok (.aload_n 0, 1) := by decide +kernel
theorem d_prog_102_method_1_222 : decode prog_102_method_1_code 222 = .ok (.getfield 32, 3) := by decide +kernel
theorem d_prog_102_method_1_225 : decode prog_102_method_1_code 225 = .ok (.aload 7, 2) := by decide +kernel
theorem d_prog_102_method_1_227 : decode prog_102_method_1_code 227 = .ok (.aload 6, 2) := by decide +kernel
theorem d_prog_102_method_1_229 : decode prog_102_method_1_code 229 = .ok (.iload 8, 2) := by decide +kernel
theorem d_prog_102_method_1_231 : decode prog_102_method_1_code 231 = .ok (.iaload, 1) := by decide +kernel
theorem d_prog_102_method_1_232 : decode prog_102_method_1_code 232 = .ok (.dup2, 1) := by decide +kernel
theorem d_prog_102_method_1_233 : decode prog_102_method_1_code 233 = .ok (.iaload, 1) := by decide +kernel
theorem d_prog_102_method_1_234 : decode prog_102_method_1_code 234 = .ok (.dup_x2, 1) := by decide +kernel
theorem d_prog_102_method_1_235 : decode prog_102_method_1_code 235 = .ok (.iconst 1, 1) := by decide +kernel
theorem d_prog_102_method_1_236 : decode prog_102_method_1_code 236 = .ok (.iadd, 1) := by decide +kernel
theorem d_prog_102_method_1_237 : decode prog_102_method_1_code 237 = .ok (.iastore, 1) := by decide +kernel
theorem d_prog_102_method_1_238 : decode prog_102_method_1_code 238 = .ok (.iload 8, 2) := by decide +kernel
theorem d_prog_102_method_1_240 : decode prog_102_method_1_code 240 = .ok (.iastore, 1) := by decide +kernel
theorem d_prog_102_method_1_241 : decode prog_102_method_1_code 241 = .ok (.iinc 8 1, 3) := by decide +kernel
theorem d_prog_102_method_1_244 : decode prog_102_method_1_code 244 = .ok (.goto (-30), 3) := by decide +kernel
theorem d_prog_102_method_1_256 : decode prog_102_method_1_code 256 = .ok (.iconst 0, 1) := by decide +kernel
theorem d_prog_102_method_1_257 : decode prog_102_method_1_code 257 = .ok (.istore 8, 2) := by decide +kernel
theorem d_prog_102_method_1_259 : decode prog_102_method_1_code 259 = .ok (.iload 8, 2) := by decide +kernel
theorem d_prog_102_method_1_261 : decode prog_102_method_1_code 261 = .ok (.iload 5, 2) := by decide +kernel
theorem d_prog_102_method_1_263 : decode prog_102_method_1_code 263 = .ok (.if_icmp .ge 99, 3) := by decide +kernel
theorem d_prog_102_method_1_266 : decode prog_102_method_1_code 266 = .ok (.aload_n 0, 1) := by decide +kernel
theorem d_prog_102_method_1_267 : decode prog_102_method_1_code 267 = .ok (.getfield 29, 3) := by decide +kernel
theorem d_prog_102_method_1_270 : decode prog_102_method_1_code 270 = .ok (.iload 8, 2) := by decide +kernel
theorem d_prog_102_method_1_272 : decode prog_102_method_1_code 272 = .ok (.iconst 1, 1) := by decide +kernel
theorem d_prog_102_method_1_273 : decode prog_102_method_1_code 273 = .ok (.iadd, 1) := by decide +kernel
theorem d_prog_102_method_1_274 : decode prog_102_method_1_code 274 = .ok (.iaload, 1) := by decide +kernel
theorem d_prog_102_method_1_275 : decode prog_102_method_1_code 275 = .ok (.aload_n 0, 1) := by decide +kernel
theorem d_prog_102_method_1_276 : decode prog_102_method_1_code 276 = .ok (.getfield 29, 3) := by decide +kernel
theorem d_prog_102_method_1_279 : decode prog_102_method_1_code 279 = .ok (.iload 8, 2) := by decide +kernel
theorem d_prog_102_method_1_281 : decode prog_102_method_1_code 281 = .ok (.iaload, 1) := by decide +kernel
theorem d_prog_102_method_1_282 : decode prog_102_method_1_code 282 = .ok (.isub, 1) := by decide +kernel
theorem d_prog_102_method_1_283 : decode prog_102_method_1_code 283 = .ok (.iload_n 3, 1) := by decide +kernel
theorem d_prog_102_method_1_284 : decode prog_102_method_1_code 284 = .ok (.if_icmp .lt 72, 3) := by decide +kernel
theorem d_prog_102_method_1_287 : decode prog_102_method_1_code 287 = .ok (.aload_n 0, 1) := by decide +kernel
theorem d_prog_102_method_1_288 : decode prog_102_method_1_code 288 = .ok (.getfield 45, 3) := by decide +kernel
theorem d_prog_102_method_1_291 : decode prog_102_method_1_code 291 = .ok (.iload 8, 2) := by decide +kernel
theorem d_prog_102_method_1_293 : decode prog_102_method_1_code 293 = .ok (.iload_n 3, 1) := by decide +kernel
theorem d_prog_102_method_1_294 : decode prog_102_method_1_code 294 = .ok (.newarray .long, 2) := by decide +kernel
theorem d_prog_102_method_1_296 : decode prog_102_method_1_code 296 = .ok (.aastore, 1) := by decide +kernel
theorem d_prog_102_method_1_297 : decode prog_102_method_1_code 297 = .ok (.aload_n 0, 1) := by decide +kernel
theorem d_prog_102_method_1_298 : decode prog_102_method_1_code 298 = .ok (.getfield 29, 3) := by decide +kernel
theorem d_prog_102_method_1_301 : decode prog_102_method_1_code 301 = .ok (.iload 8, 2) := by decide +kernel
theorem d_prog_102_method_1_303 : decode prog_102_method_1_code 303 = .ok (.iaload, 1) := by decide +kernel
theorem d_prog_102_method_1_304 : decode prog_102_method_1_code 304 = .ok (.istore 9, 2) := by decide +kernel
theorem d_prog_102_method_1_306 : decode prog_102_method_1_code 306 = .ok (.iload 9, 2) := by decide +kernel
theorem d_prog_102_method_1_308 : decode prog_102_method_1_code 308 = .ok (.aload_n 0, 1) := by decide +kernel
theorem d_prog_102_method_1_309 : decode prog_102_method_1_code 309 = .ok (.getfield 29, 3) := by decide +kernel
theorem d_prog_102_method_1_312 : decode prog_102_method_1_code 312 = .ok (.iload 8, 2) := by decide +kernel
theorem d_prog_102_method_1_314 : decode prog_102_method_1_code 314 = .ok (.iconst 1, 1) := by decide +kernel
theorem d_prog_102_method_1_315 : decode prog_102_method_1_code 315 = .ok (.iadd, 1) := by decide +kernel
theorem d_prog_102_method_1_316 : decode prog_102_method_1_code 316 = .ok (.iaload, 1) := by decide +kernel
theorem d_prog_102_method_1_317 : decode prog_102_method_1_code 317 = .ok (.if_icmp .ge 39, 3) := by decide +kernel
theorem d_prog_102_method_1_320 : decode prog_102_method_1_code 320 = .ok (.aload_n 0, 1) := by decide +kernel
theorem d_prog_102_method_1_321 : decode prog_102_method_1_code 321 = .ok (.getfield 45, 3) := by decide +kernel
theorem d_prog_102_method_1_324 : decode prog_102_method_1_code 324 = .ok (.iload 8, 2) := by decide +kernel
theorem d_prog_102_method_1_326 : decode prog_102_method_1_code 326 = .ok (.aaload, 1) := by decide +kernel
theorem d_prog_102_method_1_327 : decode prog_102_method_1_code 327 = .ok (.aload_n 0, 1) := by decide +kernel
theorem d_prog_102_method_1_328 : decode prog_102_method_1_code 328 = .ok (.getfield 32, 3) := by decide +kernel
theorem d_prog_102_method_1_331 : decode prog_102_method_1_code 331 = .ok (.iload 9, 2) := by decide +kernel
theorem d_prog_102_method_1_333 : decode prog_102_method_1_code 333 = .ok (.iaload, 1) := by decide +kernel
theorem d_prog_102_method_1_334 : decode prog_102_method_1_code 334 = .ok (.bipush 6, 2) := by decide +kernel
theorem d_prog_102_method_1_336 : decode prog_102_method_1_code 336 = .ok (.iushr, 1) := by decide +kernel
theorem d_prog_102_method_1_337 : decode prog_102_method_1_code 337 = .ok (.dup2, 1) := by decide +kernel
theorem d_prog_102_method_1_338 : decode prog_102_method_1_code 338 = .ok (.laload, 1) := by decide +kernel
theorem d_prog_102_method_1_339 : decode prog_102_method_1_code 339 = .ok (.lconst 1, 1) := by decide +kernel
theorem d_prog_102_method_1_340 : decode prog_102_method_1_code 340 = .ok (.aload_n 0, 1) := by decide +kernel
theorem d_prog_102_method_1_341 : decode prog_102_method_1_code 341 = .ok (.getfield 32, 3) := by decide +kernel
theorem d_prog_102_method_1_344 : decode prog_102_method_1_code 344 = .ok (.iload 9, 2) := by decide +kernel
theorem d_prog_102_method_1_346 : decode prog_102_method_1_code 346 = .ok (.iaload, 1) := by decide +kernel
theorem d_prog_102_method_1_347 : decode prog_102_method_1_code 347 = .ok (.lshl, 1) := by decide +kernel
theorem d_prog_102_method_1_348 : decode prog_102_method_1_code 348 = .ok (.lor, 1) := by decide +kernel
theorem d_prog_102_method_1_349 : decode prog_102_method_1_code 349 = .ok (.lastore, 1) := by decide +kernel
theorem d_prog_102_method_1_350 : decode prog_102_method_1_code 350 = .ok (.iinc 9 1, 3) := by decide +kernel
theorem d_prog_102_method_1_353 : decode prog_102_method_1_code 353 = .ok (.goto (-47), 3) := by decide +kernel
theorem d_prog_102_method_1_356 : decode prog_102_method_1_code 356 = .ok (.iinc 8 1, 3) := by decide +kernel
theorem d_prog_102_method_1_359 : decode prog_102_method_1_code 359 = .ok (.goto (-100), 3) := by decide +kernel
theorem d_prog_102_method_1_0 : decode prog_102_method_1_code 0 = .ok (.aload_n 0, 1) := by decide +kernel
theorem d_prog_102_method_1_1 : decode prog_102_method_1_code 1 = .ok (.invokespecial 1, 3) := by decide +kernel
theorem d_prog_102_method_1_4 : decode prog_102_method_1_code 4 = .ok (.aload_n 2, 1) := by decide +kernel
theorem d_prog_102_method_1_5 : decode prog_102_method_1_code 5 = .ok (.arraylength, 1) := by decide +kernel
theorem d_prog_102_method_1_6 : decode prog_102_method_1_code 6 = .ok (.invokestatic 7, 3) := by decide +kernel
theorem d_prog_102_method_1_9 : decode prog_102_method_1_code 9 = .ok (.istore_n 3, 1) := by decide +kernel
theorem d_prog_102_method_1_10 : decode prog_102_method_1_code 10 = .ok (.aload_n 2, 1) := by decide +kernel
theorem d_prog_102_method_1_11 : decode prog_102_method_1_code 11 = .ok (.invokevirtual 13, 3) := by decide +kernel
theorem d_prog_102_method_1_14 : decode prog_102_method_1_code 14 = .ok (.checkcast 14, 3) := by decide +kernel
theorem d_prog_102_method_1_17 : decode prog_102_method_1_code 17 = .ok (.astore 4, 2) := by decide +kernel
theorem d_prog_102_method_1_19 : decode prog_102_method_1_code 19 = .ok (.aload 4, 2) := by decide +kernel
theorem d_prog_102_method_1_21 : decode prog_102_method_1_code 21 = .ok (.invokestatic 19, 3) := by decide +kernel
theorem d_prog_102_method_1_24 : decode prog_102_method_1_code 24 = .ok (.iconst 0, 1) := by decide +kernel
theorem d_prog_102_method_1_25 : decode prog_102_method_1_code 25 = .ok (.istore 5, 2) := by decide +kernel
theorem d_prog_102_method_1_27 : decode prog_102_method_1_code 27 = .ok (.aload 4, 2) := by decide +kernel
theorem d_prog_102_method_1_29 : decode prog_102_method_1_code 29 = .ok (.astore 6, 2) := by decide +kernel
theorem d_prog_102_method_1_31 : decode prog_102_method_1_code 31 = .ok (.aload 6, 2) := by decide +kernel
theorem d_prog_102_method_1_33 : decode prog_102_method_1_code 33 = .ok (.arraylength, 1) := by decide +kernel
theorem d_prog_102_method_1_34 : decode prog_102_method_1_code 34 = .ok (.istore 7, 2) := by decide +kernel
theorem d_prog_102_method_1_36 : decode prog_102_method_1_code 36 = .ok (.iconst 0, 1) := by decide +kernel
theorem d_prog_102_method_1_37 : decode prog_102_method_1_code 37 = .ok (.istore 8, 2) := by decide +kernel
theorem d_prog_102_method_1_86 : decode prog_102_method_1_code 86 = .ok (.aload_n 0, 1) := by decide +kernel
theorem d_prog_102_method_1_87 : decode prog_102_method_1_code 87 = .ok (.aload_n 2, 1) := by decide +kernel
theorem d_prog_102_method_1_88 : decode prog_102_method_1_code 88 = .ok (.arraylength, 1) := by decide +kernel
theorem d_prog_102_method_1_89 : decode prog_102_method_1_code 89 = .ok (.putfield 25, 3) := by decide +kernel
theorem d_prog_102_method_1_92 : decode prog_102_method_1_code 92 = .ok (.aload_n 0, 1) := by decide +kernel
theorem d_prog_102_method_1_93 : decode prog_102_method_1_code 93 = .ok (.iload 5, 2) := by decide +kernel
theorem d_prog_102_method_1_95 : decode prog_102_method_1_code 95 = .ok (.iconst 1, 1) := by decide +kernel
theorem d_prog_102_method_1_96 : decode prog_102_method_1_code 96 = .ok (.iadd, 1) := by decide +kernel
theorem d_prog_102_method_1_97 : decode prog_102_method_1_code 97 = .ok (.newarray .int, 2) := by decide +kernel
theorem d_prog_102_method_1_99 : decode prog_102_method_1_code 99 = .ok (.putfield 29, 3) := by decide +kernel
theorem d_prog_102_method_1_102 : decode prog_102_method_1_code 102 = .ok (.aload_n 0, 1) := by decide +kernel
theorem d_prog_102_method_1_103 : decode prog_102_method_1_code 103 = .ok (.aload_n 2, 1) := by decide +kernel
theorem d_prog_102_method_1_104 : decode prog_102_method_1_code 104 = .ok (.arraylength, 1) := by decide +kernel
theorem d_prog_102_method_1_105 : decode prog_102_method_1_code 105 = .ok (.newarray .int, 2) := by decide +kernel
theorem d_prog_102_method_1_107 : decode prog_102_method_1_code 107 = .ok (.putfield 32, 3) := by decide +kernel
theorem d_prog_102_method_1_110 : decode prog_102_method_1_code 110 = .ok (.aload_n 2, 1) := by decide +kernel
theorem d_prog_102_method_1_111 : decode prog_102_method_1_code 111 = .ok (.arraylength, 1) := by decide +kernel
theorem d_prog_102_method_1_112 : decode prog_102_method_1_code 112 = .ok (.newarray .int, 2) := by decide +kernel
theorem d_prog_102_method_1_114 : decode prog_102_method_1_code 114 = .ok (.astore 6, 2) := by decide +kernel
theorem d_prog_102_method_1_116 : decode prog_102_method_1_code 116 = .ok (.iconst 0, 1) := by decide +kernel
theorem d_prog_102_method_1_117 : decode prog_102_method_1_code 117 = .ok (.istore 7, 2) := by decide +kernel
theorem d_prog_102_method_1_200 : decode prog_102_method_1_code 200 = .ok (.aload_n 0, 1) := by decide +kernel
theorem d_prog_102_method_1_201 : decode prog_102_method_1_code 201 = .ok (.getfield 29, 3) := by decide +kernel
theorem d_prog_102_method_1_204 : decode prog_102_method_1_code 204 = .ok (.iload 5, 2) := by decide +kernel
theorem d_prog_102_method_1_206 : decode prog_102_method_1_code 206 = .ok (.invokestatic 39, 3) := by decide +kernel
theorem d_prog_102_method_1_209 : decode prog_102_method_1_code 209 = .ok (.astore 7, 2) := by decide +kernel
theorem d_prog_102_method_1_211 : decode prog_102_method_1_code 211 = .ok (.iconst 0, 1) := by decide +kernel
theorem d_prog_102_method_1_212 : decode prog_102_method_1_code 212 = .ok (.istore 8, 2) := by decide +kernel
theorem d_prog_102_method_1_247 : decode prog_102_method_1_code 247 = .ok (.aload_n 0, 1) := by decide +kernel
theorem d_prog_102_method_1_248 : decode prog_102_method_1_code 248 = .ok (.iload 5, 2) := by decide +kernel
theorem d_prog_102_method_1_250 : decode prog_102_method_1_code 250 = .ok (.anewarray 43, 3) := by decide +kernel
theorem d_prog_102_method_1_253 : decode prog_102_method_1_code 253 = .ok (.putfield 45, 3) := by decide +kernel
theorem d_prog_102_method_1_362 : decode prog_102_method_1_code 362 = .ok (.aload_n 0, 1) := by decide +kernel
theorem d_prog_102_method_1_363 : decode prog_102_method_1_code 363 = .ok (.aload_n 1, 1) := by decide +kernel
theorem d_prog_102_method_1_364 : decode prog_102_method_1_code 364 = .ok (.arraylength, 1) := by decide +kernel
theorem d_prog_102_method_1_365 : decode prog_102_method_1_code 365 = .ok (.newarray .int, 2) := by decide +kernel
theorem d_prog_102_method_1_367 : decode prog_102_method_1_code 367 = .ok (.putfield 49, 3) := by decide +kernel
theorem d_prog_102_method_1_370 : decode prog_102_method_1_code 370 = .ok (.iconst 0, 1) := by decide +kernel
theorem d_prog_102_method_1_371 : decode prog_102_method_1_code 371 = .ok (.istore 8, 2) := by decide +kernel
theorem d_prog_102_method_1_373 : decode prog_102_method_1_code 373 = .ok (.iload 8, 2) := by decide +kernel
theorem d_prog_102_method_1_375 : decode prog_102_method_1_code 375 = .ok (.aload_n 1, 1) := by decide +kernel
theorem d_prog_102_method_1_376 : decode prog_102_method_1_code 376 = .ok (.arraylength, 1) := by decide +kernel
theorem d_prog_102_method_1_377 : decode prog_102_method_1_code 377 = .ok (.if_icmp .ge 32, 3) := by decide +kernel
theorem d_prog_102_method_1_380 : decode prog_102_method_1_code 380 = .ok (.aload_n 0, 1) := by decide +kernel
theorem d_prog_102_method_1_381 : decode prog_102_method_1_code 381 = .ok (.getfield 49, 3) := by decide +kernel
theorem d_prog_102_method_1_384 : decode prog_102_method_1_code 384 = .ok (.iload 8, 2) := by decide +kernel
theorem d_prog_102_method_1_386 : decode prog_102_method_1_code 386 = .ok (.iconst (-1), 1) := by decide +kernel
theorem d_prog_102_method_1_387 : decode prog_102_method_1_code 387 = .ok (.aload 4, 2) := by decide +kernel
theorem d_prog_102_method_1_389 : decode prog_102_method_1_code 389 = .ok (.iconst 0, 1) := by decide +kernel
theorem d_prog_102_method_1_390 : decode prog_102_method_1_code 390 = .ok (.iload 5, 2) := by decide +kernel
theorem d_prog_102_method_1_392 : decode prog_102_method_1_code 392 = .ok (.aload_n 1, 1) := by decide +kernel
theorem d_prog_102_method_1_393 : decode prog_102_method_1_code 393 = .ok (.iload 8, 2) := by decide +kernel
theorem d_prog_102_method_1_395 : decode prog_102_method_1_code 395 = .ok (.iaload, 1) := by decide +kernel
theorem d_prog_102_method_1_396 : decode prog_102_method_1_code 396 = .ok (.invokestatic 35, 3) := by decide +kernel
theorem d_prog_102_method_1_399 : decode prog_102_method_1_code 399 = .ok (.invokestatic 52, 3) := by decide +kernel
theorem d_prog_102_method_1_402 : decode prog_102_method_1_code 402 = .ok (.iastore, 1) := by decide +kernel
theorem d_prog_102_method_1_403 : decode prog_102_method_1_code 403 = .ok (.iinc 8 1, 3) := by decide +kernel
theorem d_prog_102_method_1_406 : decode prog_102_method_1_code 406 = .ok (.goto (-33), 3) := by decide +kernel
theorem d_prog_102_method_1_409 : decode prog_102_method_1_code 409 = .ok (.aload_n 0, 1) := by decide +kernel
theorem d_prog_102_method_1_410 : decode prog_102_method_1_code 410 = .ok (.iload_n 3, 1) := by decide +kernel
theorem d_prog_102_method_1_411 : decode prog_102_method_1_code 411 = .ok (.newarray .long, 2) := by decide +kernel
theorem d_prog_102_method_1_413 : decode prog_102_method_1_code 413 = .ok (.putfield 58, 3) := by decide +kernel
theorem d_prog_102_method_1_416 : decode prog_102_method_1_code 416 = .ok (.aload_n 0, 1) := by decide +kernel
theorem d_prog_102_method_1_417 : decode prog_102_method_1_code 417 = .ok (.iload_n 3, 1) := by decide +kernel
theorem d_prog_102_method_1_418 : decode prog_102_method_1_code 418 = .ok (.newarray .long, 2) := by decide +kernel
theorem d_prog_102_method_1_420 : decode prog_102_method_1_code 420 = .ok (.putfield 61, 3) := by decide +kernel
theorem d_prog_102_method_1_423 : decode prog_102_method_1_code 423 = .ok (.aload_n 0, 1) := by decide +kernel
theorem d_prog_102_method_1_424 : decode prog_102_method_1_code 424 = .ok (.iload_n 3, 1) := by decide +kernel
theorem d_prog_102_method_1_425 : decode prog_102_method_1_code 425 = .ok (.newarray .long, 2) := by decide +kernel
theorem d_prog_102_method_1_427 : decode prog_102_method_1_code 427 = .ok (.putfield 64, 3) := by decide +kernel
theorem d_prog_102_method_1_430 : decode prog_102_method_1_code 430 = .ok (.aload_n 0, 1) := by decide +kernel
theorem d_prog_102_method_1_431 : decode prog_102_method_1_code 431 = .ok (.getfield 61, 3) := by decide +kernel
theorem d_prog_102_method_1_434 : decode prog_102_method_1_code 434 = .ok (.ldc2_w 67, 3) := by decide +kernel
theorem d_prog_102_method_1_437 : decode prog_102_method_1_code 437 = .ok (.invokestatic 69, 3) := by decide +kernel
theorem d_prog_102_method_1_440 : decode prog_102_method_1_code 440 = .ok (.return_, 1) := by decide +kernel
theorem pd0 : parseMethodDescriptor "(III)V" = some ⟨[.int, .int, .int], none⟩ := by decide +kernel
theorem pd1 : parseMethodDescriptor "([IIII)I" = some ⟨[(.array .int), .int, .int, .int], some .int⟩ := by decide +kernel
theorem pd2 : parseMethodDescriptor "(II)I" = some ⟨[.int, .int], some .int⟩ := by decide +kernel
theorem pd3 : parseMethodDescriptor "([IIII)V" = some ⟨[(.array .int), .int, .int, .int], none⟩ := by decide +kernel
theorem pd4 : parseMethodDescriptor "(Ljava/util/DualPivotQuicksort$Sorter;[III)Z" = some ⟨[(.object "java/util/DualPivotQuicksort$Sorter"), (.array .int), .int, .int], some .boolean⟩ := by decide +kernel
theorem pd5 : parseMethodDescriptor "(Ljava/util/DualPivotQuicksort$Sorter;[IIII)V" = some ⟨[(.object "java/util/DualPivotQuicksort$Sorter"), (.array .int), .int, .int, .int], none⟩ := by decide +kernel
theorem pd6 : parseMethodDescriptor "([III)V" = some ⟨[(.array .int), .int, .int], none⟩ := by decide +kernel
theorem pd7 : parseMethodDescriptor "([J)V" = some ⟨[(.array .long)], none⟩ := by decide +kernel
theorem pd8 : parseMethodDescriptor "(I)V" = some ⟨[.int], none⟩ := by decide +kernel
theorem pd9 : parseMethodDescriptor "(I)I" = some ⟨[.int], some .int⟩ := by decide +kernel
theorem pd10 : parseMethodDescriptor "([I)V" = some ⟨[(.array .int)], none⟩ := by decide +kernel
theorem pd11 : parseMethodDescriptor "([II)[I" = some ⟨[(.array .int), .int], some (.array .int)⟩ := by decide +kernel
theorem pd12 : parseMethodDescriptor "([JJ)V" = some ⟨[(.array .long), .long], none⟩ := by decide +kernel
theorem pd13 : parseMethodDescriptor "([I[I)V" = some ⟨[(.array .int), (.array .int)], none⟩ := by decide +kernel
theorem pd14 : parseMethodDescriptor "()I" = some ⟨[], some .int⟩ := by decide +kernel
theorem pd15 : parseMethodDescriptor "(IIIII)I" = some ⟨[.int, .int, .int, .int, .int], some .int⟩ := by decide +kernel
theorem pd16 : parseMethodDescriptor "()V" = some ⟨[], none⟩ := by decide +kernel
theorem pn0 : plainName "java/util/DualPivotQuicksort" = true := by first | (simp [plainName, overriddenIn]; done) | decide +kernel
theorem pn1 : plainName "com/example/corpusmith/corpusmith/ocr/EditRows" = true := by first | (simp [plainName, overriddenIn]; done) | decide +kernel
theorem pn2 : plainName "java/util/Arrays" = true := by first | (simp [plainName, overriddenIn]; done) | decide +kernel
theorem pn3 : plainName "com/example/corpusmith/corpusmith/ocr/EditRowsValuesPinLaw" = true := by first | (simp [plainName, overriddenIn]; done) | decide +kernel
theorem Wx0 {Z : State} {a0 : Array Value} (hw : ∀ d ∈ tables_1, d.before a0 Z = true) : (Jvm.Cond.constant "com/example/corpusmith/corpusmith/ocr/EditRowsValuesPinLaw" (7 : Nat) (2147483647 : Int32)).before a0 Z = true := hw _ (List.mem_of_getElem? (i := 0) rfl)
theorem Wx1 {Z : State} {a0 : Array Value} (hw : ∀ d ∈ tables_1, d.before a0 Z = true) : (Jvm.Cond.arrayClass Jvm.ClassFile.FieldType.int).before a0 Z = true := hw _ (List.mem_of_getElem? (i := 1) rfl)
theorem Wx2 {Z : State} {a0 : Array Value} (hw : ∀ d ∈ tables_1, d.before a0 Z = true) : (Jvm.Cond.classLink "com/example/corpusmith/corpusmith/ocr/EditRowsValuesPinLaw" (8 : Nat) "com/example/corpusmith/corpusmith/ocr/EditRows").before a0 Z = true := hw _ (List.mem_of_getElem? (i := 2) rfl)
theorem Wx3 {Z : State} {a0 : Array Value} (hw : ∀ d ∈ tables_1, d.before a0 Z = true) : (Jvm.Cond.instantiable "com/example/corpusmith/corpusmith/ocr/EditRows" (9 : Nat)).before a0 Z = true := hw _ (List.mem_of_getElem? (i := 3) rfl)
theorem Wx4 {Z : State} {a0 : Array Value} (hw : ∀ d ∈ tables_1, d.before a0 Z = true) : (Jvm.Cond.initialized "com/example/corpusmith/corpusmith/ocr/EditRows").before a0 Z = true := hw _ (List.mem_of_getElem? (i := 4) rfl)
theorem Wx5 {Z : State} {a0 : Array Value} (hw : ∀ d ∈ tables_1, d.before a0 Z = true) : (Jvm.Cond.methodLink "com/example/corpusmith/corpusmith/ocr/EditRowsValuesPinLaw" (10 : Nat) ({ cls := "com/example/corpusmith/corpusmith/ocr/EditRows", name := "<init>", desc := "([I[I)V" } : Jvm.MethodName)).before a0 Z = true := hw _ (List.mem_of_getElem? (i := 5) rfl)
theorem Wx6 {Z : State} {a0 : Array Value} (hw : ∀ d ∈ tables_1, d.before a0 Z = true) : (Jvm.Cond.instanceMethod ({ cls := "com/example/corpusmith/corpusmith/ocr/EditRows", name := "<init>", desc := "([I[I)V" } : Jvm.MethodName)).before a0 Z = true := hw _ (List.mem_of_getElem? (i := 6) rfl)
theorem Wx7 {Z : State} {a0 : Array Value} (hw : ∀ d ∈ tables_1, d.before a0 Z = true) : (Jvm.Cond.code ({ cls := "com/example/corpusmith/corpusmith/ocr/EditRows", name := "<init>", desc := "([I[I)V" } : Jvm.MethodName) prog_102_method_1_code (10 : Nat) (Option.none : Option Jvm.ClassFile.FieldType)).before a0 Z = true := hw _ (List.mem_of_getElem? (i := 7) rfl)
theorem Wx8 {Z : State} {a0 : Array Value} (hw : ∀ d ∈ tables_1, d.before a0 Z = true) : (Jvm.Cond.methodLink "com/example/corpusmith/corpusmith/ocr/EditRows" (1 : Nat) ({ cls := "java/lang/Object", name := "<init>", desc := "()V" } : Jvm.MethodName)).before a0 Z = true := hw _ (List.mem_of_getElem? (i := 8) rfl)
theorem Wx9 {Z : State} {a0 : Array Value} (hw : ∀ d ∈ tables_1, d.before a0 Z = true) : (Jvm.Cond.instanceMethod ({ cls := "java/lang/Object", name := "<init>", desc := "()V" } : Jvm.MethodName)).before a0 Z = true := hw _ (List.mem_of_getElem? (i := 9) rfl)
theorem Wx10 {Z : State} {a0 : Array Value} (hw : ∀ d ∈ tables_1, d.before a0 Z = true) : (Jvm.Cond.code ({ cls := "java/lang/Object", name := "<init>", desc := "()V" } : Jvm.MethodName) object_method_1_code (1 : Nat) (Option.none : Option Jvm.ClassFile.FieldType)).before a0 Z = true := hw _ (List.mem_of_getElem? (i := 10) rfl)
theorem Wx11 {Z : State} {a0 : Array Value} (hw : ∀ d ∈ tables_1, d.before a0 Z = true) : (Jvm.Cond.methodLink "com/example/corpusmith/corpusmith/ocr/EditRows" (7 : Nat) ({ cls := "com/example/corpusmith/corpusmith/ocr/EditRows", name := "longs", desc := "(I)I" } : Jvm.MethodName)).before a0 Z = true := hw _ (List.mem_of_getElem? (i := 11) rfl)
theorem Wx12 {Z : State} {a0 : Array Value} (hw : ∀ d ∈ tables_1, d.before a0 Z = true) : (Jvm.Cond.static ({ cls := "com/example/corpusmith/corpusmith/ocr/EditRows", name := "longs", desc := "(I)I" } : Jvm.MethodName)).before a0 Z = true := hw _ (List.mem_of_getElem? (i := 12) rfl)
theorem Wx13 {Z : State} {a0 : Array Value} (hw : ∀ d ∈ tables_1, d.before a0 Z = true) : (Jvm.Cond.code ({ cls := "com/example/corpusmith/corpusmith/ocr/EditRows", name := "longs", desc := "(I)I" } : Jvm.MethodName) prog_102_method_9_code (1 : Nat) (Option.some Jvm.ClassFile.FieldType.int)).before a0 Z = true := hw _ (List.mem_of_getElem? (i := 13) rfl)
theorem Wx14 {Z : State} {a0 : Array Value} (hw : ∀ d ∈ tables_1, d.before a0 Z = true) : (Jvm.Cond.methodLink "com/example/corpusmith/corpusmith/ocr/EditRows" (13 : Nat) ({ cls := "[I", name := "clone", desc := "()Ljava/lang/Object;" } : Jvm.MethodName)).before a0 Z = true := hw _ (List.mem_of_getElem? (i := 14) rfl)
theorem Wx15 {Z : State} {a0 : Array Value} (hw : ∀ d ∈ tables_1, d.before a0 Z = true) : (Jvm.Cond.sameMethod "[I" "java/lang/Object" "clone" "()Ljava/lang/Object;").before a0 Z = true := hw _ (List.mem_of_getElem? (i := 15) rfl)
theorem Wx17 {Z : State} {a0 : Array Value} (hw : ∀ d ∈ tables_1, d.before a0 Z = true) : (Jvm.Cond.instanceMethod ({ cls := "java/lang/Object", name := "clone", desc := "()Ljava/lang/Object;" } : Jvm.MethodName)).before a0 Z = true := hw _ (List.mem_of_getElem? (i := 17) rfl)
theorem Wx18 {Z : State} {a0 : Array Value} (hw : ∀ d ∈ tables_1, d.before a0 Z = true) : (Jvm.Cond.selects "[I" ({ cls := "[I", name := "clone", desc := "()Ljava/lang/Object;" } : Jvm.MethodName) ({ cls := "java/lang/Object", name := "clone", desc := "()Ljava/lang/Object;" } : Jvm.MethodName)).before a0 Z = true := hw _ (List.mem_of_getElem? (i := 18) rfl)
theorem Wx19 {Z : State} {a0 : Array Value} (hw : ∀ d ∈ tables_1, d.before a0 Z = true) : (Jvm.Cond.native ({ cls := "java/lang/Object", name := "clone", desc := "()Ljava/lang/Object;" } : Jvm.MethodName)).before a0 Z = true := hw _ (List.mem_of_getElem? (i := 19) rfl)
theorem Wx20 {Z : State} {a0 : Array Value} (hw : ∀ d ∈ tables_1, d.before a0 Z = true) : (Jvm.Cond.castable "[I" "java/lang/Cloneable").before a0 Z = true := hw _ (List.mem_of_getElem? (i := 20) rfl)
theorem Wx21 {Z : State} {a0 : Array Value} (hw : ∀ d ∈ tables_1, d.before a0 Z = true) : (Jvm.Cond.classLink "com/example/corpusmith/corpusmith/ocr/EditRows" (14 : Nat) "[I").before a0 Z = true := hw _ (List.mem_of_getElem? (i := 21) rfl)
theorem Wx23 {Z : State} {a0 : Array Value} (hw : ∀ d ∈ tables_1, d.before a0 Z = true) : (Jvm.Cond.methodLink "com/example/corpusmith/corpusmith/ocr/EditRows" (19 : Nat) ({ cls := "java/util/Arrays", name := "sort", desc := "([I)V" } : Jvm.MethodName)).before a0 Z = true := hw _ (List.mem_of_getElem? (i := 23) rfl)
theorem Wx24 {Z : State} {a0 : Array Value} (hw : ∀ d ∈ tables_1, d.before a0 Z = true) : (Jvm.Cond.static ({ cls := "java/util/Arrays", name := "sort", desc := "([I)V" } : Jvm.MethodName)).before a0 Z = true := hw _ (List.mem_of_getElem? (i := 24) rfl)
theorem Wx25 {Z : State} {a0 : Array Value} (hw : ∀ d ∈ tables_1, d.before a0 Z = true) : (Jvm.Cond.initialized "java/util/Arrays").before a0 Z = true := hw _ (List.mem_of_getElem? (i := 25) rfl)
theorem Wx26 {Z : State} {a0 : Array Value} (hw : ∀ d ∈ tables_1, d.before a0 Z = true) : (Jvm.Cond.code ({ cls := "java/util/Arrays", name := "sort", desc := "([I)V" } : Jvm.MethodName) jdk_65_method_2_code (1 : Nat) (Option.none : Option Jvm.ClassFile.FieldType)).before a0 Z = true := hw _ (List.mem_of_getElem? (i := 26) rfl)
theorem Wx27 {Z : State} {a0 : Array Value} (hw : ∀ d ∈ tables_1, d.before a0 Z = true) : (Jvm.Cond.methodLink "java/util/Arrays" (7 : Nat) ({ cls := "java/util/DualPivotQuicksort", name := "sort", desc := "([IIII)V" } : Jvm.MethodName)).before a0 Z = true := hw _ (List.mem_of_getElem? (i := 27) rfl)
theorem Wx28 {Z : State} {a0 : Array Value} (hw : ∀ d ∈ tables_1, d.before a0 Z = true) : (Jvm.Cond.static ({ cls := "java/util/DualPivotQuicksort", name := "sort", desc := "([IIII)V" } : Jvm.MethodName)).before a0 Z = true := hw _ (List.mem_of_getElem? (i := 28) rfl)
theorem Wx29 {Z : State} {a0 : Array Value} (hw : ∀ d ∈ tables_1, d.before a0 Z = true) : (Jvm.Cond.initialized "java/util/DualPivotQuicksort").before a0 Z = true := hw _ (List.mem_of_getElem? (i := 29) rfl)
theorem Wx30 {Z : State} {a0 : Array Value} (hw : ∀ d ∈ tables_1, d.before a0 Z = true) : (Jvm.Cond.code ({ cls := "java/util/DualPivotQuicksort", name := "sort", desc := "([IIII)V" } : Jvm.MethodName) jdk_2529_method_3_code (7 : Nat) (Option.none : Option Jvm.ClassFile.FieldType)).before a0 Z = true := hw _ (List.mem_of_getElem? (i := 30) rfl)
theorem Wx31 {Z : State} {a0 : Array Value} (hw : ∀ d ∈ tables_1, d.before a0 Z = true) : (Jvm.Cond.methodLink "java/util/DualPivotQuicksort" (26 : Nat) ({ cls := "java/util/DualPivotQuicksort", name := "sort", desc := "(Ljava/util/DualPivotQuicksort$Sorter;[IIII)V" } : Jvm.MethodName)).before a0 Z = true := hw _ (List.mem_of_getElem? (i := 31) rfl)
theorem Wx32 {Z : State} {a0 : Array Value} (hw : ∀ d ∈ tables_1, d.before a0 Z = true) : (Jvm.Cond.static ({ cls := "java/util/DualPivotQuicksort", name := "sort", desc := "(Ljava/util/DualPivotQuicksort$Sorter;[IIII)V" } : Jvm.MethodName)).before a0 Z = true := hw _ (List.mem_of_getElem? (i := 32) rfl)
theorem Wx33 {Z : State} {a0 : Array Value} (hw : ∀ d ∈ tables_1, d.before a0 Z = true) : (Jvm.Cond.code ({ cls := "java/util/DualPivotQuicksort", name := "sort", desc := "(Ljava/util/DualPivotQuicksort$Sorter;[IIII)V" } : Jvm.MethodName) jdk_2529_method_4_code (21 : Nat) (Option.none : Option Jvm.ClassFile.FieldType)).before a0 Z = true := hw _ (List.mem_of_getElem? (i := 33) rfl)
theorem Wx34 {Z : State} {a0 : Array Value} (hw : ∀ d ∈ tables_1, d.before a0 Z = true) : (Jvm.Cond.methodLink "java/util/DualPivotQuicksort" (38 : Nat) ({ cls := "java/util/DualPivotQuicksort", name := "tryMergeRuns", desc := "(Ljava/util/DualPivotQuicksort$Sorter;[III)Z" } : Jvm.MethodName)).before a0 Z = true := hw _ (List.mem_of_getElem? (i := 34) rfl)
theorem Wx35 {Z : State} {a0 : Array Value} (hw : ∀ d ∈ tables_1, d.before a0 Z = true) : (Jvm.Cond.static ({ cls := "java/util/DualPivotQuicksort", name := "tryMergeRuns", desc := "(Ljava/util/DualPivotQuicksort$Sorter;[III)Z" } : Jvm.MethodName)).before a0 Z = true := hw _ (List.mem_of_getElem? (i := 35) rfl)
theorem Wx36 {Z : State} {a0 : Array Value} (hw : ∀ d ∈ tables_1, d.before a0 Z = true) : (Jvm.Cond.code ({ cls := "java/util/DualPivotQuicksort", name := "tryMergeRuns", desc := "(Ljava/util/DualPivotQuicksort$Sorter;[III)Z" } : Jvm.MethodName) jdk_2529_method_9_code (12 : Nat) (Option.some Jvm.ClassFile.FieldType.boolean)).before a0 Z = true := hw _ (List.mem_of_getElem? (i := 36) rfl)
theorem Wx37 {Z : State} {a0 : Array Value} (hw : ∀ d ∈ tables_1, d.before a0 Z = true) : (Jvm.Cond.methodLink "java/util/DualPivotQuicksort" (30 : Nat) ({ cls := "java/util/DualPivotQuicksort", name := "mixedInsertionSort", desc := "([IIII)V" } : Jvm.MethodName)).before a0 Z = true := hw _ (List.mem_of_getElem? (i := 37) rfl)
theorem Wx38 {Z : State} {a0 : Array Value} (hw : ∀ d ∈ tables_1, d.before a0 Z = true) : (Jvm.Cond.static ({ cls := "java/util/DualPivotQuicksort", name := "mixedInsertionSort", desc := "([IIII)V" } : Jvm.MethodName)).before a0 Z = true := hw _ (List.mem_of_getElem? (i := 38) rfl)
theorem Wx39 {Z : State} {a0 : Array Value} (hw : ∀ d ∈ tables_1, d.before a0 Z = true) : (Jvm.Cond.code ({ cls := "java/util/DualPivotQuicksort", name := "mixedInsertionSort", desc := "([IIII)V" } : Jvm.MethodName) jdk_2529_method_5_code (8 : Nat) (Option.none : Option Jvm.ClassFile.FieldType)).before a0 Z = true := hw _ (List.mem_of_getElem? (i := 39) rfl)
theorem Wx40 {Z : State} {a0 : Array Value} (hw : ∀ d ∈ tables_1, d.before a0 Z = true) : (Jvm.Cond.methodLink "java/util/DualPivotQuicksort" (34 : Nat) ({ cls := "java/util/DualPivotQuicksort", name := "insertionSort", desc := "([III)V" } : Jvm.MethodName)).before a0 Z = true := hw _ (List.mem_of_getElem? (i := 40) rfl)
theorem Wx41 {Z : State} {a0 : Array Value} (hw : ∀ d ∈ tables_1, d.before a0 Z = true) : (Jvm.Cond.static ({ cls := "java/util/DualPivotQuicksort", name := "insertionSort", desc := "([III)V" } : Jvm.MethodName)).before a0 Z = true := hw _ (List.mem_of_getElem? (i := 41) rfl)
theorem Wx42 {Z : State} {a0 : Array Value} (hw : ∀ d ∈ tables_1, d.before a0 Z = true) : (Jvm.Cond.code ({ cls := "java/util/DualPivotQuicksort", name := "insertionSort", desc := "([III)V" } : Jvm.MethodName) jdk_2529_method_6_code (6 : Nat) (Option.none : Option Jvm.ClassFile.FieldType)).before a0 Z = true := hw _ (List.mem_of_getElem? (i := 42) rfl)
theorem Wx43 {Z : State} {a0 : Array Value} (hw : ∀ d ∈ tables_1, d.before a0 Z = true) : (Jvm.Cond.fieldLink "com/example/corpusmith/corpusmith/ocr/EditRows" (25 : Nat) "com/example/corpusmith/corpusmith/ocr/EditRows" "m" "I").before a0 Z = true := hw _ (List.mem_of_getElem? (i := 43) rfl)
theorem Wx44 {Z : State} {a0 : Array Value} (hw : ∀ d ∈ tables_1, d.before a0 Z = true) : (Jvm.Cond.laysFinal "com/example/corpusmith/corpusmith/ocr/EditRows" "com/example/corpusmith/corpusmith/ocr/EditRows" "m" "I").before a0 Z = true := hw _ (List.mem_of_getElem? (i := 44) rfl)
theorem Wx45 {Z : State} {a0 : Array Value} (hw : ∀ d ∈ tables_1, d.before a0 Z = true) : (Jvm.Cond.fieldLink "com/example/corpusmith/corpusmith/ocr/EditRows" (29 : Nat) "com/example/corpusmith/corpusmith/ocr/EditRows" "starts" "[I").before a0 Z = true := hw _ (List.mem_of_getElem? (i := 45) rfl)
theorem Wx46 {Z : State} {a0 : Array Value} (hw : ∀ d ∈ tables_1, d.before a0 Z = true) : (Jvm.Cond.laysFinal "com/example/corpusmith/corpusmith/ocr/EditRows" "com/example/corpusmith/corpusmith/ocr/EditRows" "starts" "[I").before a0 Z = true := hw _ (List.mem_of_getElem? (i := 46) rfl)
theorem Wx47 {Z : State} {a0 : Array Value} (hw : ∀ d ∈ tables_1, d.before a0 Z = true) : (Jvm.Cond.fieldLink "com/example/corpusmith/corpusmith/ocr/EditRows" (32 : Nat) "com/example/corpusmith/corpusmith/ocr/EditRows" "places" "[I").before a0 Z = true := hw _ (List.mem_of_getElem? (i := 47) rfl)
theorem Wx48 {Z : State} {a0 : Array Value} (hw : ∀ d ∈ tables_1, d.before a0 Z = true) : (Jvm.Cond.laysFinal "com/example/corpusmith/corpusmith/ocr/EditRows" "com/example/corpusmith/corpusmith/ocr/EditRows" "places" "[I").before a0 Z = true := hw _ (List.mem_of_getElem? (i := 48) rfl)
theorem Wx49 {Z : State} {a0 : Array Value} (hw : ∀ d ∈ tables_1, d.before a0 Z = true) : (Jvm.Cond.methodLink "com/example/corpusmith/corpusmith/ocr/EditRows" (35 : Nat) ({ cls := "java/util/Arrays", name := "binarySearch", desc := "([IIII)I" } : Jvm.MethodName)).before a0 Z = true := hw _ (List.mem_of_getElem? (i := 49) rfl)
theorem Wx50 {Z : State} {a0 : Array Value} (hw : ∀ d ∈ tables_1, d.before a0 Z = true) : (Jvm.Cond.static ({ cls := "java/util/Arrays", name := "binarySearch", desc := "([IIII)I" } : Jvm.MethodName)).before a0 Z = true := hw _ (List.mem_of_getElem? (i := 50) rfl)
theorem Wx51 {Z : State} {a0 : Array Value} (hw : ∀ d ∈ tables_1, d.before a0 Z = true) : (Jvm.Cond.code ({ cls := "java/util/Arrays", name := "binarySearch", desc := "([IIII)I" } : Jvm.MethodName) jdk_65_method_58_code (4 : Nat) (Option.some Jvm.ClassFile.FieldType.int)).before a0 Z = true := hw _ (List.mem_of_getElem? (i := 51) rfl)
theorem Wx52 {Z : State} {a0 : Array Value} (hw : ∀ d ∈ tables_1, d.before a0 Z = true) : (Jvm.Cond.methodLink "java/util/Arrays" (13 : Nat) ({ cls := "java/util/Arrays", name := "rangeCheck", desc := "(III)V" } : Jvm.MethodName)).before a0 Z = true := hw _ (List.mem_of_getElem? (i := 52) rfl)
theorem Wx53 {Z : State} {a0 : Array Value} (hw : ∀ d ∈ tables_1, d.before a0 Z = true) : (Jvm.Cond.static ({ cls := "java/util/Arrays", name := "rangeCheck", desc := "(III)V" } : Jvm.MethodName)).before a0 Z = true := hw _ (List.mem_of_getElem? (i := 53) rfl)
theorem Wx54 {Z : State} {a0 : Array Value} (hw : ∀ d ∈ tables_1, d.before a0 Z = true) : (Jvm.Cond.code ({ cls := "java/util/Arrays", name := "rangeCheck", desc := "(III)V" } : Jvm.MethodName) jdk_65_method_30_code (3 : Nat) (Option.none : Option Jvm.ClassFile.FieldType)).before a0 Z = true := hw _ (List.mem_of_getElem? (i := 54) rfl)
theorem Wx55 {Z : State} {a0 : Array Value} (hw : ∀ d ∈ tables_1, d.before a0 Z = true) : (Jvm.Cond.methodLink "java/util/Arrays" (209 : Nat) ({ cls := "java/util/Arrays", name := "binarySearch0", desc := "([IIII)I" } : Jvm.MethodName)).before a0 Z = true := hw _ (List.mem_of_getElem? (i := 55) rfl)
theorem Wx56 {Z : State} {a0 : Array Value} (hw : ∀ d ∈ tables_1, d.before a0 Z = true) : (Jvm.Cond.static ({ cls := "java/util/Arrays", name := "binarySearch0", desc := "([IIII)I" } : Jvm.MethodName)).before a0 Z = true := hw _ (List.mem_of_getElem? (i := 56) rfl)
theorem Wx57 {Z : State} {a0 : Array Value} (hw : ∀ d ∈ tables_1, d.before a0 Z = true) : (Jvm.Cond.code ({ cls := "java/util/Arrays", name := "binarySearch0", desc := "([IIII)I" } : Jvm.MethodName) jdk_65_method_59_code (8 : Nat) (Option.some Jvm.ClassFile.FieldType.int)).before a0 Z = true := hw _ (List.mem_of_getElem? (i := 57) rfl)
theorem Wx58 {Z : State} {a0 : Array Value} (hw : ∀ d ∈ tables_1, d.before a0 Z = true) : (Jvm.Cond.methodLink "com/example/corpusmith/corpusmith/ocr/EditRows" (39 : Nat) ({ cls := "java/util/Arrays", name := "copyOf", desc := "([II)[I" } : Jvm.MethodName)).before a0 Z = true := hw _ (List.mem_of_getElem? (i := 58) rfl)
theorem Wx59 {Z : State} {a0 : Array Value} (hw : ∀ d ∈ tables_1, d.before a0 Z = true) : (Jvm.Cond.static ({ cls := "java/util/Arrays", name := "copyOf", desc := "([II)[I" } : Jvm.MethodName)).before a0 Z = true := hw _ (List.mem_of_getElem? (i := 59) rfl)
theorem Wx60 {Z : State} {a0 : Array Value} (hw : ∀ d ∈ tables_1, d.before a0 Z = true) : (Jvm.Cond.code ({ cls := "java/util/Arrays", name := "copyOf", desc := "([II)[I" } : Jvm.MethodName) jdk_65_method_123_code (3 : Nat) (Option.some (Jvm.ClassFile.FieldType.array Jvm.ClassFile.FieldType.int))).before a0 Z = true := hw _ (List.mem_of_getElem? (i := 60) rfl)
theorem Wx61 {Z : State} {a0 : Array Value} (hw : ∀ d ∈ tables_1, d.before a0 Z = true) : (Jvm.Cond.methodLink "java/util/Arrays" (304 : Nat) ({ cls := "java/lang/Math", name := "min", desc := "(II)I" } : Jvm.MethodName)).before a0 Z = true := hw _ (List.mem_of_getElem? (i := 61) rfl)
theorem Wx62 {Z : State} {a0 : Array Value} (hw : ∀ d ∈ tables_1, d.before a0 Z = true) : (Jvm.Cond.static ({ cls := "java/lang/Math", name := "min", desc := "(II)I" } : Jvm.MethodName)).before a0 Z = true := hw _ (List.mem_of_getElem? (i := 62) rfl)
theorem Wx63 {Z : State} {a0 : Array Value} (hw : ∀ d ∈ tables_1, d.before a0 Z = true) : (Jvm.Cond.initialized "java/lang/Math").before a0 Z = true := hw _ (List.mem_of_getElem? (i := 63) rfl)
theorem Wx64 {Z : State} {a0 : Array Value} (hw : ∀ d ∈ tables_1, d.before a0 Z = true) : (Jvm.Cond.code ({ cls := "java/lang/Math", name := "min", desc := "(II)I" } : Jvm.MethodName) jdk_29_method_69_code (2 : Nat) (Option.some Jvm.ClassFile.FieldType.int)).before a0 Z = true := hw _ (List.mem_of_getElem? (i := 64) rfl)
theorem Wx65 {Z : State} {a0 : Array Value} (hw : ∀ d ∈ tables_1, d.before a0 Z = true) : (Jvm.Cond.methodLink "java/util/Arrays" (150 : Nat) ({ cls := "java/lang/System", name := "arraycopy", desc := "(Ljava/lang/Object;ILjava/lang/Object;II)V" } : Jvm.MethodName)).before a0 Z = true := hw _ (List.mem_of_getElem? (i := 65) rfl)
theorem Wx66 {Z : State} {a0 : Array Value} (hw : ∀ d ∈ tables_1, d.before a0 Z = true) : (Jvm.Cond.static ({ cls := "java/lang/System", name := "arraycopy", desc := "(Ljava/lang/Object;ILjava/lang/Object;II)V" } : Jvm.MethodName)).before a0 Z = true := hw _ (List.mem_of_getElem? (i := 66) rfl)
theorem Wx67 {Z : State} {a0 : Array Value} (hw : ∀ d ∈ tables_1, d.before a0 Z = true) : (Jvm.Cond.initialized "java/lang/System").before a0 Z = true := hw _ (List.mem_of_getElem? (i := 67) rfl)
theorem Wx68 {Z : State} {a0 : Array Value} (hw : ∀ d ∈ tables_1, d.before a0 Z = true) : (Jvm.Cond.native ({ cls := "java/lang/System", name := "arraycopy", desc := "(Ljava/lang/Object;ILjava/lang/Object;II)V" } : Jvm.MethodName)).before a0 Z = true := hw _ (List.mem_of_getElem? (i := 68) rfl)
theorem Wx69 {Z : State} {a0 : Array Value} (hw : ∀ d ∈ tables_1, d.before a0 Z = true) : (Jvm.Cond.classLink "com/example/corpusmith/corpusmith/ocr/EditRows" (43 : Nat) "[J").before a0 Z = true := hw _ (List.mem_of_getElem? (i := 69) rfl)
theorem Wx70 {Z : State} {a0 : Array Value} (hw : ∀ d ∈ tables_1, d.before a0 Z = true) : (Jvm.Cond.arrayOver (Jvm.ClassFile.FieldType.array Jvm.ClassFile.FieldType.long)).before a0 Z = true := hw _ (List.mem_of_getElem? (i := 70) rfl)
theorem Wx71 {Z : State} {a0 : Array Value} (hw : ∀ d ∈ tables_1, d.before a0 Z = true) : (Jvm.Cond.fieldLink "com/example/corpusmith/corpusmith/ocr/EditRows" (45 : Nat) "com/example/corpusmith/corpusmith/ocr/EditRows" "bits" "[[J").before a0 Z = true := hw _ (List.mem_of_getElem? (i := 71) rfl)
theorem Wx72 {Z : State} {a0 : Array Value} (hw : ∀ d ∈ tables_1, d.before a0 Z = true) : (Jvm.Cond.laysFinal "com/example/corpusmith/corpusmith/ocr/EditRows" "com/example/corpusmith/corpusmith/ocr/EditRows" "bits" "[[J").before a0 Z = true := hw _ (List.mem_of_getElem? (i := 72) rfl)
theorem Wx73 {Z : State} {a0 : Array Value} (hw : ∀ d ∈ tables_1, d.before a0 Z = true) : (Jvm.Cond.arrayClass Jvm.ClassFile.FieldType.long).before a0 Z = true := hw _ (List.mem_of_getElem? (i := 73) rfl)
theorem Wx75 {Z : State} {a0 : Array Value} (hw : ∀ d ∈ tables_1, d.before a0 Z = true) : (Jvm.Cond.fieldLink "com/example/corpusmith/corpusmith/ocr/EditRows" (49 : Nat) "com/example/corpusmith/corpusmith/ocr/EditRows" "a" "[I").before a0 Z = true := hw _ (List.mem_of_getElem? (i := 75) rfl)
theorem Wx76 {Z : State} {a0 : Array Value} (hw : ∀ d ∈ tables_1, d.before a0 Z = true) : (Jvm.Cond.laysFinal "com/example/corpusmith/corpusmith/ocr/EditRows" "com/example/corpusmith/corpusmith/ocr/EditRows" "a" "[I").before a0 Z = true := hw _ (List.mem_of_getElem? (i := 76) rfl)
theorem Wx77 {Z : State} {a0 : Array Value} (hw : ∀ d ∈ tables_1, d.before a0 Z = true) : (Jvm.Cond.methodLink "com/example/corpusmith/corpusmith/ocr/EditRows" (52 : Nat) ({ cls := "java/lang/Math", name := "max", desc := "(II)I" } : Jvm.MethodName)).before a0 Z = true := hw _ (List.mem_of_getElem? (i := 77) rfl)
theorem Wx78 {Z : State} {a0 : Array Value} (hw : ∀ d ∈ tables_1, d.before a0 Z = true) : (Jvm.Cond.static ({ cls := "java/lang/Math", name := "max", desc := "(II)I" } : Jvm.MethodName)).before a0 Z = true := hw _ (List.mem_of_getElem? (i := 78) rfl)
theorem Wx79 {Z : State} {a0 : Array Value} (hw : ∀ d ∈ tables_1, d.before a0 Z = true) : (Jvm.Cond.code ({ cls := "java/lang/Math", name := "max", desc := "(II)I" } : Jvm.MethodName) jdk_29_method_65_code (2 : Nat) (Option.some Jvm.ClassFile.FieldType.int)).before a0 Z = true := hw _ (List.mem_of_getElem? (i := 79) rfl)
theorem Wx80 {Z : State} {a0 : Array Value} (hw : ∀ d ∈ tables_1, d.before a0 Z = true) : (Jvm.Cond.fieldLink "com/example/corpusmith/corpusmith/ocr/EditRows" (58 : Nat) "com/example/corpusmith/corpusmith/ocr/EditRows" "listed" "[J").before a0 Z = true := hw _ (List.mem_of_getElem? (i := 80) rfl)
theorem Wx81 {Z : State} {a0 : Array Value} (hw : ∀ d ∈ tables_1, d.before a0 Z = true) : (Jvm.Cond.laysFinal "com/example/corpusmith/corpusmith/ocr/EditRows" "com/example/corpusmith/corpusmith/ocr/EditRows" "listed" "[J").before a0 Z = true := hw _ (List.mem_of_getElem? (i := 81) rfl)
theorem Wx82 {Z : State} {a0 : Array Value} (hw : ∀ d ∈ tables_1, d.before a0 Z = true) : (Jvm.Cond.fieldLink "com/example/corpusmith/corpusmith/ocr/EditRows" (61 : Nat) "com/example/corpusmith/corpusmith/ocr/EditRows" "plus" "[J").before a0 Z = true := hw _ (List.mem_of_getElem? (i := 82) rfl)
theorem Wx83 {Z : State} {a0 : Array Value} (hw : ∀ d ∈ tables_1, d.before a0 Z = true) : (Jvm.Cond.laysFinal "com/example/corpusmith/corpusmith/ocr/EditRows" "com/example/corpusmith/corpusmith/ocr/EditRows" "plus" "[J").before a0 Z = true := hw _ (List.mem_of_getElem? (i := 83) rfl)
theorem Wx84 {Z : State} {a0 : Array Value} (hw : ∀ d ∈ tables_1, d.before a0 Z = true) : (Jvm.Cond.fieldLink "com/example/corpusmith/corpusmith/ocr/EditRows" (64 : Nat) "com/example/corpusmith/corpusmith/ocr/EditRows" "minus" "[J").before a0 Z = true := hw _ (List.mem_of_getElem? (i := 84) rfl)
theorem Wx85 {Z : State} {a0 : Array Value} (hw : ∀ d ∈ tables_1, d.before a0 Z = true) : (Jvm.Cond.laysFinal "com/example/corpusmith/corpusmith/ocr/EditRows" "com/example/corpusmith/corpusmith/ocr/EditRows" "minus" "[J").before a0 Z = true := hw _ (List.mem_of_getElem? (i := 85) rfl)
theorem Wx86 {Z : State} {a0 : Array Value} (hw : ∀ d ∈ tables_1, d.before a0 Z = true) : (Jvm.Cond.constantLong "com/example/corpusmith/corpusmith/ocr/EditRows" (67 : Nat) (-1 : Int64)).before a0 Z = true := hw _ (List.mem_of_getElem? (i := 86) rfl)
theorem Wx87 {Z : State} {a0 : Array Value} (hw : ∀ d ∈ tables_1, d.before a0 Z = true) : (Jvm.Cond.methodLink "com/example/corpusmith/corpusmith/ocr/EditRows" (69 : Nat) ({ cls := "java/util/Arrays", name := "fill", desc := "([JJ)V" } : Jvm.MethodName)).before a0 Z = true := hw _ (List.mem_of_getElem? (i := 87) rfl)
theorem Wx88 {Z : State} {a0 : Array Value} (hw : ∀ d ∈ tables_1, d.before a0 Z = true) : (Jvm.Cond.static ({ cls := "java/util/Arrays", name := "fill", desc := "([JJ)V" } : Jvm.MethodName)).before a0 Z = true := hw _ (List.mem_of_getElem? (i := 88) rfl)
theorem Wx89 {Z : State} {a0 : Array Value} (hw : ∀ d ∈ tables_1, d.before a0 Z = true) : (Jvm.Cond.code ({ cls := "java/util/Arrays", name := "fill", desc := "([JJ)V" } : Jvm.MethodName) jdk_65_method_101_code (5 : Nat) (Option.none : Option Jvm.ClassFile.FieldType)).before a0 Z = true := hw _ (List.mem_of_getElem? (i := 89) rfl)
theorem Wx90 {Z : State} {a0 : Array Value} (hw : ∀ d ∈ tables_1, d.before a0 Z = true) : (Jvm.Cond.methodLink "com/example/corpusmith/corpusmith/ocr/EditRowsValuesPinLaw" (16 : Nat) ({ cls := "com/example/corpusmith/corpusmith/ocr/EditRows", name := "values", desc := "([I)V" } : Jvm.MethodName)).before a0 Z = true := hw _ (List.mem_of_getElem? (i := 90) rfl)
theorem Wx91 {Z : State} {a0 : Array Value} (hw : ∀ d ∈ tables_1, d.before a0 Z = true) : (Jvm.Cond.declares ({ cls := "com/example/corpusmith/corpusmith/ocr/EditRows", name := "values", desc := "([I)V" } : Jvm.MethodName)).before a0 Z = true := hw _ (List.mem_of_getElem? (i := 91) rfl)
theorem Wx92 {Z : State} {a0 : Array Value} (hw : ∀ d ∈ tables_1, d.before a0 Z = true) : (Jvm.Cond.instanceMethod ({ cls := "com/example/corpusmith/corpusmith/ocr/EditRows", name := "values", desc := "([I)V" } : Jvm.MethodName)).before a0 Z = true := hw _ (List.mem_of_getElem? (i := 92) rfl)
theorem Wx93 {Z : State} {a0 : Array Value} (hw : ∀ d ∈ tables_1, d.before a0 Z = true) : (Jvm.Cond.selects "com/example/corpusmith/corpusmith/ocr/EditRows" ({ cls := "com/example/corpusmith/corpusmith/ocr/EditRows", name := "values", desc := "([I)V" } : Jvm.MethodName) ({ cls := "com/example/corpusmith/corpusmith/ocr/EditRows", name := "values", desc := "([I)V" } : Jvm.MethodName)).before a0 Z = true := hw _ (List.mem_of_getElem? (i := 93) rfl)
theorem Wx94 {Z : State} {a0 : Array Value} (hw : ∀ d ∈ tables_1, d.before a0 Z = true) : (Jvm.Cond.code ({ cls := "com/example/corpusmith/corpusmith/ocr/EditRows", name := "values", desc := "([I)V" } : Jvm.MethodName) prog_102_method_6_code (4 : Nat) (Option.none : Option Jvm.ClassFile.FieldType)).before a0 Z = true := hw _ (List.mem_of_getElem? (i := 94) rfl)
theorem Wx95 {Z : State} {a0 : Array Value} (hw : ∀ d ∈ tables_1, d.before a0 Z = true) : (Jvm.Cond.fieldLink "com/example/corpusmith/corpusmith/ocr/EditRows" (86 : Nat) "com/example/corpusmith/corpusmith/ocr/EditRows" "row" "I").before a0 Z = true := hw _ (List.mem_of_getElem? (i := 95) rfl)
theorem Wx96 {Z : State} {a0 : Array Value} (hw : ∀ d ∈ tables_1, d.before a0 Z = true) : (Jvm.Cond.lays "com/example/corpusmith/corpusmith/ocr/EditRows" "com/example/corpusmith/corpusmith/ocr/EditRows" "row" "I").before a0 Z = true := hw _ (List.mem_of_getElem? (i := 96) rfl)
theorem Wx97 {Z : State} {a0 : Array Value} (hw : ∀ d ∈ tables_1, d.before a0 Z = true) : (Jvm.Cond.methodLink "com/example/corpusmith/corpusmith/ocr/EditRowsValuesPinLaw" (20 : Nat) ({ cls := "com/example/corpusmith/corpusmith/ocr/EditRows", name := "row", desc := "()I" } : Jvm.MethodName)).before a0 Z = true := hw _ (List.mem_of_getElem? (i := 97) rfl)
theorem Wx98 {Z : State} {a0 : Array Value} (hw : ∀ d ∈ tables_1, d.before a0 Z = true) : (Jvm.Cond.declares ({ cls := "com/example/corpusmith/corpusmith/ocr/EditRows", name := "row", desc := "()I" } : Jvm.MethodName)).before a0 Z = true := hw _ (List.mem_of_getElem? (i := 98) rfl)
theorem Wx99 {Z : State} {a0 : Array Value} (hw : ∀ d ∈ tables_1, d.before a0 Z = true) : (Jvm.Cond.instanceMethod ({ cls := "com/example/corpusmith/corpusmith/ocr/EditRows", name := "row", desc := "()I" } : Jvm.MethodName)).before a0 Z = true := hw _ (List.mem_of_getElem? (i := 99) rfl)
theorem Wx100 {Z : State} {a0 : Array Value} (hw : ∀ d ∈ tables_1, d.before a0 Z = true) : (Jvm.Cond.selects "com/example/corpusmith/corpusmith/ocr/EditRows" ({ cls := "com/example/corpusmith/corpusmith/ocr/EditRows", name := "row", desc := "()I" } : Jvm.MethodName) ({ cls := "com/example/corpusmith/corpusmith/ocr/EditRows", name := "row", desc := "()I" } : Jvm.MethodName)).before a0 Z = true := hw _ (List.mem_of_getElem? (i := 100) rfl)
theorem Wx101 {Z : State} {a0 : Array Value} (hw : ∀ d ∈ tables_1, d.before a0 Z = true) : (Jvm.Cond.code ({ cls := "com/example/corpusmith/corpusmith/ocr/EditRows", name := "row", desc := "()I" } : Jvm.MethodName) prog_102_method_4_code (1 : Nat) (Option.some Jvm.ClassFile.FieldType.int)).before a0 Z = true := hw _ (List.mem_of_getElem? (i := 101) rfl)
theorem Wx102 {Z : State} {a0 : Array Value} (hw : ∀ d ∈ tables_1, d.before a0 Z = true) : (Jvm.Cond.methodLink "com/example/corpusmith/corpusmith/ocr/EditRowsValuesPinLaw" (24 : Nat) ({ cls := "com/example/corpusmith/corpusmith/ocr/EditRowsValuesPinLaw", name := "expected", desc := "(IIIII)I" } : Jvm.MethodName)).before a0 Z = true := hw _ (List.mem_of_getElem? (i := 102) rfl)
theorem Wx103 {Z : State} {a0 : Array Value} (hw : ∀ d ∈ tables_1, d.before a0 Z = true) : (Jvm.Cond.static ({ cls := "com/example/corpusmith/corpusmith/ocr/EditRowsValuesPinLaw", name := "expected", desc := "(IIIII)I" } : Jvm.MethodName)).before a0 Z = true := hw _ (List.mem_of_getElem? (i := 103) rfl)
theorem Wx104 {Z : State} {a0 : Array Value} (hw : ∀ d ∈ tables_1, d.before a0 Z = true) : (Jvm.Cond.initialized "com/example/corpusmith/corpusmith/ocr/EditRowsValuesPinLaw").before a0 Z = true := hw _ (List.mem_of_getElem? (i := 104) rfl)
theorem Wx105 {Z : State} {a0 : Array Value} (hw : ∀ d ∈ tables_1, d.before a0 Z = true) : (Jvm.Cond.code ({ cls := "com/example/corpusmith/corpusmith/ocr/EditRowsValuesPinLaw", name := "expected", desc := "(IIIII)I" } : Jvm.MethodName) method_2_code (6 : Nat) (Option.some Jvm.ClassFile.FieldType.int)).before a0 Z = true := hw _ (List.mem_of_getElem? (i := 105) rfl)
theorem Wx106 {Z : State} {a0 : Array Value} (hw : ∀ d ∈ tables_1, d.before a0 Z = true) : (Jvm.Cond.methodLink "com/example/corpusmith/corpusmith/ocr/EditRowsValuesPinLaw" (13 : Nat) ({ cls := "com/example/corpusmith/corpusmith/ocr/EditRows", name := "advance", desc := "()V" } : Jvm.MethodName)).before a0 Z = true := hw _ (List.mem_of_getElem? (i := 106) rfl)
theorem Wx107 {Z : State} {a0 : Array Value} (hw : ∀ d ∈ tables_1, d.before a0 Z = true) : (Jvm.Cond.declares ({ cls := "com/example/corpusmith/corpusmith/ocr/EditRows", name := "advance", desc := "()V" } : Jvm.MethodName)).before a0 Z = true := hw _ (List.mem_of_getElem? (i := 107) rfl)
theorem Wx108 {Z : State} {a0 : Array Value} (hw : ∀ d ∈ tables_1, d.before a0 Z = true) : (Jvm.Cond.instanceMethod ({ cls := "com/example/corpusmith/corpusmith/ocr/EditRows", name := "advance", desc := "()V" } : Jvm.MethodName)).before a0 Z = true := hw _ (List.mem_of_getElem? (i := 108) rfl)
theorem Wx109 {Z : State} {a0 : Array Value} (hw : ∀ d ∈ tables_1, d.before a0 Z = true) : (Jvm.Cond.selects "com/example/corpusmith/corpusmith/ocr/EditRows" ({ cls := "com/example/corpusmith/corpusmith/ocr/EditRows", name := "advance", desc := "()V" } : Jvm.MethodName) ({ cls := "com/example/corpusmith/corpusmith/ocr/EditRows", name := "advance", desc := "()V" } : Jvm.MethodName)).before a0 Z = true := hw _ (List.mem_of_getElem? (i := 109) rfl)
theorem Wx110 {Z : State} {a0 : Array Value} (hw : ∀ d ∈ tables_1, d.before a0 Z = true) : (Jvm.Cond.code ({ cls := "com/example/corpusmith/corpusmith/ocr/EditRows", name := "advance", desc := "()V" } : Jvm.MethodName) prog_102_method_5_code (3 : Nat) (Option.none : Option Jvm.ClassFile.FieldType)).before a0 Z = true := hw _ (List.mem_of_getElem? (i := 110) rfl)
theorem Wx111 {Z : State} {a0 : Array Value} (hw : ∀ d ∈ tables_1, d.before a0 Z = true) : (Jvm.Cond.methodLink "com/example/corpusmith/corpusmith/ocr/EditRows" (92 : Nat) ({ cls := "com/example/corpusmith/corpusmith/ocr/EditRows", name := "step", desc := "([J)V" } : Jvm.MethodName)).before a0 Z = true := hw _ (List.mem_of_getElem? (i := 111) rfl)
theorem Wx112 {Z : State} {a0 : Array Value} (hw : ∀ d ∈ tables_1, d.before a0 Z = true) : (Jvm.Cond.instanceMethod ({ cls := "com/example/corpusmith/corpusmith/ocr/EditRows", name := "step", desc := "([J)V" } : Jvm.MethodName)).before a0 Z = true := hw _ (List.mem_of_getElem? (i := 112) rfl)
theorem Wx113 {Z : State} {a0 : Array Value} (hw : ∀ d ∈ tables_1, d.before a0 Z = true) : (Jvm.Cond.privateMethod ({ cls := "com/example/corpusmith/corpusmith/ocr/EditRows", name := "step", desc := "([J)V" } : Jvm.MethodName)).before a0 Z = true := hw _ (List.mem_of_getElem? (i := 113) rfl)
theorem Wx114 {Z : State} {a0 : Array Value} (hw : ∀ d ∈ tables_1, d.before a0 Z = true) : (Jvm.Cond.code ({ cls := "com/example/corpusmith/corpusmith/ocr/EditRows", name := "step", desc := "([J)V" } : Jvm.MethodName) prog_102_method_7_code (19 : Nat) (Option.none : Option Jvm.ClassFile.FieldType)).before a0 Z = true := hw _ (List.mem_of_getElem? (i := 114) rfl)
theorem Wx115 {Z : State} {a0 : Array Value} (hw : ∀ d ∈ tables_1, d.before a0 Z = true) : (Jvm.Cond.methodLink "com/example/corpusmith/corpusmith/ocr/EditRows" (88 : Nat) ({ cls := "com/example/corpusmith/corpusmith/ocr/EditRows", name := "flip", desc := "(I)V" } : Jvm.MethodName)).before a0 Z = true := hw _ (List.mem_of_getElem? (i := 115) rfl)
theorem Wx116 {Z : State} {a0 : Array Value} (hw : ∀ d ∈ tables_1, d.before a0 Z = true) : (Jvm.Cond.instanceMethod ({ cls := "com/example/corpusmith/corpusmith/ocr/EditRows", name := "flip", desc := "(I)V" } : Jvm.MethodName)).before a0 Z = true := hw _ (List.mem_of_getElem? (i := 116) rfl)
theorem Wx117 {Z : State} {a0 : Array Value} (hw : ∀ d ∈ tables_1, d.before a0 Z = true) : (Jvm.Cond.privateMethod ({ cls := "com/example/corpusmith/corpusmith/ocr/EditRows", name := "flip", desc := "(I)V" } : Jvm.MethodName)).before a0 Z = true := hw _ (List.mem_of_getElem? (i := 117) rfl)
theorem Wx118 {Z : State} {a0 : Array Value} (hw : ∀ d ∈ tables_1, d.before a0 Z = true) : (Jvm.Cond.code ({ cls := "com/example/corpusmith/corpusmith/ocr/EditRows", name := "flip", desc := "(I)V" } : Jvm.MethodName) prog_102_method_8_code (3 : Nat) (Option.none : Option Jvm.ClassFile.FieldType)).before a0 Z = true := hw _ (List.mem_of_getElem? (i := 118) rfl)
set_option maxRecDepth 65536 in
set_option maxHeartbeats 40000000 in
theorem con_try (l : Launch) (Z : State) (a0 : Array Value) (hw : ∀ d ∈ tables_1, d.before a0 Z = true)  (h : Heap) (a : Addr) (p : Nat) (hp : p < 66) (y : Int32) (A : Af Z h a .int 66 (one p y)) : Con l Z [a] (⟨"java/util/DualPivotQuicksort", "tryMergeRuns", "(Ljava/util/DualPivotQuicksort$Sorter;[III)Z"⟩ : MethodName) jdk_2529_method_9_code 12 ((some Jvm.ClassFile.FieldType.boolean)) ({ frames := 0, cells := 1, slots := 127, locals := 0 } : Room) #[.null, (.ref a), (.int (0 : Int32)), (.int (66 : Int32))] h [] (fun v h' => ∃ r : Int32, v = some (.int r) ∧ ((r = 1 ∧ Af Z h' a .int 66 (one (tgt y) y)) ∨ (r = 0 ∧ (((0 : Int32) < y ∧ 1 ≤ p ∧ p ≤ 64 ∧ Af Z h' a .int 66 (one p y)) ∨ (y < (0 : Int32) ∧ Af Z h' a .int 66 (one 0 y)))))) := by
  refine Con.of (plainFor_of_name pn0) (Ls := #[.val .null, .val (.ref a), .val (.int (0 : Int32)), .val (.int (66 : Int32)), .unset, .unset, .unset, .unset, .unset, .unset, .unset, .unset]) (fun m => by first | (simp [entryFrame, mkF, argsToLocals, Value.category]; done) | rfl) ?_
  intro p_ e_ s_ m_ bel_ mt_ cd_ C
  refine g_aconst_null C d_jdk_2529_method_9_0 (pc' := 1) rfl ?_
  refine g_astore C d_jdk_2529_method_9_1 rfl (Ls' := #[.val .null, .val (.ref a), .val (.int (0 : Int32)), .val (.int (66 : Int32)), .val .null, .unset, .unset, .unset, .unset, .unset, .unset, .unset]) rfl (pc' := 3) rfl ?_
  refine g_iload_n C d_jdk_2529_method_9_3 rfl (pc' := 4) rfl ?_
  refine g_iload_n C d_jdk_2529_method_9_4 rfl (pc' := 5) rfl ?_
  refine g_iadd C d_jdk_2529_method_9_5 (pc' := 6) rfl ?_
  refine g_norm (cells' := 0) (slots' := 0) (st' := [(.int (66 : Int32))]) (Nat.le_refl _) (Nat.le_refl _) (congrArg (fun z : Int32 => (Value.int z :: [] : List Value)) (by first | decide | exact Nat.le_of_ble_eq_true rfl)) ?_
  refine g_istore C d_jdk_2529_method_9_6 (Ls' := #[.val .null, .val (.ref a), .val (.int (0 : Int32)), .val (.int (66 : Int32)), .val .null, .val (.int (66 : Int32)), .unset, .unset, .unset, .unset, .unset, .unset]) rfl (pc' := 8) rfl ?_
  refine g_iconst C d_jdk_2529_method_9_8 (x := (1 : Int32)) rfl (pc' := 9) rfl ?_
  refine g_istore C d_jdk_2529_method_9_9 (Ls' := #[.val .null, .val (.ref a), .val (.int (0 : Int32)), .val (.int (66 : Int32)), .val .null, .val (.int (66 : Int32)), .val (.int (1 : Int32)), .unset, .unset, .unset, .unset, .unset]) rfl (pc' := 11) rfl ?_
  refine g_iload_n C d_jdk_2529_method_9_11 rfl (pc' := 12) rfl ?_
  refine g_istore C d_jdk_2529_method_9_12 (Ls' := #[.val .null, .val (.ref a), .val (.int (0 : Int32)), .val (.int (66 : Int32)), .val .null, .val (.int (66 : Int32)), .val (.int (1 : Int32)), .val (.int (0 : Int32)), .unset, .unset, .unset, .unset]) rfl (pc' := 14) rfl ?_
  refine g_iload_n C d_jdk_2529_method_9_14 rfl (pc' := 15) rfl ?_
  refine g_iconst C d_jdk_2529_method_9_15 (x := (1 : Int32)) rfl (pc' := 16) rfl ?_
  refine g_iadd C d_jdk_2529_method_9_16 (pc' := 17) rfl ?_
  refine g_norm (cells' := 0) (slots' := 0) (st' := [(.int (1 : Int32))]) (Nat.le_refl _) (Nat.le_refl _) (congrArg (fun z : Int32 => (Value.int z :: [] : List Value)) (by first | decide | exact Nat.le_of_ble_eq_true rfl)) ?_
  refine g_norm (cells' := 0) (slots' := 0) (st' := [(.int (Int32.ofNat 1))]) (Nat.le_refl _) (Nat.le_refl _) (congrArg (fun z : Int32 => (Value.int z :: [] : List Value)) (rfl)) ?_
  refine g_istore C d_jdk_2529_method_9_17 (Ls' := #[.val .null, .val (.ref a), .val (.int (0 : Int32)), .val (.int (66 : Int32)), .val .null, .val (.int (66 : Int32)), .val (.int (1 : Int32)), .val (.int (0 : Int32)), .val (.int (Int32.ofNat 1)), .unset, .unset, .unset]) rfl (pc' := 19) rfl ?_
  obtain rfl | ⟨hy, hp0⟩ | ⟨hy, hp0⟩ | ⟨hy, hp0⟩ | ⟨hy, hp0⟩ : y = 0 ∨ ((0 : Int32) < y ∧ p = 0) ∨ ((0 : Int32) < y ∧ 1 ≤ p) ∨ (y < (0 : Int32) ∧ p = 0) ∨ (y < (0 : Int32) ∧ 1 ≤ p) := (sgn y).elim Or.inl fun q => Or.inr (q.elim (fun q => (Nat.eq_zero_or_pos p).elim (fun r => Or.inl ⟨q, r⟩) fun r => Or.inr (Or.inl ⟨q, r⟩)) fun q => Or.inr (Or.inr ((Nat.eq_zero_or_pos p).elim (fun r => Or.inl ⟨q, r⟩) fun r => Or.inr ⟨q, r⟩)))
  · refine g_iload C d_jdk_2529_method_9_19 rfl (pc' := 21) rfl ?_
    refine g_iload C d_jdk_2529_method_9_21 rfl (pc' := 23) rfl ?_
    refine g_if_icmpge C d_jdk_2529_method_9_23 (by decide) (pcT := 322) rfl (pcF := 26) rfl (fun zz_ => absurd (by rw [show (66 : Int32) = Int32.ofNat 66 from rfl]; exact (lt_n (by omega) (by omega)).2 (by omega)) zz_) (fun _ => ?_)
    refine g_aload_n C d_jdk_2529_method_9_26 rfl rfl (pc' := 27) rfl ?_
    refine g_iload C d_jdk_2529_method_9_27 rfl (pc' := 29) rfl ?_
    refine g_iconst C d_jdk_2529_method_9_29 (x := (1 : Int32)) rfl (pc' := 30) rfl ?_
    refine g_isub C d_jdk_2529_method_9_30 (pc' := 31) rfl ?_
    refine g_norm (cells' := 0) (slots' := 0) (st' := [(.int (Int32.ofNat 0)), (.ref a)]) (Nat.le_refl _) (Nat.le_refl _) (congrArg (fun z : Int32 => (Value.int z :: [(.ref a)] : List Value)) ((sub_n (k := 1) (by omega)).trans (congrArg Int32.ofNat (by omega)))) ?_
    refine g_iaload C (A) (i32_nn (by omega)) (i := 0) (i32_clamp (by omega)) (by omega) (v := (.int (0 : Int32))) (one_z) d_jdk_2529_method_9_31 (pc' := 32) rfl ?_
    refine g_aload_n C d_jdk_2529_method_9_32 rfl rfl (pc' := 33) rfl ?_
    refine g_iload C d_jdk_2529_method_9_33 rfl (pc' := 35) rfl ?_
    refine g_iaload C (A) (i32_nn (by omega)) (i := 1) (i32_clamp (by omega)) (by omega) (v := (.int (0 : Int32))) (one_z) d_jdk_2529_method_9_35 (pc' := 36) rfl ?_
    refine g_if_icmpge C d_jdk_2529_method_9_36 (by decide) (pcT := 65) rfl (pcF := 39) rfl (fun _ => ?_) (fun zz_ => absurd zz_ (by first | decide | exact Nat.le_of_ble_eq_true rfl))
    refine g_aload_n C d_jdk_2529_method_9_65 rfl rfl (pc' := 66) rfl ?_
    refine g_iload C d_jdk_2529_method_9_66 rfl (pc' := 68) rfl ?_
    refine g_iconst C d_jdk_2529_method_9_68 (x := (1 : Int32)) rfl (pc' := 69) rfl ?_
    refine g_isub C d_jdk_2529_method_9_69 (pc' := 70) rfl ?_
    refine g_norm (cells' := 0) (slots' := 0) (st' := [(.int (Int32.ofNat 0)), (.ref a)]) (Nat.le_refl _) (Nat.le_refl _) (congrArg (fun z : Int32 => (Value.int z :: [(.ref a)] : List Value)) ((sub_n (k := 1) (by omega)).trans (congrArg Int32.ofNat (by omega)))) ?_
    refine g_iaload C (A) (i32_nn (by omega)) (i := 0) (i32_clamp (by omega)) (by omega) (v := (.int (0 : Int32))) (one_z) d_jdk_2529_method_9_70 (pc' := 71) rfl ?_
    refine g_aload_n C d_jdk_2529_method_9_71 rfl rfl (pc' := 72) rfl ?_
    refine g_iload C d_jdk_2529_method_9_72 rfl (pc' := 74) rfl ?_
    refine g_iaload C (A) (i32_nn (by omega)) (i := 1) (i32_clamp (by omega)) (by omega) (v := (.int (0 : Int32))) (one_z) d_jdk_2529_method_9_74 (pc' := 75) rfl ?_
    refine g_if_icmple C d_jdk_2529_method_9_75 (by decide) (pcT := 164) rfl (pcF := 78) rfl (fun _ => ?_) (fun zz_ => absurd zz_ (by first | decide | exact Nat.le_of_ble_eq_true rfl))
    refine g_aload_n C d_jdk_2529_method_9_164 rfl rfl (pc' := 165) rfl ?_
    refine g_iload C d_jdk_2529_method_9_165 rfl (pc' := 167) rfl ?_
    refine g_iaload C (A) (i32_nn (by omega)) (i := 1) (i32_clamp (by omega)) (by omega) (v := (.int (0 : Int32))) (one_z) d_jdk_2529_method_9_167 (pc' := 168) rfl ?_
    refine g_istore C d_jdk_2529_method_9_168 (Ls' := #[.val .null, .val (.ref a), .val (.int (0 : Int32)), .val (.int (66 : Int32)), .val .null, .val (.int (66 : Int32)), .val (.int (1 : Int32)), .val (.int (0 : Int32)), .val (.int (Int32.ofNat 1)), .val (.int (0 : Int32)), .unset, .unset]) rfl (pc' := 170) rfl ?_
    refine g_loop (α := Nat) (fun k => 1 ≤ k ∧ k < 66) (fun k => 66 - k) (fun k => #[.val .null, .val (.ref a), .val (.int (0 : Int32)), .val (.int (66 : Int32)), .val .null, .val (.int (66 : Int32)), .val (.int (1 : Int32)), .val (.int (0 : Int32)), .val (.int (Int32.ofNat k)), .val (.int (0 : Int32)), .unset, .unset]) (1) ⟨by omega, by omega⟩ rfl ?_
    intro k hk IH
    dsimp only
    refine g_iinc C d_jdk_2529_method_9_170 rfl (y := (Int32.ofNat (k + 1))) (i32_succ) (Ls' := #[.val .null, .val (.ref a), .val (.int (0 : Int32)), .val (.int (66 : Int32)), .val .null, .val (.int (66 : Int32)), .val (.int (1 : Int32)), .val (.int (0 : Int32)), .val (.int (Int32.ofNat (k + 1))), .val (.int (0 : Int32)), .unset, .unset]) rfl (pc' := 173) rfl ?_
    rcases Nat.lt_or_ge (k + 1) (66) with hc | hc
    · refine g_iload C d_jdk_2529_method_9_173 rfl (pc' := 175) rfl ?_
      refine g_iload C d_jdk_2529_method_9_175 rfl (pc' := 177) rfl ?_
      refine g_if_icmpge C d_jdk_2529_method_9_177 (by decide) (pcT := 192) rfl (pcF := 180) rfl (fun zz_ => absurd (by rw [show (66 : Int32) = Int32.ofNat 66 from rfl]; exact (lt_n (by omega) (by omega)).2 (by omega)) zz_) (fun _ => ?_)
      refine g_iload C d_jdk_2529_method_9_180 rfl (pc' := 182) rfl ?_
      refine g_aload_n C d_jdk_2529_method_9_182 rfl rfl (pc' := 183) rfl ?_
      refine g_iload C d_jdk_2529_method_9_183 rfl (pc' := 185) rfl ?_
      refine g_iaload C (A) (i32_nn (by omega)) (i := (k + 1)) (i32_clamp (by omega)) (by omega) (v := (.int (0 : Int32))) (one_z) d_jdk_2529_method_9_185 (pc' := 186) rfl ?_
      refine g_if_icmpne C d_jdk_2529_method_9_186 (by decide) (pcT := 192) rfl (pcF := 189) rfl (fun zz_ => absurd (rfl) zz_) (fun _ => ?_)
      refine g_goto C d_jdk_2529_method_9_189 (by decide) (pc' := 170) rfl ?_
      exact IH (k + 1) ⟨by omega, by omega⟩ (by omega)
    · obtain hkT : k + 1 = 66 := by omega
      rw [hkT]
      refine g_iload C d_jdk_2529_method_9_173 rfl (pc' := 175) rfl ?_
      refine g_iload C d_jdk_2529_method_9_175 rfl (pc' := 177) rfl ?_
      refine g_if_icmpge C d_jdk_2529_method_9_177 (by decide) (pcT := 192) rfl (pcF := 180) rfl (fun _ => ?_) (fun zz_ => absurd zz_ (by rw [show (66 : Int32) = Int32.ofNat 66 from rfl]; exact fun q => absurd ((lt_n (by omega) (by omega)).1 q) (by omega)))
      refine g_iload C d_jdk_2529_method_9_192 rfl (pc' := 194) rfl ?_
      refine g_iload C d_jdk_2529_method_9_194 rfl (pc' := 196) rfl ?_
      refine g_if_icmpge C d_jdk_2529_method_9_196 (by decide) (pcT := 202) rfl (pcF := 199) rfl (fun _ => ?_) (fun zz_ => absurd zz_ (by rw [show (66 : Int32) = Int32.ofNat 66 from rfl]; exact fun q => absurd ((lt_n (by omega) (by omega)).1 q) (by omega)))
      refine g_aload C d_jdk_2529_method_9_202 rfl rfl (pc' := 204) rfl ?_
      refine g_ifnonnull C rfl d_jdk_2529_method_9_204 (by decide) (pcT := 250) rfl (pcF := 207) rfl (fun _ z => nomatch z) (fun _ => ?_)
      refine g_iload C d_jdk_2529_method_9_207 rfl (pc' := 209) rfl ?_
      refine g_iload C d_jdk_2529_method_9_209 rfl (pc' := 211) rfl ?_
      refine g_if_icmpne C d_jdk_2529_method_9_211 (by decide) (pcT := 216) rfl (pcF := 214) rfl (fun zz_ => absurd (rfl) zz_) (fun _ => ?_)
      refine g_iconst C d_jdk_2529_method_9_214 (x := (1 : Int32)) rfl (pc' := 215) rfl ?_
      exact g_ireturnN C (by simp) d_jdk_2529_method_9_215 (⟨1, rfl, Or.inl ⟨rfl, A.to fun i hi => by rw [one_z, one_z]⟩⟩) (by first | decide | exact Nat.le_of_ble_eq_true rfl) (by first | decide | exact Nat.le_of_ble_eq_true rfl)
  · subst hp0
    obtain ⟨ny, ny0⟩ := pos_nn hy
    refine g_iload C d_jdk_2529_method_9_19 rfl (pc' := 21) rfl ?_
    refine g_iload C d_jdk_2529_method_9_21 rfl (pc' := 23) rfl ?_
    refine g_if_icmpge C d_jdk_2529_method_9_23 (by decide) (pcT := 322) rfl (pcF := 26) rfl (fun zz_ => absurd (by rw [show (66 : Int32) = Int32.ofNat 66 from rfl]; exact (lt_n (by omega) (by omega)).2 (by omega)) zz_) (fun _ => ?_)
    refine g_aload_n C d_jdk_2529_method_9_26 rfl rfl (pc' := 27) rfl ?_
    refine g_iload C d_jdk_2529_method_9_27 rfl (pc' := 29) rfl ?_
    refine g_iconst C d_jdk_2529_method_9_29 (x := (1 : Int32)) rfl (pc' := 30) rfl ?_
    refine g_isub C d_jdk_2529_method_9_30 (pc' := 31) rfl ?_
    refine g_norm (cells' := 0) (slots' := 0) (st' := [(.int (Int32.ofNat 0)), (.ref a)]) (Nat.le_refl _) (Nat.le_refl _) (congrArg (fun z : Int32 => (Value.int z :: [(.ref a)] : List Value)) ((sub_n (k := 1) (by omega)).trans (congrArg Int32.ofNat (by omega)))) ?_
    refine g_iaload C (A) (i32_nn (by omega)) (i := 0) (i32_clamp (by omega)) (by omega) (v := (.int y)) (one_eq rfl) d_jdk_2529_method_9_31 (pc' := 32) rfl ?_
    refine g_aload_n C d_jdk_2529_method_9_32 rfl rfl (pc' := 33) rfl ?_
    refine g_iload C d_jdk_2529_method_9_33 rfl (pc' := 35) rfl ?_
    refine g_iaload C (A) (i32_nn (by omega)) (i := 1) (i32_clamp (by omega)) (by omega) (v := (.int (0 : Int32))) (one_ne (by omega)) d_jdk_2529_method_9_35 (pc' := 36) rfl ?_
    refine g_if_icmpge C d_jdk_2529_method_9_36 (by decide) (pcT := 65) rfl (pcF := 39) rfl (fun _ => ?_) (fun zz_ => absurd zz_ (ny))
    refine g_aload_n C d_jdk_2529_method_9_65 rfl rfl (pc' := 66) rfl ?_
    refine g_iload C d_jdk_2529_method_9_66 rfl (pc' := 68) rfl ?_
    refine g_iconst C d_jdk_2529_method_9_68 (x := (1 : Int32)) rfl (pc' := 69) rfl ?_
    refine g_isub C d_jdk_2529_method_9_69 (pc' := 70) rfl ?_
    refine g_norm (cells' := 0) (slots' := 0) (st' := [(.int (Int32.ofNat 0)), (.ref a)]) (Nat.le_refl _) (Nat.le_refl _) (congrArg (fun z : Int32 => (Value.int z :: [(.ref a)] : List Value)) ((sub_n (k := 1) (by omega)).trans (congrArg Int32.ofNat (by omega)))) ?_
    refine g_iaload C (A) (i32_nn (by omega)) (i := 0) (i32_clamp (by omega)) (by omega) (v := (.int y)) (one_eq rfl) d_jdk_2529_method_9_70 (pc' := 71) rfl ?_
    refine g_aload_n C d_jdk_2529_method_9_71 rfl rfl (pc' := 72) rfl ?_
    refine g_iload C d_jdk_2529_method_9_72 rfl (pc' := 74) rfl ?_
    refine g_iaload C (A) (i32_nn (by omega)) (i := 1) (i32_clamp (by omega)) (by omega) (v := (.int (0 : Int32))) (one_ne (by omega)) d_jdk_2529_method_9_74 (pc' := 75) rfl ?_
    refine g_if_icmple C d_jdk_2529_method_9_75 (by decide) (pcT := 164) rfl (pcF := 78) rfl (fun zz_ => absurd (hy) zz_) (fun _ => ?_)
    refine g_loop (α := Nat) (fun k => 1 ≤ k ∧ k < 66) (fun k => 66 - k) (fun k => #[.val .null, .val (.ref a), .val (.int (0 : Int32)), .val (.int (66 : Int32)), .val .null, .val (.int (66 : Int32)), .val (.int (1 : Int32)), .val (.int (0 : Int32)), .val (.int (Int32.ofNat k)), .unset, .unset, .unset]) (1) ⟨by omega, by omega⟩ rfl ?_
    intro k hk IH
    dsimp only
    refine g_iinc C d_jdk_2529_method_9_78 rfl (y := (Int32.ofNat (k + 1))) (i32_succ) (Ls' := #[.val .null, .val (.ref a), .val (.int (0 : Int32)), .val (.int (66 : Int32)), .val .null, .val (.int (66 : Int32)), .val (.int (1 : Int32)), .val (.int (0 : Int32)), .val (.int (Int32.ofNat (k + 1))), .unset, .unset, .unset]) rfl (pc' := 81) rfl ?_
    rcases Nat.lt_or_ge (k + 1) 66 with hc | hc
    · refine g_iload C d_jdk_2529_method_9_81 rfl (pc' := 83) rfl ?_
      refine g_iload C d_jdk_2529_method_9_83 rfl (pc' := 85) rfl ?_
      refine g_if_icmpge C d_jdk_2529_method_9_85 (by decide) (pcT := 104) rfl (pcF := 88) rfl (fun zz_ => absurd (by rw [show (66 : Int32) = Int32.ofNat 66 from rfl]; exact (lt_n (by omega) (by omega)).2 (by omega)) zz_) (fun _ => ?_)
      refine g_aload_n C d_jdk_2529_method_9_88 rfl rfl (pc' := 89) rfl ?_
      refine g_iload C d_jdk_2529_method_9_89 rfl (pc' := 91) rfl ?_
      refine g_iconst C d_jdk_2529_method_9_91 (x := (1 : Int32)) rfl (pc' := 92) rfl ?_
      refine g_isub C d_jdk_2529_method_9_92 (pc' := 93) rfl ?_
      refine g_norm (cells' := 0) (slots' := 0) (st' := [(.int (Int32.ofNat k)), (.ref a)]) (Nat.le_refl _) (Nat.le_refl _) (congrArg (fun z : Int32 => (Value.int z :: [(.ref a)] : List Value)) ((sub_n (k := 1) (by omega)).trans (congrArg Int32.ofNat (by omega)))) ?_
      refine g_iaload C (A) (i32_nn (by omega)) (i := k) (i32_clamp (by omega)) (by omega) (v := (.int (0 : Int32))) (one_ne (by omega)) d_jdk_2529_method_9_93 (pc' := 94) rfl ?_
      refine g_aload_n C d_jdk_2529_method_9_94 rfl rfl (pc' := 95) rfl ?_
      refine g_iload C d_jdk_2529_method_9_95 rfl (pc' := 97) rfl ?_
      refine g_iaload C (A) (i32_nn (by omega)) (i := (k + 1)) (i32_clamp (by omega)) (by omega) (v := (.int (0 : Int32))) (one_ne (by omega)) d_jdk_2529_method_9_97 (pc' := 98) rfl ?_
      refine g_if_icmplt C d_jdk_2529_method_9_98 (by decide) (pcT := 104) rfl (pcF := 101) rfl (fun zz_ => absurd zz_ (by first | decide | exact Nat.le_of_ble_eq_true rfl)) (fun _ => ?_)
      refine g_goto C d_jdk_2529_method_9_101 (by decide) (pc' := 78) rfl ?_
      exact IH (k + 1) ⟨by omega, by omega⟩ (by omega)
    · obtain hkT : k + 1 = 66 := by omega
      rw [hkT]
      refine g_iload C d_jdk_2529_method_9_81 rfl (pc' := 83) rfl ?_
      refine g_iload C d_jdk_2529_method_9_83 rfl (pc' := 85) rfl ?_
      refine g_if_icmpge C d_jdk_2529_method_9_85 (by decide) (pcT := 104) rfl (pcF := 88) rfl (fun _ => ?_) (fun zz_ => absurd zz_ (by rw [show (66 : Int32) = Int32.ofNat 66 from rfl]; exact fun q => absurd ((lt_n (by omega) (by omega)).1 q) (by omega)))
      refine g_iload C d_jdk_2529_method_9_104 rfl (pc' := 106) rfl ?_
      refine g_iconst C d_jdk_2529_method_9_106 (x := (1 : Int32)) rfl (pc' := 107) rfl ?_
      refine g_isub C d_jdk_2529_method_9_107 (pc' := 108) rfl ?_
      refine g_norm (cells' := 0) (slots' := 0) (st' := [(.int (-1 : Int32))]) (Nat.le_refl _) (Nat.le_refl _) (congrArg (fun z : Int32 => (Value.int z :: [] : List Value)) (by first | decide | exact Nat.le_of_ble_eq_true rfl)) ?_
      refine g_istore C d_jdk_2529_method_9_108 (Ls' := #[.val .null, .val (.ref a), .val (.int (0 : Int32)), .val (.int (66 : Int32)), .val .null, .val (.int (66 : Int32)), .val (.int (1 : Int32)), .val (.int (0 : Int32)), .val (.int (Int32.ofNat 66)), .val (.int (-1 : Int32)), .unset, .unset]) rfl (pc' := 110) rfl ?_
      refine g_iload C d_jdk_2529_method_9_110 rfl (pc' := 112) rfl ?_
      refine g_istore C d_jdk_2529_method_9_112 (Ls' := #[.val .null, .val (.ref a), .val (.int (0 : Int32)), .val (.int (66 : Int32)), .val .null, .val (.int (66 : Int32)), .val (.int (1 : Int32)), .val (.int (0 : Int32)), .val (.int (Int32.ofNat 66)), .val (.int (-1 : Int32)), .val (.int (Int32.ofNat 66)), .unset]) rfl (pc' := 114) rfl ?_
      refine g_iinc C d_jdk_2529_method_9_114 rfl (y := (0 : Int32)) (by first | decide | exact Nat.le_of_ble_eq_true rfl) (Ls' := #[.val .null, .val (.ref a), .val (.int (0 : Int32)), .val (.int (66 : Int32)), .val .null, .val (.int (66 : Int32)), .val (.int (1 : Int32)), .val (.int (0 : Int32)), .val (.int (Int32.ofNat 66)), .val (.int (0 : Int32)), .val (.int (Int32.ofNat 66)), .unset]) rfl (pc' := 117) rfl ?_
      refine g_iload C d_jdk_2529_method_9_117 rfl (pc' := 119) rfl ?_
      refine g_iinc C d_jdk_2529_method_9_119 rfl (y := (65 : Int32)) (by first | decide | exact Nat.le_of_ble_eq_true rfl) (Ls' := #[.val .null, .val (.ref a), .val (.int (0 : Int32)), .val (.int (66 : Int32)), .val .null, .val (.int (66 : Int32)), .val (.int (1 : Int32)), .val (.int (0 : Int32)), .val (.int (Int32.ofNat 66)), .val (.int (0 : Int32)), .val (.int (65 : Int32)), .unset]) rfl (pc' := 122) rfl ?_
      refine g_iload C d_jdk_2529_method_9_122 rfl (pc' := 124) rfl ?_
      refine g_if_icmpge C d_jdk_2529_method_9_124 (by decide) (pcT := 161) rfl (pcF := 127) rfl (fun zz_ => absurd (by first | decide | exact Nat.le_of_ble_eq_true rfl) zz_) (fun _ => ?_)
      refine g_aload_n C d_jdk_2529_method_9_127 rfl rfl (pc' := 128) rfl ?_
      refine g_iload C d_jdk_2529_method_9_128 rfl (pc' := 130) rfl ?_
      refine g_iaload C (A) (by first | decide | exact Nat.le_of_ble_eq_true rfl) (i := 0) rfl (by first | decide | exact Nat.le_of_ble_eq_true rfl) (v := (.int y)) (one_eq rfl) d_jdk_2529_method_9_130 (pc' := 131) rfl ?_
      refine g_aload_n C d_jdk_2529_method_9_131 rfl rfl (pc' := 132) rfl ?_
      refine g_iload C d_jdk_2529_method_9_132 rfl (pc' := 134) rfl ?_
      refine g_iaload C (A) (by first | decide | exact Nat.le_of_ble_eq_true rfl) (i := 65) rfl (by first | decide | exact Nat.le_of_ble_eq_true rfl) (v := (.int (0 : Int32))) (one_ne (by omega)) d_jdk_2529_method_9_134 (pc' := 135) rfl ?_
      refine g_if_icmple C d_jdk_2529_method_9_135 (by decide) (pcT := 161) rfl (pcF := 138) rfl (fun zz_ => absurd (hy) zz_) (fun _ => ?_)
      refine g_aload_n C d_jdk_2529_method_9_138 rfl rfl (pc' := 139) rfl ?_
      refine g_iload C d_jdk_2529_method_9_139 rfl (pc' := 141) rfl ?_
      refine g_iaload C (A) (by first | decide | exact Nat.le_of_ble_eq_true rfl) (i := 0) rfl (by first | decide | exact Nat.le_of_ble_eq_true rfl) (v := (.int y)) (one_eq rfl) d_jdk_2529_method_9_141 (pc' := 142) rfl ?_
      refine g_istore C d_jdk_2529_method_9_142 (Ls' := #[.val .null, .val (.ref a), .val (.int (0 : Int32)), .val (.int (66 : Int32)), .val .null, .val (.int (66 : Int32)), .val (.int (1 : Int32)), .val (.int (0 : Int32)), .val (.int (Int32.ofNat 66)), .val (.int (0 : Int32)), .val (.int (65 : Int32)), .val (.int y)]) rfl (pc' := 144) rfl ?_
      refine g_aload_n C d_jdk_2529_method_9_144 rfl rfl (pc' := 145) rfl ?_
      refine g_iload C d_jdk_2529_method_9_145 rfl (pc' := 147) rfl ?_
      refine g_aload_n C d_jdk_2529_method_9_147 rfl rfl (pc' := 148) rfl ?_
      refine g_iload C d_jdk_2529_method_9_148 rfl (pc' := 150) rfl ?_
      refine g_iaload C (A) (by first | decide | exact Nat.le_of_ble_eq_true rfl) (i := 65) rfl (by first | decide | exact Nat.le_of_ble_eq_true rfl) (v := (.int (0 : Int32))) (one_ne (by omega)) d_jdk_2529_method_9_150 (pc' := 151) rfl ?_
      refine g_iastore C (A) (by first | decide | exact Nat.le_of_ble_eq_true rfl) (i := 0) rfl (by first | decide | exact Nat.le_of_ble_eq_true rfl) (Or.inl (List.mem_cons_self ..)) d_jdk_2529_method_9_151 (pc' := 152) rfl ?_
      intro h1 W1 A1
      refine g_aload_n C d_jdk_2529_method_9_152 rfl rfl (pc' := 153) rfl ?_
      refine g_iload C d_jdk_2529_method_9_153 rfl (pc' := 155) rfl ?_
      refine g_iload C d_jdk_2529_method_9_155 rfl (pc' := 157) rfl ?_
      refine g_iastore C (A1) (by first | decide | exact Nat.le_of_ble_eq_true rfl) (i := 65) rfl (by first | decide | exact Nat.le_of_ble_eq_true rfl) (Or.inl (List.mem_cons_self ..)) d_jdk_2529_method_9_157 (pc' := 158) rfl ?_
      intro h2 W2 A2
      have A3 : Af Z h2 a .int 66 (one 65 y) := A2.to fun i hi => by
        by_cases z : i = 65
        · rw [z, upd_same, one_eq rfl]
        · rw [upd_other z, one_ne z]
          by_cases z0 : i = 0
          · rw [z0, upd_same]
          · rw [upd_other z0, one_ne z0]
      refine g_goto C d_jdk_2529_method_9_158 (by decide) (pc' := 114) rfl ?_
      refine g_iinc C d_jdk_2529_method_9_114 rfl (y := (1 : Int32)) (by first | decide | exact Nat.le_of_ble_eq_true rfl) (Ls' := #[.val .null, .val (.ref a), .val (.int (0 : Int32)), .val (.int (66 : Int32)), .val .null, .val (.int (66 : Int32)), .val (.int (1 : Int32)), .val (.int (0 : Int32)), .val (.int (Int32.ofNat 66)), .val (.int (1 : Int32)), .val (.int (65 : Int32)), .val (.int y)]) rfl (pc' := 117) rfl ?_
      refine g_iload C d_jdk_2529_method_9_117 rfl (pc' := 119) rfl ?_
      refine g_iinc C d_jdk_2529_method_9_119 rfl (y := (64 : Int32)) (by first | decide | exact Nat.le_of_ble_eq_true rfl) (Ls' := #[.val .null, .val (.ref a), .val (.int (0 : Int32)), .val (.int (66 : Int32)), .val .null, .val (.int (66 : Int32)), .val (.int (1 : Int32)), .val (.int (0 : Int32)), .val (.int (Int32.ofNat 66)), .val (.int (1 : Int32)), .val (.int (64 : Int32)), .val (.int y)]) rfl (pc' := 122) rfl ?_
      refine g_iload C d_jdk_2529_method_9_122 rfl (pc' := 124) rfl ?_
      refine g_if_icmpge C d_jdk_2529_method_9_124 (by decide) (pcT := 161) rfl (pcF := 127) rfl (fun zz_ => absurd (by first | decide | exact Nat.le_of_ble_eq_true rfl) zz_) (fun _ => ?_)
      refine g_aload_n C d_jdk_2529_method_9_127 rfl rfl (pc' := 128) rfl ?_
      refine g_iload C d_jdk_2529_method_9_128 rfl (pc' := 130) rfl ?_
      refine g_iaload C (A3) (by first | decide | exact Nat.le_of_ble_eq_true rfl) (i := 1) rfl (by first | decide | exact Nat.le_of_ble_eq_true rfl) (v := (.int (0 : Int32))) (one_ne (by omega)) d_jdk_2529_method_9_130 (pc' := 131) rfl ?_
      refine g_aload_n C d_jdk_2529_method_9_131 rfl rfl (pc' := 132) rfl ?_
      refine g_iload C d_jdk_2529_method_9_132 rfl (pc' := 134) rfl ?_
      refine g_iaload C (A3) (by first | decide | exact Nat.le_of_ble_eq_true rfl) (i := 64) rfl (by first | decide | exact Nat.le_of_ble_eq_true rfl) (v := (.int (0 : Int32))) (one_ne (by omega)) d_jdk_2529_method_9_134 (pc' := 135) rfl ?_
      refine g_if_icmple C d_jdk_2529_method_9_135 (by decide) (pcT := 161) rfl (pcF := 138) rfl (fun _ => ?_) (fun zz_ => absurd zz_ (by first | decide | exact Nat.le_of_ble_eq_true rfl))
      refine g_goto C d_jdk_2529_method_9_161 (by decide) (pc' := 202) rfl ?_
      refine g_aload C d_jdk_2529_method_9_202 rfl rfl (pc' := 204) rfl ?_
      refine g_ifnonnull C rfl d_jdk_2529_method_9_204 (by decide) (pcT := 250) rfl (pcF := 207) rfl (fun _ z => nomatch z) (fun _ => ?_)
      refine g_iload C d_jdk_2529_method_9_207 rfl (pc' := 209) rfl ?_
      refine g_iload C d_jdk_2529_method_9_209 rfl (pc' := 211) rfl ?_
      refine g_if_icmpne C d_jdk_2529_method_9_211 (by decide) (pcT := 216) rfl (pcF := 214) rfl (fun zz_ => absurd (rfl) zz_) (fun _ => ?_)
      refine g_iconst C d_jdk_2529_method_9_214 (x := (1 : Int32)) rfl (pc' := 215) rfl ?_
      exact g_ireturnN C (by simp) d_jdk_2529_method_9_215 (⟨1, rfl, Or.inl ⟨rfl, by rw [show tgt y = 65 from if_pos hy]; exact A3⟩⟩) (by first | decide | exact Nat.le_of_ble_eq_true rfl) (by first | decide | exact Nat.le_of_ble_eq_true rfl)
  · obtain ⟨ny, ny0⟩ := pos_nn hy
    have H19 : ∀ (o9 : Slot), One o9 → G p_ l e_ ({ frames := 0, cells := 1, slots := 127, locals := 0 } : Room) s_ m_ #[.null, (.ref a), (.int (0 : Int32)), (.int (66 : Int32))] bel_ mt_ cd_ [a] (EndA s_ [a] (fun v h' => ∃ r : Int32, v = some (.int r) ∧ ((r = 1 ∧ Af Z h' a .int 66 (one (tgt y) y)) ∨ (r = 0 ∧ (((0 : Int32) < y ∧ 1 ≤ p ∧ p ≤ 64 ∧ Af Z h' a .int 66 (one p y)) ∨ (y < (0 : Int32) ∧ Af Z h' a .int 66 (one 0 y)))))) ({ frames := 0, cells := 1, slots := 127, locals := 0 } : Room).cells ({ frames := 0, cells := 1, slots := 127, locals := 0 } : Room).slots) h 0 0 19 #[.val .null, .val (.ref a), .val (.int (0 : Int32)), .val (.int (66 : Int32)), .val .null, .val (.int (66 : Int32)), .val (.int (1 : Int32)), .val (.int (0 : Int32)), .val (.int (Int32.ofNat p)), o9, .unset, .unset] [] := by
      intro o9 ho9
      refine g_iload C d_jdk_2529_method_9_19 rfl (pc' := 21) rfl ?_
      refine g_iload C d_jdk_2529_method_9_21 rfl (pc' := 23) rfl ?_
      refine g_if_icmpge C d_jdk_2529_method_9_23 (by decide) (pcT := 322) rfl (pcF := 26) rfl (fun zz_ => absurd (by rw [show (66 : Int32) = Int32.ofNat 66 from rfl]; exact (lt_n (by omega) (by omega)).2 (by omega)) zz_) (fun _ => ?_)
      refine g_aload_n C d_jdk_2529_method_9_26 rfl rfl (pc' := 27) rfl ?_
      refine g_iload C d_jdk_2529_method_9_27 rfl (pc' := 29) rfl ?_
      refine g_iconst C d_jdk_2529_method_9_29 (x := (1 : Int32)) rfl (pc' := 30) rfl ?_
      refine g_isub C d_jdk_2529_method_9_30 (pc' := 31) rfl ?_
      refine g_norm (cells' := 0) (slots' := 0) (st' := [(.int (Int32.ofNat ((p - 1)))), (.ref a)]) (Nat.le_refl _) (Nat.le_refl _) (congrArg (fun z : Int32 => (Value.int z :: [(.ref a)] : List Value)) ((sub_n (k := 1) (by omega)).trans (congrArg Int32.ofNat (by omega)))) ?_
      refine g_iaload C (A) (i32_nn (by omega)) (i := (p - 1)) (i32_clamp (by omega)) (by omega) (v := (.int (0 : Int32))) (one_ne (by omega)) d_jdk_2529_method_9_31 (pc' := 32) rfl ?_
      refine g_aload_n C d_jdk_2529_method_9_32 rfl rfl (pc' := 33) rfl ?_
      refine g_iload C d_jdk_2529_method_9_33 rfl (pc' := 35) rfl ?_
      refine g_iaload C (A) (i32_nn (by omega)) (i := p) (i32_clamp (by omega)) (by omega) (v := (.int y)) (one_eq rfl) d_jdk_2529_method_9_35 (pc' := 36) rfl ?_
      refine g_if_icmpge C d_jdk_2529_method_9_36 (by decide) (pcT := 65) rfl (pcF := 39) rfl (fun zz_ => absurd (hy) zz_) (fun _ => ?_)
      refine g_iinc C d_jdk_2529_method_9_39 rfl (y := (Int32.ofNat (p + 1))) (i32_succ) (Ls' := #[.val .null, .val (.ref a), .val (.int (0 : Int32)), .val (.int (66 : Int32)), .val .null, .val (.int (66 : Int32)), .val (.int (1 : Int32)), .val (.int (0 : Int32)), .val (.int (Int32.ofNat (p + 1))), o9, .unset, .unset]) rfl (pc' := 42) rfl ?_
      rcases Nat.lt_or_ge (p + 1) 66 with hc | hc
      · refine g_iload C d_jdk_2529_method_9_42 rfl (pc' := 44) rfl ?_
        refine g_iload C d_jdk_2529_method_9_44 rfl (pc' := 46) rfl ?_
        refine g_if_icmpge C d_jdk_2529_method_9_46 (by decide) (pcT := 202) rfl (pcF := 49) rfl (fun zz_ => absurd (by rw [show (66 : Int32) = Int32.ofNat 66 from rfl]; exact (lt_n (by omega) (by omega)).2 (by omega)) zz_) (fun _ => ?_)
        refine g_aload_n C d_jdk_2529_method_9_49 rfl rfl (pc' := 50) rfl ?_
        refine g_iload C d_jdk_2529_method_9_50 rfl (pc' := 52) rfl ?_
        refine g_iconst C d_jdk_2529_method_9_52 (x := (1 : Int32)) rfl (pc' := 53) rfl ?_
        refine g_isub C d_jdk_2529_method_9_53 (pc' := 54) rfl ?_
        refine g_norm (cells' := 0) (slots' := 0) (st' := [(.int (Int32.ofNat p)), (.ref a)]) (Nat.le_refl _) (Nat.le_refl _) (congrArg (fun z : Int32 => (Value.int z :: [(.ref a)] : List Value)) ((sub_n (k := 1) (by omega)).trans (congrArg Int32.ofNat (by omega)))) ?_
        refine g_iaload C (A) (i32_nn (by omega)) (i := p) (i32_clamp (by omega)) (by omega) (v := (.int y)) (one_eq rfl) d_jdk_2529_method_9_54 (pc' := 55) rfl ?_
        refine g_aload_n C d_jdk_2529_method_9_55 rfl rfl (pc' := 56) rfl ?_
        refine g_iload C d_jdk_2529_method_9_56 rfl (pc' := 58) rfl ?_
        refine g_iaload C (A) (i32_nn (by omega)) (i := (p + 1)) (i32_clamp (by omega)) (by omega) (v := (.int (0 : Int32))) (one_ne (by omega)) d_jdk_2529_method_9_58 (pc' := 59) rfl ?_
        refine g_if_icmpgt C d_jdk_2529_method_9_59 (by decide) (pcT := 202) rfl (pcF := 62) rfl (fun _ => ?_) (fun zz_ => absurd (hy) zz_)
        refine g_aload C d_jdk_2529_method_9_202 rfl rfl (pc' := 204) rfl ?_
        refine g_ifnonnull C rfl d_jdk_2529_method_9_204 (by decide) (pcT := 250) rfl (pcF := 207) rfl (fun _ z => nomatch z) (fun _ => ?_)
        refine g_iload C d_jdk_2529_method_9_207 rfl (pc' := 209) rfl ?_
        refine g_iload C d_jdk_2529_method_9_209 rfl (pc' := 211) rfl ?_
        refine g_if_icmpne C d_jdk_2529_method_9_211 (by decide) (pcT := 216) rfl (pcF := 214) rfl (fun _ => ?_) (fun zz_ => absurd zz_ (by rw [show (66 : Int32) = Int32.ofNat 66 from rfl, eq_n (by omega) (by omega)]; omega))
        refine g_iload C d_jdk_2529_method_9_216 rfl (pc' := 218) rfl ?_
        refine g_iload_n C d_jdk_2529_method_9_218 rfl (pc' := 219) rfl ?_
        refine g_isub C d_jdk_2529_method_9_219 (pc' := 220) rfl ?_
        refine g_norm (cells' := 0) (slots' := 0) (st' := [(.int (Int32.ofNat (p + 1)))]) (Nat.le_refl _) (Nat.le_refl _) (congrArg (fun z : Int32 => (Value.int z :: [] : List Value)) (Int32.sub_zero _)) ?_
        refine g_bipush C d_jdk_2529_method_9_220 (x := (16 : Int32)) rfl (pc' := 222) rfl ?_
        rcases Nat.lt_or_ge (p + 1) 16 with hd | hd
        · refine g_if_icmpge C d_jdk_2529_method_9_222 (by decide) (pcT := 227) rfl (pcF := 225) rfl (fun zz_ => absurd (by rw [show (16 : Int32) = Int32.ofNat 16 from rfl]; exact (lt_n (by omega) (by omega)).2 (by omega)) zz_) (fun _ => ?_)
          refine g_iconst C d_jdk_2529_method_9_225 (x := (0 : Int32)) rfl (pc' := 226) rfl ?_
          exact g_ireturnN C (by simp) d_jdk_2529_method_9_226 (⟨0, rfl, Or.inr ⟨rfl, Or.inl ⟨hy, hp0, by omega, A⟩⟩⟩) (by first | decide | exact Nat.le_of_ble_eq_true rfl) (by first | decide | exact Nat.le_of_ble_eq_true rfl)
        · refine g_if_icmpge C d_jdk_2529_method_9_222 (by decide) (pcT := 227) rfl (pcF := 225) rfl (fun _ => ?_) (fun zz_ => absurd zz_ (by rw [show (16 : Int32) = Int32.ofNat 16 from rfl]; exact fun q => absurd ((lt_n (by omega) (by omega)).1 q) (by omega)))
          refine g_iload_n C d_jdk_2529_method_9_227 rfl (pc' := 228) rfl ?_
          refine g_bipush C d_jdk_2529_method_9_228 (x := (10 : Int32)) rfl (pc' := 230) rfl ?_
          refine g_ishr C d_jdk_2529_method_9_230 (pc' := 231) rfl ?_
          refine g_norm (cells' := 0) (slots' := 0) (st' := [(.int (0 : Int32))]) (Nat.le_refl _) (Nat.le_refl _) (congrArg (fun z : Int32 => (Value.int z :: [] : List Value)) (by first | decide | exact Nat.le_of_ble_eq_true rfl)) ?_
          refine g_bipush C d_jdk_2529_method_9_231 (x := (127 : Int32)) rfl (pc' := 233) rfl ?_
          refine g_ior C d_jdk_2529_method_9_233 (pc' := 234) rfl ?_
          refine g_norm (cells' := 0) (slots' := 0) (st' := [(.int (127 : Int32))]) (Nat.le_refl _) (Nat.le_refl _) (congrArg (fun z : Int32 => (Value.int z :: [] : List Value)) (by first | decide | exact Nat.le_of_ble_eq_true rfl)) ?_
          refine g_sipush C d_jdk_2529_method_9_234 (x := (1023 : Int32)) rfl (pc' := 237) rfl ?_
          refine g_iand C d_jdk_2529_method_9_237 (pc' := 238) rfl ?_
          refine g_norm (cells' := 0) (slots' := 0) (st' := [(.int (127 : Int32))]) (Nat.le_refl _) (Nat.le_refl _) (congrArg (fun z : Int32 => (Value.int z :: [] : List Value)) (by first | decide | exact Nat.le_of_ble_eq_true rfl)) ?_
          refine g_newarray C (aty := .int) (n := 127) (Wx1 hw) (by first | decide | exact Nat.le_of_ble_eq_true rfl) rfl (by first | decide | exact Nat.le_of_ble_eq_true rfl) d_jdk_2529_method_9_238 (pc' := 240) rfl (by first | decide | exact Nat.le_of_ble_eq_true rfl) (by first | decide | exact Nat.le_of_ble_eq_true rfl) ?_
          intro h1 r hr_ hr0 Xr Ar
          refine g_norm (cells' := 1) (slots' := 127) (st' := [(.ref r)]) (by first | decide | exact Nat.le_of_ble_eq_true rfl) (by first | decide | exact Nat.le_of_ble_eq_true rfl) rfl ?_
          have hra : a ≠ r := by rw [hr_]; exact Nat.ne_of_lt (A).lt
          refine g_astore C d_jdk_2529_method_9_240 rfl (Ls' := #[.val .null, .val (.ref a), .val (.int (0 : Int32)), .val (.int (66 : Int32)), .val (.ref r), .val (.int (66 : Int32)), .val (.int (1 : Int32)), .val (.int (0 : Int32)), .val (.int (Int32.ofNat (p + 1))), o9, .unset, .unset]) rfl (pc' := 242) rfl ?_
          refine g_aload C d_jdk_2529_method_9_242 rfl rfl (pc' := 244) rfl ?_
          refine g_iconst C d_jdk_2529_method_9_244 (x := (0 : Int32)) rfl (pc' := 245) rfl ?_
          refine g_iload_n C d_jdk_2529_method_9_245 rfl (pc' := 246) rfl ?_
          refine g_iastore C (Ar) (by first | decide | exact Nat.le_of_ble_eq_true rfl) (i := 0) rfl (by first | decide | exact Nat.le_of_ble_eq_true rfl) (Or.inr hr0) d_jdk_2529_method_9_246 (pc' := 247) rfl ?_
          intro h2 Wr1 Ar1
          refine g_goto C d_jdk_2529_method_9_247 (by decide) (pc' := 309) rfl ?_
          refine g_aload C d_jdk_2529_method_9_309 rfl rfl (pc' := 311) rfl ?_
          refine g_iload C d_jdk_2529_method_9_311 rfl (pc' := 313) rfl ?_
          refine g_iload C d_jdk_2529_method_9_313 rfl (pc' := 315) rfl ?_
          refine g_dup C d_jdk_2529_method_9_315 rfl (pc' := 316) rfl ?_
          refine g_istore C d_jdk_2529_method_9_316 (Ls' := #[.val .null, .val (.ref a), .val (.int (0 : Int32)), .val (.int (66 : Int32)), .val (.ref r), .val (.int (66 : Int32)), .val (.int (1 : Int32)), .val (.int (Int32.ofNat (p + 1))), .val (.int (Int32.ofNat (p + 1))), o9, .unset, .unset]) rfl (pc' := 318) rfl ?_
          refine g_iastore C (Ar1) (by first | decide | exact Nat.le_of_ble_eq_true rfl) (i := 1) rfl (by first | decide | exact Nat.le_of_ble_eq_true rfl) (Or.inr hr0) d_jdk_2529_method_9_318 (pc' := 319) rfl ?_
          intro h3 Wr2 Ar2
          have A1 := (((A).ext Xr).other Wr1 hra).other Wr2 hra
          refine g_goto C d_jdk_2529_method_9_319 (by decide) (pc' := 19) rfl ?_
          refine g_iload C d_jdk_2529_method_9_19 rfl (pc' := 21) rfl ?_
          refine g_iload C d_jdk_2529_method_9_21 rfl (pc' := 23) rfl ?_
          refine g_if_icmpge C d_jdk_2529_method_9_23 (by decide) (pcT := 322) rfl (pcF := 26) rfl (fun zz_ => absurd (by rw [show (66 : Int32) = Int32.ofNat 66 from rfl]; exact (lt_n (by omega) (by omega)).2 (by omega)) zz_) (fun _ => ?_)
          refine g_aload_n C d_jdk_2529_method_9_26 rfl rfl (pc' := 27) rfl ?_
          refine g_iload C d_jdk_2529_method_9_27 rfl (pc' := 29) rfl ?_
          refine g_iconst C d_jdk_2529_method_9_29 (x := (1 : Int32)) rfl (pc' := 30) rfl ?_
          refine g_isub C d_jdk_2529_method_9_30 (pc' := 31) rfl ?_
          refine g_norm (cells' := 1) (slots' := 127) (st' := [(.int (Int32.ofNat p)), (.ref a)]) (Nat.le_refl _) (Nat.le_refl _) (congrArg (fun z : Int32 => (Value.int z :: [(.ref a)] : List Value)) ((sub_n (k := 1) (by omega)).trans (congrArg Int32.ofNat (by omega)))) ?_
          refine g_iaload C (A1) (i32_nn (by omega)) (i := p) (i32_clamp (by omega)) (by omega) (v := (.int y)) (one_eq rfl) d_jdk_2529_method_9_31 (pc' := 32) rfl ?_
          refine g_aload_n C d_jdk_2529_method_9_32 rfl rfl (pc' := 33) rfl ?_
          refine g_iload C d_jdk_2529_method_9_33 rfl (pc' := 35) rfl ?_
          refine g_iaload C (A1) (i32_nn (by omega)) (i := (p + 1)) (i32_clamp (by omega)) (by omega) (v := (.int (0 : Int32))) (one_ne (by omega)) d_jdk_2529_method_9_35 (pc' := 36) rfl ?_
          refine g_if_icmpge C d_jdk_2529_method_9_36 (by decide) (pcT := 65) rfl (pcF := 39) rfl (fun _ => ?_) (fun zz_ => absurd zz_ (ny))
          refine g_aload_n C d_jdk_2529_method_9_65 rfl rfl (pc' := 66) rfl ?_
          refine g_iload C d_jdk_2529_method_9_66 rfl (pc' := 68) rfl ?_
          refine g_iconst C d_jdk_2529_method_9_68 (x := (1 : Int32)) rfl (pc' := 69) rfl ?_
          refine g_isub C d_jdk_2529_method_9_69 (pc' := 70) rfl ?_
          refine g_norm (cells' := 1) (slots' := 127) (st' := [(.int (Int32.ofNat p)), (.ref a)]) (Nat.le_refl _) (Nat.le_refl _) (congrArg (fun z : Int32 => (Value.int z :: [(.ref a)] : List Value)) ((sub_n (k := 1) (by omega)).trans (congrArg Int32.ofNat (by omega)))) ?_
          refine g_iaload C (A1) (i32_nn (by omega)) (i := p) (i32_clamp (by omega)) (by omega) (v := (.int y)) (one_eq rfl) d_jdk_2529_method_9_70 (pc' := 71) rfl ?_
          refine g_aload_n C d_jdk_2529_method_9_71 rfl rfl (pc' := 72) rfl ?_
          refine g_iload C d_jdk_2529_method_9_72 rfl (pc' := 74) rfl ?_
          refine g_iaload C (A1) (i32_nn (by omega)) (i := (p + 1)) (i32_clamp (by omega)) (by omega) (v := (.int (0 : Int32))) (one_ne (by omega)) d_jdk_2529_method_9_74 (pc' := 75) rfl ?_
          refine g_if_icmple C d_jdk_2529_method_9_75 (by decide) (pcT := 164) rfl (pcF := 78) rfl (fun zz_ => absurd (hy) zz_) (fun _ => ?_)
          refine g_loop (α := Nat) (fun k => (p + 1) ≤ k ∧ k < 66) (fun k => 66 - k) (fun k => #[.val .null, .val (.ref a), .val (.int (0 : Int32)), .val (.int (66 : Int32)), .val (.ref r), .val (.int (66 : Int32)), .val (.int (1 : Int32)), .val (.int (Int32.ofNat (p + 1))), .val (.int (Int32.ofNat k)), o9, .unset, .unset]) ((p + 1)) ⟨by omega, by omega⟩ rfl ?_
          intro k hk IH
          dsimp only
          refine g_iinc C d_jdk_2529_method_9_78 rfl (y := (Int32.ofNat (k + 1))) (i32_succ) (Ls' := #[.val .null, .val (.ref a), .val (.int (0 : Int32)), .val (.int (66 : Int32)), .val (.ref r), .val (.int (66 : Int32)), .val (.int (1 : Int32)), .val (.int (Int32.ofNat (p + 1))), .val (.int (Int32.ofNat (k + 1))), o9, .unset, .unset]) rfl (pc' := 81) rfl ?_
          rcases Nat.lt_or_ge (k + 1) 66 with hc | hc
          · refine g_iload C d_jdk_2529_method_9_81 rfl (pc' := 83) rfl ?_
            refine g_iload C d_jdk_2529_method_9_83 rfl (pc' := 85) rfl ?_
            refine g_if_icmpge C d_jdk_2529_method_9_85 (by decide) (pcT := 104) rfl (pcF := 88) rfl (fun zz_ => absurd (by rw [show (66 : Int32) = Int32.ofNat 66 from rfl]; exact (lt_n (by omega) (by omega)).2 (by omega)) zz_) (fun _ => ?_)
            refine g_aload_n C d_jdk_2529_method_9_88 rfl rfl (pc' := 89) rfl ?_
            refine g_iload C d_jdk_2529_method_9_89 rfl (pc' := 91) rfl ?_
            refine g_iconst C d_jdk_2529_method_9_91 (x := (1 : Int32)) rfl (pc' := 92) rfl ?_
            refine g_isub C d_jdk_2529_method_9_92 (pc' := 93) rfl ?_
            refine g_norm (cells' := 1) (slots' := 127) (st' := [(.int (Int32.ofNat k)), (.ref a)]) (Nat.le_refl _) (Nat.le_refl _) (congrArg (fun z : Int32 => (Value.int z :: [(.ref a)] : List Value)) ((sub_n (k := 1) (by omega)).trans (congrArg Int32.ofNat (by omega)))) ?_
            refine g_iaload C (A1) (i32_nn (by omega)) (i := k) (i32_clamp (by omega)) (by omega) (v := (.int (0 : Int32))) (one_ne (by omega)) d_jdk_2529_method_9_93 (pc' := 94) rfl ?_
            refine g_aload_n C d_jdk_2529_method_9_94 rfl rfl (pc' := 95) rfl ?_
            refine g_iload C d_jdk_2529_method_9_95 rfl (pc' := 97) rfl ?_
            refine g_iaload C (A1) (i32_nn (by omega)) (i := (k + 1)) (i32_clamp (by omega)) (by omega) (v := (.int (0 : Int32))) (one_ne (by omega)) d_jdk_2529_method_9_97 (pc' := 98) rfl ?_
            refine g_if_icmplt C d_jdk_2529_method_9_98 (by decide) (pcT := 104) rfl (pcF := 101) rfl (fun zz_ => absurd zz_ (by first | decide | exact Nat.le_of_ble_eq_true rfl)) (fun _ => ?_)
            refine g_goto C d_jdk_2529_method_9_101 (by decide) (pc' := 78) rfl ?_
            exact IH (k + 1) ⟨by omega, by omega⟩ (by omega)
          · obtain hkT : k + 1 = 66 := by omega
            rw [hkT]
            refine g_iload C d_jdk_2529_method_9_81 rfl (pc' := 83) rfl ?_
            refine g_iload C d_jdk_2529_method_9_83 rfl (pc' := 85) rfl ?_
            refine g_if_icmpge C d_jdk_2529_method_9_85 (by decide) (pcT := 104) rfl (pcF := 88) rfl (fun _ => ?_) (fun zz_ => absurd zz_ (by rw [show (66 : Int32) = Int32.ofNat 66 from rfl]; exact fun q => absurd ((lt_n (by omega) (by omega)).1 q) (by omega)))
            refine g_iload C d_jdk_2529_method_9_104 rfl (pc' := 106) rfl ?_
            refine g_iconst C d_jdk_2529_method_9_106 (x := (1 : Int32)) rfl (pc' := 107) rfl ?_
            refine g_isub C d_jdk_2529_method_9_107 (pc' := 108) rfl ?_
            refine g_norm (cells' := 1) (slots' := 127) (st' := [(.int (Int32.ofNat p))]) (Nat.le_refl _) (Nat.le_refl _) (congrArg (fun z : Int32 => (Value.int z :: [] : List Value)) ((sub_n (k := 1) (by omega)).trans (congrArg Int32.ofNat (by omega)))) ?_
            refine g_istore C d_jdk_2529_method_9_108 (Ls' := #[.val .null, .val (.ref a), .val (.int (0 : Int32)), .val (.int (66 : Int32)), .val (.ref r), .val (.int (66 : Int32)), .val (.int (1 : Int32)), .val (.int (Int32.ofNat (p + 1))), .val (.int (Int32.ofNat 66)), .val (.int (Int32.ofNat p)), .unset, .unset]) (by rw [XS.store1 (o := o9) rfl ho9 rfl]; rfl) (pc' := 110) rfl ?_
            refine g_iload C d_jdk_2529_method_9_110 rfl (pc' := 112) rfl ?_
            refine g_istore C d_jdk_2529_method_9_112 (Ls' := #[.val .null, .val (.ref a), .val (.int (0 : Int32)), .val (.int (66 : Int32)), .val (.ref r), .val (.int (66 : Int32)), .val (.int (1 : Int32)), .val (.int (Int32.ofNat (p + 1))), .val (.int (Int32.ofNat 66)), .val (.int (Int32.ofNat p)), .val (.int (Int32.ofNat 66)), .unset]) rfl (pc' := 114) rfl ?_
            refine g_iinc C d_jdk_2529_method_9_114 rfl (y := (Int32.ofNat (p + 1))) (i32_succ) (Ls' := #[.val .null, .val (.ref a), .val (.int (0 : Int32)), .val (.int (66 : Int32)), .val (.ref r), .val (.int (66 : Int32)), .val (.int (1 : Int32)), .val (.int (Int32.ofNat (p + 1))), .val (.int (Int32.ofNat 66)), .val (.int (Int32.ofNat (p + 1))), .val (.int (Int32.ofNat 66)), .unset]) rfl (pc' := 117) rfl ?_
            refine g_iload C d_jdk_2529_method_9_117 rfl (pc' := 119) rfl ?_
            refine g_iinc C d_jdk_2529_method_9_119 rfl (y := (Int32.ofNat 65)) (dec_n (n := 66) (by omega)) (Ls' := #[.val .null, .val (.ref a), .val (.int (0 : Int32)), .val (.int (66 : Int32)), .val (.ref r), .val (.int (66 : Int32)), .val (.int (1 : Int32)), .val (.int (Int32.ofNat (p + 1))), .val (.int (Int32.ofNat 66)), .val (.int (Int32.ofNat (p + 1))), .val (.int (Int32.ofNat 65)), .unset]) rfl (pc' := 122) rfl ?_
            refine g_iload C d_jdk_2529_method_9_122 rfl (pc' := 124) rfl ?_
            have H202 : ∀ (_ : True), G p_ l e_ ({ frames := 0, cells := 1, slots := 127, locals := 0 } : Room) s_ m_ #[.null, (.ref a), (.int (0 : Int32)), (.int (66 : Int32))] bel_ mt_ cd_ [a] (EndA s_ [a] (fun v h' => ∃ r : Int32, v = some (.int r) ∧ ((r = 1 ∧ Af Z h' a .int 66 (one (tgt y) y)) ∨ (r = 0 ∧ (((0 : Int32) < y ∧ 1 ≤ p ∧ p ≤ 64 ∧ Af Z h' a .int 66 (one p y)) ∨ (y < (0 : Int32) ∧ Af Z h' a .int 66 (one 0 y)))))) ({ frames := 0, cells := 1, slots := 127, locals := 0 } : Room).cells ({ frames := 0, cells := 1, slots := 127, locals := 0 } : Room).slots) h3 1 127 202 #[.val .null, .val (.ref a), .val (.int (0 : Int32)), .val (.int (66 : Int32)), .val (.ref r), .val (.int (66 : Int32)), .val (.int (1 : Int32)), .val (.int (Int32.ofNat (p + 1))), .val (.int (Int32.ofNat 66)), .val (.int (Int32.ofNat (p + 1))), .val (.int (Int32.ofNat 65)), .unset] [] := by
              intro _
              refine g_aload C d_jdk_2529_method_9_202 rfl rfl (pc' := 204) rfl ?_
              refine g_ifnonnull C rfl d_jdk_2529_method_9_204 (by decide) (pcT := 250) rfl (pcF := 207) rfl (fun _ _ => ?_) (fun z => nomatch z)
              refine g_aload_n C d_jdk_2529_method_9_250 rfl rfl (pc' := 251) rfl ?_
              refine g_iload C d_jdk_2529_method_9_251 rfl (pc' := 253) rfl ?_
              refine g_iconst C d_jdk_2529_method_9_253 (x := (1 : Int32)) rfl (pc' := 254) rfl ?_
              refine g_isub C d_jdk_2529_method_9_254 (pc' := 255) rfl ?_
              refine g_norm (cells' := 1) (slots' := 127) (st' := [(.int (Int32.ofNat p)), (.ref a)]) (Nat.le_refl _) (Nat.le_refl _) (congrArg (fun z : Int32 => (Value.int z :: [(.ref a)] : List Value)) ((sub_n (k := 1) (by omega)).trans (congrArg Int32.ofNat (by omega)))) ?_
              refine g_iaload C (A1) (i32_nn (by omega)) (i := p) (i32_clamp (by omega)) (by omega) (v := (.int y)) (one_eq rfl) d_jdk_2529_method_9_255 (pc' := 256) rfl ?_
              refine g_aload_n C d_jdk_2529_method_9_256 rfl rfl (pc' := 257) rfl ?_
              refine g_iload C d_jdk_2529_method_9_257 rfl (pc' := 259) rfl ?_
              refine g_iaload C (A1) (i32_nn (by omega)) (i := (p + 1)) (i32_clamp (by omega)) (by omega) (v := (.int (0 : Int32))) (one_ne (by omega)) d_jdk_2529_method_9_259 (pc' := 260) rfl ?_
              refine g_if_icmple C d_jdk_2529_method_9_260 (by decide) (pcT := 309) rfl (pcF := 263) rfl (fun zz_ => absurd (hy) zz_) (fun _ => ?_)
              refine g_iload C d_jdk_2529_method_9_263 rfl (pc' := 265) rfl ?_
              refine g_iload C d_jdk_2529_method_9_265 rfl (pc' := 267) rfl ?_
              refine g_iload_n C d_jdk_2529_method_9_267 rfl (pc' := 268) rfl ?_
              refine g_isub C d_jdk_2529_method_9_268 (pc' := 269) rfl ?_
              refine g_norm (cells' := 1) (slots' := 127) (st' := [(.int (66 : Int32)), (.int (1 : Int32))]) (Nat.le_refl _) (Nat.le_refl _) (congrArg (fun z : Int32 => (Value.int z :: [(.int (1 : Int32))] : List Value)) (Int32.sub_zero _)) ?_
              refine g_bipush C d_jdk_2529_method_9_269 (x := (7 : Int32)) rfl (pc' := 271) rfl ?_
              refine g_ishr C d_jdk_2529_method_9_271 (pc' := 272) rfl ?_
              refine g_norm (cells' := 1) (slots' := 127) (st' := [(.int (0 : Int32)), (.int (1 : Int32))]) (Nat.le_refl _) (Nat.le_refl _) (congrArg (fun z : Int32 => (Value.int z :: [(.int (1 : Int32))] : List Value)) (by first | decide | exact Nat.le_of_ble_eq_true rfl)) ?_
              refine g_if_icmple C d_jdk_2529_method_9_272 (by decide) (pcT := 277) rfl (pcF := 275) rfl (fun zz_ => absurd (by first | decide | exact Nat.le_of_ble_eq_true rfl) zz_) (fun _ => ?_)
              refine g_iconst C d_jdk_2529_method_9_275 (x := (0 : Int32)) rfl (pc' := 276) rfl ?_
              exact g_ireturnN C (by simp) d_jdk_2529_method_9_276 (⟨0, rfl, Or.inr ⟨rfl, Or.inl ⟨hy, hp0, by omega, A1⟩⟩⟩) (by first | decide | exact Nat.le_of_ble_eq_true rfl) (by first | decide | exact Nat.le_of_ble_eq_true rfl)
            rcases Nat.lt_or_ge (p + 1) 65 with he | he
            · refine g_if_icmpge C d_jdk_2529_method_9_124 (by decide) (pcT := 161) rfl (pcF := 127) rfl (fun zz_ => absurd ((lt_n (by omega) (by omega)).2 (by omega)) zz_) (fun _ => ?_)
              refine g_aload_n C d_jdk_2529_method_9_127 rfl rfl (pc' := 128) rfl ?_
              refine g_iload C d_jdk_2529_method_9_128 rfl (pc' := 130) rfl ?_
              refine g_iaload C (A1) (i32_nn (by omega)) (i := (p + 1)) (i32_clamp (by omega)) (by omega) (v := (.int (0 : Int32))) (one_ne (by omega)) d_jdk_2529_method_9_130 (pc' := 131) rfl ?_
              refine g_aload_n C d_jdk_2529_method_9_131 rfl rfl (pc' := 132) rfl ?_
              refine g_iload C d_jdk_2529_method_9_132 rfl (pc' := 134) rfl ?_
              refine g_iaload C (A1) (i32_nn (by omega)) (i := 65) (i32_clamp (by omega)) (by omega) (v := (.int (0 : Int32))) (one_ne (by omega)) d_jdk_2529_method_9_134 (pc' := 135) rfl ?_
              refine g_if_icmple C d_jdk_2529_method_9_135 (by decide) (pcT := 161) rfl (pcF := 138) rfl (fun _ => ?_) (fun zz_ => absurd zz_ (by first | decide | exact Nat.le_of_ble_eq_true rfl))
              refine g_goto C d_jdk_2529_method_9_161 (by decide) (pc' := 202) rfl ?_
              exact H202 trivial
            · refine g_if_icmpge C d_jdk_2529_method_9_124 (by decide) (pcT := 161) rfl (pcF := 127) rfl (fun _ => ?_) (fun zz_ => absurd zz_ (fun q => absurd ((lt_n (by omega) (by omega)).1 q) (by omega)))
              refine g_goto C d_jdk_2529_method_9_161 (by decide) (pc' := 202) rfl ?_
              exact H202 trivial
      · obtain rfl : p = 65 := by omega
        rw [show 65 + 1 = 66 from rfl]
        refine g_iload C d_jdk_2529_method_9_42 rfl (pc' := 44) rfl ?_
        refine g_iload C d_jdk_2529_method_9_44 rfl (pc' := 46) rfl ?_
        refine g_if_icmpge C d_jdk_2529_method_9_46 (by decide) (pcT := 202) rfl (pcF := 49) rfl (fun _ => ?_) (fun zz_ => absurd zz_ (by rw [show (66 : Int32) = Int32.ofNat 66 from rfl]; exact fun q => absurd ((lt_n (by omega) (by omega)).1 q) (by omega)))
        refine g_aload C d_jdk_2529_method_9_202 rfl rfl (pc' := 204) rfl ?_
        refine g_ifnonnull C rfl d_jdk_2529_method_9_204 (by decide) (pcT := 250) rfl (pcF := 207) rfl (fun _ z => nomatch z) (fun _ => ?_)
        refine g_iload C d_jdk_2529_method_9_207 rfl (pc' := 209) rfl ?_
        refine g_iload C d_jdk_2529_method_9_209 rfl (pc' := 211) rfl ?_
        refine g_if_icmpne C d_jdk_2529_method_9_211 (by decide) (pcT := 216) rfl (pcF := 214) rfl (fun zz_ => absurd (rfl) zz_) (fun _ => ?_)
        refine g_iconst C d_jdk_2529_method_9_214 (x := (1 : Int32)) rfl (pc' := 215) rfl ?_
        exact g_ireturnN C (by simp) d_jdk_2529_method_9_215 (⟨1, rfl, Or.inl ⟨rfl, by rw [show tgt y = 65 from if_pos hy]; exact A⟩⟩) (by first | decide | exact Nat.le_of_ble_eq_true rfl) (by first | decide | exact Nat.le_of_ble_eq_true rfl)
    rcases Nat.lt_or_ge 1 p with hg | hg
    · refine g_iload C d_jdk_2529_method_9_19 rfl (pc' := 21) rfl ?_
      refine g_iload C d_jdk_2529_method_9_21 rfl (pc' := 23) rfl ?_
      refine g_if_icmpge C d_jdk_2529_method_9_23 (by decide) (pcT := 322) rfl (pcF := 26) rfl (fun zz_ => absurd (by rw [show (66 : Int32) = Int32.ofNat 66 from rfl]; exact (lt_n (by omega) (by omega)).2 (by omega)) zz_) (fun _ => ?_)
      refine g_aload_n C d_jdk_2529_method_9_26 rfl rfl (pc' := 27) rfl ?_
      refine g_iload C d_jdk_2529_method_9_27 rfl (pc' := 29) rfl ?_
      refine g_iconst C d_jdk_2529_method_9_29 (x := (1 : Int32)) rfl (pc' := 30) rfl ?_
      refine g_isub C d_jdk_2529_method_9_30 (pc' := 31) rfl ?_
      refine g_norm (cells' := 0) (slots' := 0) (st' := [(.int (Int32.ofNat 0)), (.ref a)]) (Nat.le_refl _) (Nat.le_refl _) (congrArg (fun z : Int32 => (Value.int z :: [(.ref a)] : List Value)) ((sub_n (k := 1) (by omega)).trans (congrArg Int32.ofNat (by omega)))) ?_
      refine g_iaload C (A) (i32_nn (by omega)) (i := 0) (i32_clamp (by omega)) (by omega) (v := (.int (0 : Int32))) (one_ne (by omega)) d_jdk_2529_method_9_31 (pc' := 32) rfl ?_
      refine g_aload_n C d_jdk_2529_method_9_32 rfl rfl (pc' := 33) rfl ?_
      refine g_iload C d_jdk_2529_method_9_33 rfl (pc' := 35) rfl ?_
      refine g_iaload C (A) (i32_nn (by omega)) (i := 1) (i32_clamp (by omega)) (by omega) (v := (.int (0 : Int32))) (one_ne (by omega)) d_jdk_2529_method_9_35 (pc' := 36) rfl ?_
      refine g_if_icmpge C d_jdk_2529_method_9_36 (by decide) (pcT := 65) rfl (pcF := 39) rfl (fun _ => ?_) (fun zz_ => absurd zz_ (by first | decide | exact Nat.le_of_ble_eq_true rfl))
      refine g_aload_n C d_jdk_2529_method_9_65 rfl rfl (pc' := 66) rfl ?_
      refine g_iload C d_jdk_2529_method_9_66 rfl (pc' := 68) rfl ?_
      refine g_iconst C d_jdk_2529_method_9_68 (x := (1 : Int32)) rfl (pc' := 69) rfl ?_
      refine g_isub C d_jdk_2529_method_9_69 (pc' := 70) rfl ?_
      refine g_norm (cells' := 0) (slots' := 0) (st' := [(.int (Int32.ofNat 0)), (.ref a)]) (Nat.le_refl _) (Nat.le_refl _) (congrArg (fun z : Int32 => (Value.int z :: [(.ref a)] : List Value)) ((sub_n (k := 1) (by omega)).trans (congrArg Int32.ofNat (by omega)))) ?_
      refine g_iaload C (A) (i32_nn (by omega)) (i := 0) (i32_clamp (by omega)) (by omega) (v := (.int (0 : Int32))) (one_ne (by omega)) d_jdk_2529_method_9_70 (pc' := 71) rfl ?_
      refine g_aload_n C d_jdk_2529_method_9_71 rfl rfl (pc' := 72) rfl ?_
      refine g_iload C d_jdk_2529_method_9_72 rfl (pc' := 74) rfl ?_
      refine g_iaload C (A) (i32_nn (by omega)) (i := 1) (i32_clamp (by omega)) (by omega) (v := (.int (0 : Int32))) (one_ne (by omega)) d_jdk_2529_method_9_74 (pc' := 75) rfl ?_
      refine g_if_icmple C d_jdk_2529_method_9_75 (by decide) (pcT := 164) rfl (pcF := 78) rfl (fun _ => ?_) (fun zz_ => absurd zz_ (by first | decide | exact Nat.le_of_ble_eq_true rfl))
      refine g_aload_n C d_jdk_2529_method_9_164 rfl rfl (pc' := 165) rfl ?_
      refine g_iload C d_jdk_2529_method_9_165 rfl (pc' := 167) rfl ?_
      refine g_iaload C (A) (i32_nn (by omega)) (i := 1) (i32_clamp (by omega)) (by omega) (v := (.int (0 : Int32))) (one_ne (by omega)) d_jdk_2529_method_9_167 (pc' := 168) rfl ?_
      refine g_istore C d_jdk_2529_method_9_168 (Ls' := #[.val .null, .val (.ref a), .val (.int (0 : Int32)), .val (.int (66 : Int32)), .val .null, .val (.int (66 : Int32)), .val (.int (1 : Int32)), .val (.int (0 : Int32)), .val (.int (Int32.ofNat 1)), .val (.int (0 : Int32)), .unset, .unset]) rfl (pc' := 170) rfl ?_
      refine g_loop (α := Nat) (fun k => 1 ≤ k ∧ k < p) (fun k => p - k) (fun k => #[.val .null, .val (.ref a), .val (.int (0 : Int32)), .val (.int (66 : Int32)), .val .null, .val (.int (66 : Int32)), .val (.int (1 : Int32)), .val (.int (0 : Int32)), .val (.int (Int32.ofNat k)), .val (.int (0 : Int32)), .unset, .unset]) (1) ⟨by omega, by omega⟩ rfl ?_
      intro k hk IH
      dsimp only
      refine g_iinc C d_jdk_2529_method_9_170 rfl (y := (Int32.ofNat (k + 1))) (i32_succ) (Ls' := #[.val .null, .val (.ref a), .val (.int (0 : Int32)), .val (.int (66 : Int32)), .val .null, .val (.int (66 : Int32)), .val (.int (1 : Int32)), .val (.int (0 : Int32)), .val (.int (Int32.ofNat (k + 1))), .val (.int (0 : Int32)), .unset, .unset]) rfl (pc' := 173) rfl ?_
      rcases Nat.lt_or_ge (k + 1) (p) with hc | hc
      · refine g_iload C d_jdk_2529_method_9_173 rfl (pc' := 175) rfl ?_
        refine g_iload C d_jdk_2529_method_9_175 rfl (pc' := 177) rfl ?_
        refine g_if_icmpge C d_jdk_2529_method_9_177 (by decide) (pcT := 192) rfl (pcF := 180) rfl (fun zz_ => absurd (by rw [show (66 : Int32) = Int32.ofNat 66 from rfl]; exact (lt_n (by omega) (by omega)).2 (by omega)) zz_) (fun _ => ?_)
        refine g_iload C d_jdk_2529_method_9_180 rfl (pc' := 182) rfl ?_
        refine g_aload_n C d_jdk_2529_method_9_182 rfl rfl (pc' := 183) rfl ?_
        refine g_iload C d_jdk_2529_method_9_183 rfl (pc' := 185) rfl ?_
        refine g_iaload C (A) (i32_nn (by omega)) (i := (k + 1)) (i32_clamp (by omega)) (by omega) (v := (.int (0 : Int32))) (one_ne (by omega)) d_jdk_2529_method_9_185 (pc' := 186) rfl ?_
        refine g_if_icmpne C d_jdk_2529_method_9_186 (by decide) (pcT := 192) rfl (pcF := 189) rfl (fun zz_ => absurd (rfl) zz_) (fun _ => ?_)
        refine g_goto C d_jdk_2529_method_9_189 (by decide) (pc' := 170) rfl ?_
        exact IH (k + 1) ⟨by omega, by omega⟩ (by omega)
      · obtain hkT : k + 1 = p := by omega
        rw [hkT]
        refine g_iload C d_jdk_2529_method_9_173 rfl (pc' := 175) rfl ?_
        refine g_iload C d_jdk_2529_method_9_175 rfl (pc' := 177) rfl ?_
        refine g_if_icmpge C d_jdk_2529_method_9_177 (by decide) (pcT := 192) rfl (pcF := 180) rfl (fun zz_ => absurd (by rw [show (66 : Int32) = Int32.ofNat 66 from rfl]; exact (lt_n (by omega) (by omega)).2 (by omega)) zz_) (fun _ => ?_)
        refine g_iload C d_jdk_2529_method_9_180 rfl (pc' := 182) rfl ?_
        refine g_aload_n C d_jdk_2529_method_9_182 rfl rfl (pc' := 183) rfl ?_
        refine g_iload C d_jdk_2529_method_9_183 rfl (pc' := 185) rfl ?_
        refine g_iaload C (A) (i32_nn (by omega)) (i := p) (i32_clamp (by omega)) (by omega) (v := (.int y)) (one_eq rfl) d_jdk_2529_method_9_185 (pc' := 186) rfl ?_
        refine g_if_icmpne C d_jdk_2529_method_9_186 (by decide) (pcT := 192) rfl (pcF := 189) rfl (fun _ => ?_) (fun zz_ => absurd zz_ (fun q => ny0 q.symm))
        refine g_iload C d_jdk_2529_method_9_192 rfl (pc' := 194) rfl ?_
        refine g_iload C d_jdk_2529_method_9_194 rfl (pc' := 196) rfl ?_
        refine g_if_icmpge C d_jdk_2529_method_9_196 (by decide) (pcT := 202) rfl (pcF := 199) rfl (fun zz_ => absurd (by rw [show (66 : Int32) = Int32.ofNat 66 from rfl]; exact (lt_n (by omega) (by omega)).2 (by omega)) zz_) (fun _ => ?_)
        refine g_goto C d_jdk_2529_method_9_199 (by decide) (pc' := 19) rfl ?_
        exact H19 _ (by first | exact One.u | exact One.val rfl | assumption)
    · obtain rfl : p = 1 := by omega
      exact H19 _ (by first | exact One.u | exact One.val rfl | assumption)
  · subst hp0
    obtain ⟨ny, ny0⟩ := neg_nn hy
    refine g_iload C d_jdk_2529_method_9_19 rfl (pc' := 21) rfl ?_
    refine g_iload C d_jdk_2529_method_9_21 rfl (pc' := 23) rfl ?_
    refine g_if_icmpge C d_jdk_2529_method_9_23 (by decide) (pcT := 322) rfl (pcF := 26) rfl (fun zz_ => absurd (by rw [show (66 : Int32) = Int32.ofNat 66 from rfl]; exact (lt_n (by omega) (by omega)).2 (by omega)) zz_) (fun _ => ?_)
    refine g_aload_n C d_jdk_2529_method_9_26 rfl rfl (pc' := 27) rfl ?_
    refine g_iload C d_jdk_2529_method_9_27 rfl (pc' := 29) rfl ?_
    refine g_iconst C d_jdk_2529_method_9_29 (x := (1 : Int32)) rfl (pc' := 30) rfl ?_
    refine g_isub C d_jdk_2529_method_9_30 (pc' := 31) rfl ?_
    refine g_norm (cells' := 0) (slots' := 0) (st' := [(.int (Int32.ofNat 0)), (.ref a)]) (Nat.le_refl _) (Nat.le_refl _) (congrArg (fun z : Int32 => (Value.int z :: [(.ref a)] : List Value)) ((sub_n (k := 1) (by omega)).trans (congrArg Int32.ofNat (by omega)))) ?_
    refine g_iaload C (A) (i32_nn (by omega)) (i := 0) (i32_clamp (by omega)) (by omega) (v := (.int y)) (one_eq rfl) d_jdk_2529_method_9_31 (pc' := 32) rfl ?_
    refine g_aload_n C d_jdk_2529_method_9_32 rfl rfl (pc' := 33) rfl ?_
    refine g_iload C d_jdk_2529_method_9_33 rfl (pc' := 35) rfl ?_
    refine g_iaload C (A) (i32_nn (by omega)) (i := 1) (i32_clamp (by omega)) (by omega) (v := (.int (0 : Int32))) (one_ne (by omega)) d_jdk_2529_method_9_35 (pc' := 36) rfl ?_
    refine g_if_icmpge C d_jdk_2529_method_9_36 (by decide) (pcT := 65) rfl (pcF := 39) rfl (fun zz_ => absurd (hy) zz_) (fun _ => ?_)
    refine g_loop (α := Nat) (fun k => 1 ≤ k ∧ k < 66) (fun k => 66 - k) (fun k => #[.val .null, .val (.ref a), .val (.int (0 : Int32)), .val (.int (66 : Int32)), .val .null, .val (.int (66 : Int32)), .val (.int (1 : Int32)), .val (.int (0 : Int32)), .val (.int (Int32.ofNat k)), .unset, .unset, .unset]) (1) ⟨by omega, by omega⟩ rfl ?_
    intro k hk IH
    dsimp only
    refine g_iinc C d_jdk_2529_method_9_39 rfl (y := (Int32.ofNat (k + 1))) (i32_succ) (Ls' := #[.val .null, .val (.ref a), .val (.int (0 : Int32)), .val (.int (66 : Int32)), .val .null, .val (.int (66 : Int32)), .val (.int (1 : Int32)), .val (.int (0 : Int32)), .val (.int (Int32.ofNat (k + 1))), .unset, .unset, .unset]) rfl (pc' := 42) rfl ?_
    rcases Nat.lt_or_ge (k + 1) 66 with hc | hc
    · refine g_iload C d_jdk_2529_method_9_42 rfl (pc' := 44) rfl ?_
      refine g_iload C d_jdk_2529_method_9_44 rfl (pc' := 46) rfl ?_
      refine g_if_icmpge C d_jdk_2529_method_9_46 (by decide) (pcT := 202) rfl (pcF := 49) rfl (fun zz_ => absurd (by rw [show (66 : Int32) = Int32.ofNat 66 from rfl]; exact (lt_n (by omega) (by omega)).2 (by omega)) zz_) (fun _ => ?_)
      refine g_aload_n C d_jdk_2529_method_9_49 rfl rfl (pc' := 50) rfl ?_
      refine g_iload C d_jdk_2529_method_9_50 rfl (pc' := 52) rfl ?_
      refine g_iconst C d_jdk_2529_method_9_52 (x := (1 : Int32)) rfl (pc' := 53) rfl ?_
      refine g_isub C d_jdk_2529_method_9_53 (pc' := 54) rfl ?_
      refine g_norm (cells' := 0) (slots' := 0) (st' := [(.int (Int32.ofNat k)), (.ref a)]) (Nat.le_refl _) (Nat.le_refl _) (congrArg (fun z : Int32 => (Value.int z :: [(.ref a)] : List Value)) ((sub_n (k := 1) (by omega)).trans (congrArg Int32.ofNat (by omega)))) ?_
      refine g_iaload C (A) (i32_nn (by omega)) (i := k) (i32_clamp (by omega)) (by omega) (v := (.int (0 : Int32))) (one_ne (by omega)) d_jdk_2529_method_9_54 (pc' := 55) rfl ?_
      refine g_aload_n C d_jdk_2529_method_9_55 rfl rfl (pc' := 56) rfl ?_
      refine g_iload C d_jdk_2529_method_9_56 rfl (pc' := 58) rfl ?_
      refine g_iaload C (A) (i32_nn (by omega)) (i := (k + 1)) (i32_clamp (by omega)) (by omega) (v := (.int (0 : Int32))) (one_ne (by omega)) d_jdk_2529_method_9_58 (pc' := 59) rfl ?_
      refine g_if_icmpgt C d_jdk_2529_method_9_59 (by decide) (pcT := 202) rfl (pcF := 62) rfl (fun zz_ => absurd zz_ (by first | decide | exact Nat.le_of_ble_eq_true rfl)) (fun _ => ?_)
      refine g_goto C d_jdk_2529_method_9_62 (by decide) (pc' := 39) rfl ?_
      exact IH (k + 1) ⟨by omega, by omega⟩ (by omega)
    · obtain hkT : k + 1 = 66 := by omega
      rw [hkT]
      refine g_iload C d_jdk_2529_method_9_42 rfl (pc' := 44) rfl ?_
      refine g_iload C d_jdk_2529_method_9_44 rfl (pc' := 46) rfl ?_
      refine g_if_icmpge C d_jdk_2529_method_9_46 (by decide) (pcT := 202) rfl (pcF := 49) rfl (fun _ => ?_) (fun zz_ => absurd zz_ (by rw [show (66 : Int32) = Int32.ofNat 66 from rfl]; exact fun q => absurd ((lt_n (by omega) (by omega)).1 q) (by omega)))
      refine g_aload C d_jdk_2529_method_9_202 rfl rfl (pc' := 204) rfl ?_
      refine g_ifnonnull C rfl d_jdk_2529_method_9_204 (by decide) (pcT := 250) rfl (pcF := 207) rfl (fun _ z => nomatch z) (fun _ => ?_)
      refine g_iload C d_jdk_2529_method_9_207 rfl (pc' := 209) rfl ?_
      refine g_iload C d_jdk_2529_method_9_209 rfl (pc' := 211) rfl ?_
      refine g_if_icmpne C d_jdk_2529_method_9_211 (by decide) (pcT := 216) rfl (pcF := 214) rfl (fun zz_ => absurd (rfl) zz_) (fun _ => ?_)
      refine g_iconst C d_jdk_2529_method_9_214 (x := (1 : Int32)) rfl (pc' := 215) rfl ?_
      exact g_ireturnN C (by simp) d_jdk_2529_method_9_215 (⟨1, rfl, Or.inl ⟨rfl, by rw [show tgt y = 0 from if_neg ny]; exact A⟩⟩) (by first | decide | exact Nat.le_of_ble_eq_true rfl) (by first | decide | exact Nat.le_of_ble_eq_true rfl)
  · obtain ⟨ny, ny0⟩ := neg_nn hy
    have H19 : ∀ (o9 : Slot), One o9 → G p_ l e_ ({ frames := 0, cells := 1, slots := 127, locals := 0 } : Room) s_ m_ #[.null, (.ref a), (.int (0 : Int32)), (.int (66 : Int32))] bel_ mt_ cd_ [a] (EndA s_ [a] (fun v h' => ∃ r : Int32, v = some (.int r) ∧ ((r = 1 ∧ Af Z h' a .int 66 (one (tgt y) y)) ∨ (r = 0 ∧ (((0 : Int32) < y ∧ 1 ≤ p ∧ p ≤ 64 ∧ Af Z h' a .int 66 (one p y)) ∨ (y < (0 : Int32) ∧ Af Z h' a .int 66 (one 0 y)))))) ({ frames := 0, cells := 1, slots := 127, locals := 0 } : Room).cells ({ frames := 0, cells := 1, slots := 127, locals := 0 } : Room).slots) h 0 0 19 #[.val .null, .val (.ref a), .val (.int (0 : Int32)), .val (.int (66 : Int32)), .val .null, .val (.int (66 : Int32)), .val (.int (1 : Int32)), .val (.int (0 : Int32)), .val (.int (Int32.ofNat p)), o9, .unset, .unset] [] := by
      intro o9 ho9
      refine g_iload C d_jdk_2529_method_9_19 rfl (pc' := 21) rfl ?_
      refine g_iload C d_jdk_2529_method_9_21 rfl (pc' := 23) rfl ?_
      refine g_if_icmpge C d_jdk_2529_method_9_23 (by decide) (pcT := 322) rfl (pcF := 26) rfl (fun zz_ => absurd (by rw [show (66 : Int32) = Int32.ofNat 66 from rfl]; exact (lt_n (by omega) (by omega)).2 (by omega)) zz_) (fun _ => ?_)
      refine g_aload_n C d_jdk_2529_method_9_26 rfl rfl (pc' := 27) rfl ?_
      refine g_iload C d_jdk_2529_method_9_27 rfl (pc' := 29) rfl ?_
      refine g_iconst C d_jdk_2529_method_9_29 (x := (1 : Int32)) rfl (pc' := 30) rfl ?_
      refine g_isub C d_jdk_2529_method_9_30 (pc' := 31) rfl ?_
      refine g_norm (cells' := 0) (slots' := 0) (st' := [(.int (Int32.ofNat ((p - 1)))), (.ref a)]) (Nat.le_refl _) (Nat.le_refl _) (congrArg (fun z : Int32 => (Value.int z :: [(.ref a)] : List Value)) ((sub_n (k := 1) (by omega)).trans (congrArg Int32.ofNat (by omega)))) ?_
      refine g_iaload C (A) (i32_nn (by omega)) (i := (p - 1)) (i32_clamp (by omega)) (by omega) (v := (.int (0 : Int32))) (one_ne (by omega)) d_jdk_2529_method_9_31 (pc' := 32) rfl ?_
      refine g_aload_n C d_jdk_2529_method_9_32 rfl rfl (pc' := 33) rfl ?_
      refine g_iload C d_jdk_2529_method_9_33 rfl (pc' := 35) rfl ?_
      refine g_iaload C (A) (i32_nn (by omega)) (i := p) (i32_clamp (by omega)) (by omega) (v := (.int y)) (one_eq rfl) d_jdk_2529_method_9_35 (pc' := 36) rfl ?_
      refine g_if_icmpge C d_jdk_2529_method_9_36 (by decide) (pcT := 65) rfl (pcF := 39) rfl (fun _ => ?_) (fun zz_ => absurd zz_ (ny))
      refine g_aload_n C d_jdk_2529_method_9_65 rfl rfl (pc' := 66) rfl ?_
      refine g_iload C d_jdk_2529_method_9_66 rfl (pc' := 68) rfl ?_
      refine g_iconst C d_jdk_2529_method_9_68 (x := (1 : Int32)) rfl (pc' := 69) rfl ?_
      refine g_isub C d_jdk_2529_method_9_69 (pc' := 70) rfl ?_
      refine g_norm (cells' := 0) (slots' := 0) (st' := [(.int (Int32.ofNat ((p - 1)))), (.ref a)]) (Nat.le_refl _) (Nat.le_refl _) (congrArg (fun z : Int32 => (Value.int z :: [(.ref a)] : List Value)) ((sub_n (k := 1) (by omega)).trans (congrArg Int32.ofNat (by omega)))) ?_
      refine g_iaload C (A) (i32_nn (by omega)) (i := (p - 1)) (i32_clamp (by omega)) (by omega) (v := (.int (0 : Int32))) (one_ne (by omega)) d_jdk_2529_method_9_70 (pc' := 71) rfl ?_
      refine g_aload_n C d_jdk_2529_method_9_71 rfl rfl (pc' := 72) rfl ?_
      refine g_iload C d_jdk_2529_method_9_72 rfl (pc' := 74) rfl ?_
      refine g_iaload C (A) (i32_nn (by omega)) (i := p) (i32_clamp (by omega)) (by omega) (v := (.int y)) (one_eq rfl) d_jdk_2529_method_9_74 (pc' := 75) rfl ?_
      refine g_if_icmple C d_jdk_2529_method_9_75 (by decide) (pcT := 164) rfl (pcF := 78) rfl (fun zz_ => absurd (hy) zz_) (fun _ => ?_)
      refine g_iinc C d_jdk_2529_method_9_78 rfl (y := (Int32.ofNat (p + 1))) (i32_succ) (Ls' := #[.val .null, .val (.ref a), .val (.int (0 : Int32)), .val (.int (66 : Int32)), .val .null, .val (.int (66 : Int32)), .val (.int (1 : Int32)), .val (.int (0 : Int32)), .val (.int (Int32.ofNat (p + 1))), o9, .unset, .unset]) rfl (pc' := 81) rfl ?_
      have H104 : ∀ (_ : True), G p_ l e_ ({ frames := 0, cells := 1, slots := 127, locals := 0 } : Room) s_ m_ #[.null, (.ref a), (.int (0 : Int32)), (.int (66 : Int32))] bel_ mt_ cd_ [a] (EndA s_ [a] (fun v h' => ∃ r : Int32, v = some (.int r) ∧ ((r = 1 ∧ Af Z h' a .int 66 (one (tgt y) y)) ∨ (r = 0 ∧ (((0 : Int32) < y ∧ 1 ≤ p ∧ p ≤ 64 ∧ Af Z h' a .int 66 (one p y)) ∨ (y < (0 : Int32) ∧ Af Z h' a .int 66 (one 0 y)))))) ({ frames := 0, cells := 1, slots := 127, locals := 0 } : Room).cells ({ frames := 0, cells := 1, slots := 127, locals := 0 } : Room).slots) h 0 0 104 #[.val .null, .val (.ref a), .val (.int (0 : Int32)), .val (.int (66 : Int32)), .val .null, .val (.int (66 : Int32)), .val (.int (1 : Int32)), .val (.int (0 : Int32)), .val (.int (Int32.ofNat (p + 1))), o9, .unset, .unset] [] := by
        intro _
        refine g_iload C d_jdk_2529_method_9_104 rfl (pc' := 106) rfl ?_
        refine g_iconst C d_jdk_2529_method_9_106 (x := (1 : Int32)) rfl (pc' := 107) rfl ?_
        refine g_isub C d_jdk_2529_method_9_107 (pc' := 108) rfl ?_
        refine g_norm (cells' := 0) (slots' := 0) (st' := [(.int (-1 : Int32))]) (Nat.le_refl _) (Nat.le_refl _) (congrArg (fun z : Int32 => (Value.int z :: [] : List Value)) (by first | decide | exact Nat.le_of_ble_eq_true rfl)) ?_
        refine g_istore C d_jdk_2529_method_9_108 (Ls' := #[.val .null, .val (.ref a), .val (.int (0 : Int32)), .val (.int (66 : Int32)), .val .null, .val (.int (66 : Int32)), .val (.int (1 : Int32)), .val (.int (0 : Int32)), .val (.int (Int32.ofNat (p + 1))), .val (.int (-1 : Int32)), .unset, .unset]) (by rw [XS.store1 (o := o9) rfl ho9 rfl]; rfl) (pc' := 110) rfl ?_
        refine g_iload C d_jdk_2529_method_9_110 rfl (pc' := 112) rfl ?_
        refine g_istore C d_jdk_2529_method_9_112 (Ls' := #[.val .null, .val (.ref a), .val (.int (0 : Int32)), .val (.int (66 : Int32)), .val .null, .val (.int (66 : Int32)), .val (.int (1 : Int32)), .val (.int (0 : Int32)), .val (.int (Int32.ofNat (p + 1))), .val (.int (-1 : Int32)), .val (.int (Int32.ofNat (p + 1))), .unset]) rfl (pc' := 114) rfl ?_
        refine g_iinc C d_jdk_2529_method_9_114 rfl (y := (Int32.ofNat 0)) (by first | decide | exact Nat.le_of_ble_eq_true rfl) (Ls' := #[.val .null, .val (.ref a), .val (.int (0 : Int32)), .val (.int (66 : Int32)), .val .null, .val (.int (66 : Int32)), .val (.int (1 : Int32)), .val (.int (0 : Int32)), .val (.int (Int32.ofNat (p + 1))), .val (.int (Int32.ofNat 0)), .val (.int (Int32.ofNat (p + 1))), .unset]) rfl (pc' := 117) rfl ?_
        refine g_iload C d_jdk_2529_method_9_117 rfl (pc' := 119) rfl ?_
        refine g_iinc C d_jdk_2529_method_9_119 rfl (y := (Int32.ofNat p)) ((dec_n (n := p + 1) (by omega)).trans (congrArg Int32.ofNat (by omega))) (Ls' := #[.val .null, .val (.ref a), .val (.int (0 : Int32)), .val (.int (66 : Int32)), .val .null, .val (.int (66 : Int32)), .val (.int (1 : Int32)), .val (.int (0 : Int32)), .val (.int (Int32.ofNat (p + 1))), .val (.int (Int32.ofNat 0)), .val (.int (Int32.ofNat p)), .unset]) rfl (pc' := 122) rfl ?_
        refine g_iload C d_jdk_2529_method_9_122 rfl (pc' := 124) rfl ?_
        refine g_if_icmpge C d_jdk_2529_method_9_124 (by decide) (pcT := 161) rfl (pcF := 127) rfl (fun zz_ => absurd ((lt_n (by omega) (by omega)).2 (by omega)) zz_) (fun _ => ?_)
        refine g_aload_n C d_jdk_2529_method_9_127 rfl rfl (pc' := 128) rfl ?_
        refine g_iload C d_jdk_2529_method_9_128 rfl (pc' := 130) rfl ?_
        refine g_iaload C (A) (i32_nn (by omega)) (i := 0) (i32_clamp (by omega)) (by omega) (v := (.int (0 : Int32))) (one_ne (by omega)) d_jdk_2529_method_9_130 (pc' := 131) rfl ?_
        refine g_aload_n C d_jdk_2529_method_9_131 rfl rfl (pc' := 132) rfl ?_
        refine g_iload C d_jdk_2529_method_9_132 rfl (pc' := 134) rfl ?_
        refine g_iaload C (A) (i32_nn (by omega)) (i := p) (i32_clamp (by omega)) (by omega) (v := (.int y)) (one_eq rfl) d_jdk_2529_method_9_134 (pc' := 135) rfl ?_
        refine g_if_icmple C d_jdk_2529_method_9_135 (by decide) (pcT := 161) rfl (pcF := 138) rfl (fun zz_ => absurd (hy) zz_) (fun _ => ?_)
        refine g_aload_n C d_jdk_2529_method_9_138 rfl rfl (pc' := 139) rfl ?_
        refine g_iload C d_jdk_2529_method_9_139 rfl (pc' := 141) rfl ?_
        refine g_iaload C (A) (i32_nn (by omega)) (i := 0) (i32_clamp (by omega)) (by omega) (v := (.int (0 : Int32))) (one_ne (by omega)) d_jdk_2529_method_9_141 (pc' := 142) rfl ?_
        refine g_istore C d_jdk_2529_method_9_142 (Ls' := #[.val .null, .val (.ref a), .val (.int (0 : Int32)), .val (.int (66 : Int32)), .val .null, .val (.int (66 : Int32)), .val (.int (1 : Int32)), .val (.int (0 : Int32)), .val (.int (Int32.ofNat (p + 1))), .val (.int (Int32.ofNat 0)), .val (.int (Int32.ofNat p)), .val (.int (0 : Int32))]) rfl (pc' := 144) rfl ?_
        refine g_aload_n C d_jdk_2529_method_9_144 rfl rfl (pc' := 145) rfl ?_
        refine g_iload C d_jdk_2529_method_9_145 rfl (pc' := 147) rfl ?_
        refine g_aload_n C d_jdk_2529_method_9_147 rfl rfl (pc' := 148) rfl ?_
        refine g_iload C d_jdk_2529_method_9_148 rfl (pc' := 150) rfl ?_
        refine g_iaload C (A) (i32_nn (by omega)) (i := p) (i32_clamp (by omega)) (by omega) (v := (.int y)) (one_eq rfl) d_jdk_2529_method_9_150 (pc' := 151) rfl ?_
        refine g_iastore C (A) (by first | decide | exact Nat.le_of_ble_eq_true rfl) (i := 0) rfl (by first | decide | exact Nat.le_of_ble_eq_true rfl) (Or.inl (List.mem_cons_self ..)) d_jdk_2529_method_9_151 (pc' := 152) rfl ?_
        intro h1 W1 A1
        refine g_aload_n C d_jdk_2529_method_9_152 rfl rfl (pc' := 153) rfl ?_
        refine g_iload C d_jdk_2529_method_9_153 rfl (pc' := 155) rfl ?_
        refine g_iload C d_jdk_2529_method_9_155 rfl (pc' := 157) rfl ?_
        refine g_iastore C (A1) (i32_nn (by omega)) (i := p) (i32_clamp (by omega)) (by omega) (Or.inl (List.mem_cons_self ..)) d_jdk_2529_method_9_157 (pc' := 158) rfl ?_
        intro h2 W2 A2
        have A3 : Af Z h2 a .int 66 (one 0 y) := A2.to fun i hi => by
          by_cases z : i = p
          · rw [z, upd_same, one_ne (by omega)]
          · rw [upd_other z]
            by_cases z0 : i = 0
            · rw [z0, upd_same, one_eq rfl]
            · rw [upd_other z0, one_ne z0, one_ne z]
        refine g_goto C d_jdk_2529_method_9_158 (by decide) (pc' := 114) rfl ?_
        refine g_iinc C d_jdk_2529_method_9_114 rfl (y := (Int32.ofNat 1)) (by first | decide | exact Nat.le_of_ble_eq_true rfl) (Ls' := #[.val .null, .val (.ref a), .val (.int (0 : Int32)), .val (.int (66 : Int32)), .val .null, .val (.int (66 : Int32)), .val (.int (1 : Int32)), .val (.int (0 : Int32)), .val (.int (Int32.ofNat (p + 1))), .val (.int (Int32.ofNat 1)), .val (.int (Int32.ofNat p)), .val (.int (0 : Int32))]) rfl (pc' := 117) rfl ?_
        refine g_iload C d_jdk_2529_method_9_117 rfl (pc' := 119) rfl ?_
        refine g_iinc C d_jdk_2529_method_9_119 rfl (y := (Int32.ofNat (p - 1))) (dec_n (by omega)) (Ls' := #[.val .null, .val (.ref a), .val (.int (0 : Int32)), .val (.int (66 : Int32)), .val .null, .val (.int (66 : Int32)), .val (.int (1 : Int32)), .val (.int (0 : Int32)), .val (.int (Int32.ofNat (p + 1))), .val (.int (Int32.ofNat 1)), .val (.int (Int32.ofNat (p - 1))), .val (.int (0 : Int32))]) rfl (pc' := 122) rfl ?_
        refine g_iload C d_jdk_2529_method_9_122 rfl (pc' := 124) rfl ?_
        have H202 : ∀ (_ : True), G p_ l e_ ({ frames := 0, cells := 1, slots := 127, locals := 0 } : Room) s_ m_ #[.null, (.ref a), (.int (0 : Int32)), (.int (66 : Int32))] bel_ mt_ cd_ [a] (EndA s_ [a] (fun v h' => ∃ r : Int32, v = some (.int r) ∧ ((r = 1 ∧ Af Z h' a .int 66 (one (tgt y) y)) ∨ (r = 0 ∧ (((0 : Int32) < y ∧ 1 ≤ p ∧ p ≤ 64 ∧ Af Z h' a .int 66 (one p y)) ∨ (y < (0 : Int32) ∧ Af Z h' a .int 66 (one 0 y)))))) ({ frames := 0, cells := 1, slots := 127, locals := 0 } : Room).cells ({ frames := 0, cells := 1, slots := 127, locals := 0 } : Room).slots) h2 0 0 202 #[.val .null, .val (.ref a), .val (.int (0 : Int32)), .val (.int (66 : Int32)), .val .null, .val (.int (66 : Int32)), .val (.int (1 : Int32)), .val (.int (0 : Int32)), .val (.int (Int32.ofNat (p + 1))), .val (.int (Int32.ofNat 1)), .val (.int (Int32.ofNat (p - 1))), .val (.int (0 : Int32))] [] := by
          intro _
          refine g_aload C d_jdk_2529_method_9_202 rfl rfl (pc' := 204) rfl ?_
          refine g_ifnonnull C rfl d_jdk_2529_method_9_204 (by decide) (pcT := 250) rfl (pcF := 207) rfl (fun _ z => nomatch z) (fun _ => ?_)
          refine g_iload C d_jdk_2529_method_9_207 rfl (pc' := 209) rfl ?_
          refine g_iload C d_jdk_2529_method_9_209 rfl (pc' := 211) rfl ?_
          rcases Nat.lt_or_ge (p + 1) 66 with hc | hc
          · refine g_if_icmpne C d_jdk_2529_method_9_211 (by decide) (pcT := 216) rfl (pcF := 214) rfl (fun _ => ?_) (fun zz_ => absurd zz_ (by rw [show (66 : Int32) = Int32.ofNat 66 from rfl, eq_n (by omega) (by omega)]; omega))
            refine g_iload C d_jdk_2529_method_9_216 rfl (pc' := 218) rfl ?_
            refine g_iload_n C d_jdk_2529_method_9_218 rfl (pc' := 219) rfl ?_
            refine g_isub C d_jdk_2529_method_9_219 (pc' := 220) rfl ?_
            refine g_norm (cells' := 0) (slots' := 0) (st' := [(.int (Int32.ofNat (p + 1)))]) (Nat.le_refl _) (Nat.le_refl _) (congrArg (fun z : Int32 => (Value.int z :: [] : List Value)) (Int32.sub_zero _)) ?_
            refine g_bipush C d_jdk_2529_method_9_220 (x := (16 : Int32)) rfl (pc' := 222) rfl ?_
            rcases Nat.lt_or_ge (p + 1) 16 with hd | hd
            · refine g_if_icmpge C d_jdk_2529_method_9_222 (by decide) (pcT := 227) rfl (pcF := 225) rfl (fun zz_ => absurd (by rw [show (16 : Int32) = Int32.ofNat 16 from rfl]; exact (lt_n (by omega) (by omega)).2 (by omega)) zz_) (fun _ => ?_)
              refine g_iconst C d_jdk_2529_method_9_225 (x := (0 : Int32)) rfl (pc' := 226) rfl ?_
              exact g_ireturnN C (by simp) d_jdk_2529_method_9_226 (⟨0, rfl, Or.inr ⟨rfl, Or.inr ⟨hy, A3⟩⟩⟩) (by first | decide | exact Nat.le_of_ble_eq_true rfl) (by first | decide | exact Nat.le_of_ble_eq_true rfl)
            · refine g_if_icmpge C d_jdk_2529_method_9_222 (by decide) (pcT := 227) rfl (pcF := 225) rfl (fun _ => ?_) (fun zz_ => absurd zz_ (by rw [show (16 : Int32) = Int32.ofNat 16 from rfl]; exact fun q => absurd ((lt_n (by omega) (by omega)).1 q) (by omega)))
              refine g_iload_n C d_jdk_2529_method_9_227 rfl (pc' := 228) rfl ?_
              refine g_bipush C d_jdk_2529_method_9_228 (x := (10 : Int32)) rfl (pc' := 230) rfl ?_
              refine g_ishr C d_jdk_2529_method_9_230 (pc' := 231) rfl ?_
              refine g_norm (cells' := 0) (slots' := 0) (st' := [(.int (0 : Int32))]) (Nat.le_refl _) (Nat.le_refl _) (congrArg (fun z : Int32 => (Value.int z :: [] : List Value)) (by first | decide | exact Nat.le_of_ble_eq_true rfl)) ?_
              refine g_bipush C d_jdk_2529_method_9_231 (x := (127 : Int32)) rfl (pc' := 233) rfl ?_
              refine g_ior C d_jdk_2529_method_9_233 (pc' := 234) rfl ?_
              refine g_norm (cells' := 0) (slots' := 0) (st' := [(.int (127 : Int32))]) (Nat.le_refl _) (Nat.le_refl _) (congrArg (fun z : Int32 => (Value.int z :: [] : List Value)) (by first | decide | exact Nat.le_of_ble_eq_true rfl)) ?_
              refine g_sipush C d_jdk_2529_method_9_234 (x := (1023 : Int32)) rfl (pc' := 237) rfl ?_
              refine g_iand C d_jdk_2529_method_9_237 (pc' := 238) rfl ?_
              refine g_norm (cells' := 0) (slots' := 0) (st' := [(.int (127 : Int32))]) (Nat.le_refl _) (Nat.le_refl _) (congrArg (fun z : Int32 => (Value.int z :: [] : List Value)) (by first | decide | exact Nat.le_of_ble_eq_true rfl)) ?_
              refine g_newarray C (aty := .int) (n := 127) (Wx1 hw) (by first | decide | exact Nat.le_of_ble_eq_true rfl) rfl (by first | decide | exact Nat.le_of_ble_eq_true rfl) d_jdk_2529_method_9_238 (pc' := 240) rfl (by first | decide | exact Nat.le_of_ble_eq_true rfl) (by first | decide | exact Nat.le_of_ble_eq_true rfl) ?_
              intro h3 r hr_ hr0 Xr Ar
              refine g_norm (cells' := 1) (slots' := 127) (st' := [(.ref r)]) (by first | decide | exact Nat.le_of_ble_eq_true rfl) (by first | decide | exact Nat.le_of_ble_eq_true rfl) rfl ?_
              have hra : a ≠ r := by rw [hr_]; exact Nat.ne_of_lt (A3).lt
              refine g_astore C d_jdk_2529_method_9_240 rfl (Ls' := #[.val .null, .val (.ref a), .val (.int (0 : Int32)), .val (.int (66 : Int32)), .val (.ref r), .val (.int (66 : Int32)), .val (.int (1 : Int32)), .val (.int (0 : Int32)), .val (.int (Int32.ofNat (p + 1))), .val (.int (Int32.ofNat 1)), .val (.int (Int32.ofNat (p - 1))), .val (.int (0 : Int32))]) rfl (pc' := 242) rfl ?_
              refine g_aload C d_jdk_2529_method_9_242 rfl rfl (pc' := 244) rfl ?_
              refine g_iconst C d_jdk_2529_method_9_244 (x := (0 : Int32)) rfl (pc' := 245) rfl ?_
              refine g_iload_n C d_jdk_2529_method_9_245 rfl (pc' := 246) rfl ?_
              refine g_iastore C (Ar) (by first | decide | exact Nat.le_of_ble_eq_true rfl) (i := 0) rfl (by first | decide | exact Nat.le_of_ble_eq_true rfl) (Or.inr hr0) d_jdk_2529_method_9_246 (pc' := 247) rfl ?_
              intro h4 Wr1 Ar1
              refine g_goto C d_jdk_2529_method_9_247 (by decide) (pc' := 309) rfl ?_
              refine g_aload C d_jdk_2529_method_9_309 rfl rfl (pc' := 311) rfl ?_
              refine g_iload C d_jdk_2529_method_9_311 rfl (pc' := 313) rfl ?_
              refine g_iload C d_jdk_2529_method_9_313 rfl (pc' := 315) rfl ?_
              refine g_dup C d_jdk_2529_method_9_315 rfl (pc' := 316) rfl ?_
              refine g_istore C d_jdk_2529_method_9_316 (Ls' := #[.val .null, .val (.ref a), .val (.int (0 : Int32)), .val (.int (66 : Int32)), .val (.ref r), .val (.int (66 : Int32)), .val (.int (1 : Int32)), .val (.int (Int32.ofNat (p + 1))), .val (.int (Int32.ofNat (p + 1))), .val (.int (Int32.ofNat 1)), .val (.int (Int32.ofNat (p - 1))), .val (.int (0 : Int32))]) rfl (pc' := 318) rfl ?_
              refine g_iastore C (Ar1) (by first | decide | exact Nat.le_of_ble_eq_true rfl) (i := 1) rfl (by first | decide | exact Nat.le_of_ble_eq_true rfl) (Or.inr hr0) d_jdk_2529_method_9_318 (pc' := 319) rfl ?_
              intro h5 Wr2 Ar2
              have A4 := (((A3).ext Xr).other Wr1 hra).other Wr2 hra
              refine g_goto C d_jdk_2529_method_9_319 (by decide) (pc' := 19) rfl ?_
              refine g_iload C d_jdk_2529_method_9_19 rfl (pc' := 21) rfl ?_
              refine g_iload C d_jdk_2529_method_9_21 rfl (pc' := 23) rfl ?_
              refine g_if_icmpge C d_jdk_2529_method_9_23 (by decide) (pcT := 322) rfl (pcF := 26) rfl (fun zz_ => absurd (by rw [show (66 : Int32) = Int32.ofNat 66 from rfl]; exact (lt_n (by omega) (by omega)).2 (by omega)) zz_) (fun _ => ?_)
              refine g_aload_n C d_jdk_2529_method_9_26 rfl rfl (pc' := 27) rfl ?_
              refine g_iload C d_jdk_2529_method_9_27 rfl (pc' := 29) rfl ?_
              refine g_iconst C d_jdk_2529_method_9_29 (x := (1 : Int32)) rfl (pc' := 30) rfl ?_
              refine g_isub C d_jdk_2529_method_9_30 (pc' := 31) rfl ?_
              refine g_norm (cells' := 1) (slots' := 127) (st' := [(.int (Int32.ofNat p)), (.ref a)]) (Nat.le_refl _) (Nat.le_refl _) (congrArg (fun z : Int32 => (Value.int z :: [(.ref a)] : List Value)) ((sub_n (k := 1) (by omega)).trans (congrArg Int32.ofNat (by omega)))) ?_
              refine g_iaload C (A4) (i32_nn (by omega)) (i := p) (i32_clamp (by omega)) (by omega) (v := (.int (0 : Int32))) (one_ne (by omega)) d_jdk_2529_method_9_31 (pc' := 32) rfl ?_
              refine g_aload_n C d_jdk_2529_method_9_32 rfl rfl (pc' := 33) rfl ?_
              refine g_iload C d_jdk_2529_method_9_33 rfl (pc' := 35) rfl ?_
              refine g_iaload C (A4) (i32_nn (by omega)) (i := (p + 1)) (i32_clamp (by omega)) (by omega) (v := (.int (0 : Int32))) (one_ne (by omega)) d_jdk_2529_method_9_35 (pc' := 36) rfl ?_
              refine g_if_icmpge C d_jdk_2529_method_9_36 (by decide) (pcT := 65) rfl (pcF := 39) rfl (fun _ => ?_) (fun zz_ => absurd zz_ (by first | decide | exact Nat.le_of_ble_eq_true rfl))
              refine g_aload_n C d_jdk_2529_method_9_65 rfl rfl (pc' := 66) rfl ?_
              refine g_iload C d_jdk_2529_method_9_66 rfl (pc' := 68) rfl ?_
              refine g_iconst C d_jdk_2529_method_9_68 (x := (1 : Int32)) rfl (pc' := 69) rfl ?_
              refine g_isub C d_jdk_2529_method_9_69 (pc' := 70) rfl ?_
              refine g_norm (cells' := 1) (slots' := 127) (st' := [(.int (Int32.ofNat p)), (.ref a)]) (Nat.le_refl _) (Nat.le_refl _) (congrArg (fun z : Int32 => (Value.int z :: [(.ref a)] : List Value)) ((sub_n (k := 1) (by omega)).trans (congrArg Int32.ofNat (by omega)))) ?_
              refine g_iaload C (A4) (i32_nn (by omega)) (i := p) (i32_clamp (by omega)) (by omega) (v := (.int (0 : Int32))) (one_ne (by omega)) d_jdk_2529_method_9_70 (pc' := 71) rfl ?_
              refine g_aload_n C d_jdk_2529_method_9_71 rfl rfl (pc' := 72) rfl ?_
              refine g_iload C d_jdk_2529_method_9_72 rfl (pc' := 74) rfl ?_
              refine g_iaload C (A4) (i32_nn (by omega)) (i := (p + 1)) (i32_clamp (by omega)) (by omega) (v := (.int (0 : Int32))) (one_ne (by omega)) d_jdk_2529_method_9_74 (pc' := 75) rfl ?_
              refine g_if_icmple C d_jdk_2529_method_9_75 (by decide) (pcT := 164) rfl (pcF := 78) rfl (fun _ => ?_) (fun zz_ => absurd zz_ (by first | decide | exact Nat.le_of_ble_eq_true rfl))
              refine g_aload_n C d_jdk_2529_method_9_164 rfl rfl (pc' := 165) rfl ?_
              refine g_iload C d_jdk_2529_method_9_165 rfl (pc' := 167) rfl ?_
              refine g_iaload C (A4) (i32_nn (by omega)) (i := (p + 1)) (i32_clamp (by omega)) (by omega) (v := (.int (0 : Int32))) (one_ne (by omega)) d_jdk_2529_method_9_167 (pc' := 168) rfl ?_
              refine g_istore C d_jdk_2529_method_9_168 (Ls' := #[.val .null, .val (.ref a), .val (.int (0 : Int32)), .val (.int (66 : Int32)), .val (.ref r), .val (.int (66 : Int32)), .val (.int (1 : Int32)), .val (.int (Int32.ofNat (p + 1))), .val (.int (Int32.ofNat (p + 1))), .val (.int (0 : Int32)), .val (.int (Int32.ofNat (p - 1))), .val (.int (0 : Int32))]) rfl (pc' := 170) rfl ?_
              refine g_loop (α := Nat) (fun k => (p + 1) ≤ k ∧ k < 66) (fun k => 66 - k) (fun k => #[.val .null, .val (.ref a), .val (.int (0 : Int32)), .val (.int (66 : Int32)), .val (.ref r), .val (.int (66 : Int32)), .val (.int (1 : Int32)), .val (.int (Int32.ofNat (p + 1))), .val (.int (Int32.ofNat k)), .val (.int (0 : Int32)), .val (.int (Int32.ofNat (p - 1))), .val (.int (0 : Int32))]) ((p + 1)) ⟨by omega, by omega⟩ rfl ?_
              intro k hk IH
              dsimp only
              refine g_iinc C d_jdk_2529_method_9_170 rfl (y := (Int32.ofNat (k + 1))) (i32_succ) (Ls' := #[.val .null, .val (.ref a), .val (.int (0 : Int32)), .val (.int (66 : Int32)), .val (.ref r), .val (.int (66 : Int32)), .val (.int (1 : Int32)), .val (.int (Int32.ofNat (p + 1))), .val (.int (Int32.ofNat (k + 1))), .val (.int (0 : Int32)), .val (.int (Int32.ofNat (p - 1))), .val (.int (0 : Int32))]) rfl (pc' := 173) rfl ?_
              rcases Nat.lt_or_ge (k + 1) (66) with hc | hc
              · refine g_iload C d_jdk_2529_method_9_173 rfl (pc' := 175) rfl ?_
                refine g_iload C d_jdk_2529_method_9_175 rfl (pc' := 177) rfl ?_
                refine g_if_icmpge C d_jdk_2529_method_9_177 (by decide) (pcT := 192) rfl (pcF := 180) rfl (fun zz_ => absurd (by rw [show (66 : Int32) = Int32.ofNat 66 from rfl]; exact (lt_n (by omega) (by omega)).2 (by omega)) zz_) (fun _ => ?_)
                refine g_iload C d_jdk_2529_method_9_180 rfl (pc' := 182) rfl ?_
                refine g_aload_n C d_jdk_2529_method_9_182 rfl rfl (pc' := 183) rfl ?_
                refine g_iload C d_jdk_2529_method_9_183 rfl (pc' := 185) rfl ?_
                refine g_iaload C (A4) (i32_nn (by omega)) (i := (k + 1)) (i32_clamp (by omega)) (by omega) (v := (.int (0 : Int32))) (one_ne (by omega)) d_jdk_2529_method_9_185 (pc' := 186) rfl ?_
                refine g_if_icmpne C d_jdk_2529_method_9_186 (by decide) (pcT := 192) rfl (pcF := 189) rfl (fun zz_ => absurd (rfl) zz_) (fun _ => ?_)
                refine g_goto C d_jdk_2529_method_9_189 (by decide) (pc' := 170) rfl ?_
                exact IH (k + 1) ⟨by omega, by omega⟩ (by omega)
              · obtain hkT : k + 1 = 66 := by omega
                rw [hkT]
                refine g_iload C d_jdk_2529_method_9_173 rfl (pc' := 175) rfl ?_
                refine g_iload C d_jdk_2529_method_9_175 rfl (pc' := 177) rfl ?_
                refine g_if_icmpge C d_jdk_2529_method_9_177 (by decide) (pcT := 192) rfl (pcF := 180) rfl (fun _ => ?_) (fun zz_ => absurd zz_ (by rw [show (66 : Int32) = Int32.ofNat 66 from rfl]; exact fun q => absurd ((lt_n (by omega) (by omega)).1 q) (by omega)))
                refine g_iload C d_jdk_2529_method_9_192 rfl (pc' := 194) rfl ?_
                refine g_iload C d_jdk_2529_method_9_194 rfl (pc' := 196) rfl ?_
                refine g_if_icmpge C d_jdk_2529_method_9_196 (by decide) (pcT := 202) rfl (pcF := 199) rfl (fun _ => ?_) (fun zz_ => absurd zz_ (by first | decide | exact Nat.le_of_ble_eq_true rfl))
                refine g_aload C d_jdk_2529_method_9_202 rfl rfl (pc' := 204) rfl ?_
                refine g_ifnonnull C rfl d_jdk_2529_method_9_204 (by decide) (pcT := 250) rfl (pcF := 207) rfl (fun _ _ => ?_) (fun z => nomatch z)
                refine g_aload_n C d_jdk_2529_method_9_250 rfl rfl (pc' := 251) rfl ?_
                refine g_iload C d_jdk_2529_method_9_251 rfl (pc' := 253) rfl ?_
                refine g_iconst C d_jdk_2529_method_9_253 (x := (1 : Int32)) rfl (pc' := 254) rfl ?_
                refine g_isub C d_jdk_2529_method_9_254 (pc' := 255) rfl ?_
                refine g_norm (cells' := 1) (slots' := 127) (st' := [(.int (Int32.ofNat p)), (.ref a)]) (Nat.le_refl _) (Nat.le_refl _) (congrArg (fun z : Int32 => (Value.int z :: [(.ref a)] : List Value)) ((sub_n (k := 1) (by omega)).trans (congrArg Int32.ofNat (by omega)))) ?_
                refine g_iaload C (A4) (i32_nn (by omega)) (i := p) (i32_clamp (by omega)) (by omega) (v := (.int (0 : Int32))) (one_ne (by omega)) d_jdk_2529_method_9_255 (pc' := 256) rfl ?_
                refine g_aload_n C d_jdk_2529_method_9_256 rfl rfl (pc' := 257) rfl ?_
                refine g_iload C d_jdk_2529_method_9_257 rfl (pc' := 259) rfl ?_
                refine g_iaload C (A4) (i32_nn (by omega)) (i := (p + 1)) (i32_clamp (by omega)) (by omega) (v := (.int (0 : Int32))) (one_ne (by omega)) d_jdk_2529_method_9_259 (pc' := 260) rfl ?_
                refine g_if_icmple C d_jdk_2529_method_9_260 (by decide) (pcT := 309) rfl (pcF := 263) rfl (fun _ => ?_) (fun zz_ => absurd zz_ (by first | decide | exact Nat.le_of_ble_eq_true rfl))
                refine g_aload C d_jdk_2529_method_9_309 rfl rfl (pc' := 311) rfl ?_
                refine g_iload C d_jdk_2529_method_9_311 rfl (pc' := 313) rfl ?_
                refine g_iload C d_jdk_2529_method_9_313 rfl (pc' := 315) rfl ?_
                refine g_dup C d_jdk_2529_method_9_315 rfl (pc' := 316) rfl ?_
                refine g_istore C d_jdk_2529_method_9_316 (Ls' := #[.val .null, .val (.ref a), .val (.int (0 : Int32)), .val (.int (66 : Int32)), .val (.ref r), .val (.int (66 : Int32)), .val (.int (1 : Int32)), .val (.int (Int32.ofNat 66)), .val (.int (Int32.ofNat 66)), .val (.int (0 : Int32)), .val (.int (Int32.ofNat (p - 1))), .val (.int (0 : Int32))]) rfl (pc' := 318) rfl ?_
                refine g_iastore C (Ar2) (by first | decide | exact Nat.le_of_ble_eq_true rfl) (i := 1) rfl (by first | decide | exact Nat.le_of_ble_eq_true rfl) (Or.inr hr0) d_jdk_2529_method_9_318 (pc' := 319) rfl ?_
                intro h6 Wr3 Ar3
                have A5 := A4.other Wr3 hra
                refine g_goto C d_jdk_2529_method_9_319 (by decide) (pc' := 19) rfl ?_
                refine g_iload C d_jdk_2529_method_9_19 rfl (pc' := 21) rfl ?_
                refine g_iload C d_jdk_2529_method_9_21 rfl (pc' := 23) rfl ?_
                refine g_if_icmpge C d_jdk_2529_method_9_23 (by decide) (pcT := 322) rfl (pcF := 26) rfl (fun _ => ?_) (fun zz_ => absurd zz_ (by first | decide | exact Nat.le_of_ble_eq_true rfl))
                refine g_iload C d_jdk_2529_method_9_322 rfl (pc' := 324) rfl ?_
                refine g_iconst C d_jdk_2529_method_9_324 (x := (1 : Int32)) rfl (pc' := 325) rfl ?_
                refine g_if_icmple C d_jdk_2529_method_9_325 (by decide) (pcT := 386) rfl (pcF := 328) rfl (fun _ => ?_) (fun zz_ => absurd zz_ (by first | decide | exact Nat.le_of_ble_eq_true rfl))
                refine g_iconst C d_jdk_2529_method_9_386 (x := (1 : Int32)) rfl (pc' := 387) rfl ?_
                exact g_ireturnN C (by simp) d_jdk_2529_method_9_387 (⟨1, rfl, Or.inl ⟨rfl, by rw [show tgt y = 0 from if_neg ny]; exact A5⟩⟩) (by first | decide | exact Nat.le_of_ble_eq_true rfl) (by first | decide | exact Nat.le_of_ble_eq_true rfl)
          · obtain rfl : p = 65 := by omega
            refine g_if_icmpne C d_jdk_2529_method_9_211 (by decide) (pcT := 216) rfl (pcF := 214) rfl (fun zz_ => absurd (by first | decide | exact Nat.le_of_ble_eq_true rfl) zz_) (fun _ => ?_)
            refine g_iconst C d_jdk_2529_method_9_214 (x := (1 : Int32)) rfl (pc' := 215) rfl ?_
            exact g_ireturnN C (by simp) d_jdk_2529_method_9_215 (⟨1, rfl, Or.inl ⟨rfl, by rw [show tgt y = 0 from if_neg ny]; exact A3⟩⟩) (by first | decide | exact Nat.le_of_ble_eq_true rfl) (by first | decide | exact Nat.le_of_ble_eq_true rfl)
        rcases Nat.lt_or_ge 1 (p - 1) with he | he
        · refine g_if_icmpge C d_jdk_2529_method_9_124 (by decide) (pcT := 161) rfl (pcF := 127) rfl (fun zz_ => absurd ((lt_n (by omega) (by omega)).2 (by omega)) zz_) (fun _ => ?_)
          refine g_aload_n C d_jdk_2529_method_9_127 rfl rfl (pc' := 128) rfl ?_
          refine g_iload C d_jdk_2529_method_9_128 rfl (pc' := 130) rfl ?_
          refine g_iaload C (A3) (i32_nn (by omega)) (i := 1) (i32_clamp (by omega)) (by omega) (v := (.int (0 : Int32))) (one_ne (by omega)) d_jdk_2529_method_9_130 (pc' := 131) rfl ?_
          refine g_aload_n C d_jdk_2529_method_9_131 rfl rfl (pc' := 132) rfl ?_
          refine g_iload C d_jdk_2529_method_9_132 rfl (pc' := 134) rfl ?_
          refine g_iaload C (A3) (i32_nn (by omega)) (i := (p - 1)) (i32_clamp (by omega)) (by omega) (v := (.int (0 : Int32))) (one_ne (by omega)) d_jdk_2529_method_9_134 (pc' := 135) rfl ?_
          refine g_if_icmple C d_jdk_2529_method_9_135 (by decide) (pcT := 161) rfl (pcF := 138) rfl (fun _ => ?_) (fun zz_ => absurd zz_ (by first | decide | exact Nat.le_of_ble_eq_true rfl))
          refine g_goto C d_jdk_2529_method_9_161 (by decide) (pc' := 202) rfl ?_
          exact H202 trivial
        · refine g_if_icmpge C d_jdk_2529_method_9_124 (by decide) (pcT := 161) rfl (pcF := 127) rfl (fun _ => ?_) (fun zz_ => absurd zz_ (fun q => absurd ((lt_n (by omega) (by omega)).1 q) (by omega)))
          refine g_goto C d_jdk_2529_method_9_161 (by decide) (pc' := 202) rfl ?_
          exact H202 trivial
      rcases Nat.lt_or_ge (p + 1) 66 with hc | hc
      · refine g_iload C d_jdk_2529_method_9_81 rfl (pc' := 83) rfl ?_
        refine g_iload C d_jdk_2529_method_9_83 rfl (pc' := 85) rfl ?_
        refine g_if_icmpge C d_jdk_2529_method_9_85 (by decide) (pcT := 104) rfl (pcF := 88) rfl (fun zz_ => absurd (by rw [show (66 : Int32) = Int32.ofNat 66 from rfl]; exact (lt_n (by omega) (by omega)).2 (by omega)) zz_) (fun _ => ?_)
        refine g_aload_n C d_jdk_2529_method_9_88 rfl rfl (pc' := 89) rfl ?_
        refine g_iload C d_jdk_2529_method_9_89 rfl (pc' := 91) rfl ?_
        refine g_iconst C d_jdk_2529_method_9_91 (x := (1 : Int32)) rfl (pc' := 92) rfl ?_
        refine g_isub C d_jdk_2529_method_9_92 (pc' := 93) rfl ?_
        refine g_norm (cells' := 0) (slots' := 0) (st' := [(.int (Int32.ofNat p)), (.ref a)]) (Nat.le_refl _) (Nat.le_refl _) (congrArg (fun z : Int32 => (Value.int z :: [(.ref a)] : List Value)) ((sub_n (k := 1) (by omega)).trans (congrArg Int32.ofNat (by omega)))) ?_
        refine g_iaload C (A) (i32_nn (by omega)) (i := p) (i32_clamp (by omega)) (by omega) (v := (.int y)) (one_eq rfl) d_jdk_2529_method_9_93 (pc' := 94) rfl ?_
        refine g_aload_n C d_jdk_2529_method_9_94 rfl rfl (pc' := 95) rfl ?_
        refine g_iload C d_jdk_2529_method_9_95 rfl (pc' := 97) rfl ?_
        refine g_iaload C (A) (i32_nn (by omega)) (i := (p + 1)) (i32_clamp (by omega)) (by omega) (v := (.int (0 : Int32))) (one_ne (by omega)) d_jdk_2529_method_9_97 (pc' := 98) rfl ?_
        refine g_if_icmplt C d_jdk_2529_method_9_98 (by decide) (pcT := 104) rfl (pcF := 101) rfl (fun _ => ?_) (fun zz_ => absurd (hy) zz_)
        exact H104 trivial
      · obtain rfl : p = 65 := by omega
        refine g_iload C d_jdk_2529_method_9_81 rfl (pc' := 83) rfl ?_
        refine g_iload C d_jdk_2529_method_9_83 rfl (pc' := 85) rfl ?_
        refine g_if_icmpge C d_jdk_2529_method_9_85 (by decide) (pcT := 104) rfl (pcF := 88) rfl (fun _ => ?_) (fun zz_ => absurd zz_ (by first | decide | exact Nat.le_of_ble_eq_true rfl))
        exact H104 trivial
    rcases Nat.lt_or_ge 1 p with hg | hg
    · refine g_iload C d_jdk_2529_method_9_19 rfl (pc' := 21) rfl ?_
      refine g_iload C d_jdk_2529_method_9_21 rfl (pc' := 23) rfl ?_
      refine g_if_icmpge C d_jdk_2529_method_9_23 (by decide) (pcT := 322) rfl (pcF := 26) rfl (fun zz_ => absurd (by rw [show (66 : Int32) = Int32.ofNat 66 from rfl]; exact (lt_n (by omega) (by omega)).2 (by omega)) zz_) (fun _ => ?_)
      refine g_aload_n C d_jdk_2529_method_9_26 rfl rfl (pc' := 27) rfl ?_
      refine g_iload C d_jdk_2529_method_9_27 rfl (pc' := 29) rfl ?_
      refine g_iconst C d_jdk_2529_method_9_29 (x := (1 : Int32)) rfl (pc' := 30) rfl ?_
      refine g_isub C d_jdk_2529_method_9_30 (pc' := 31) rfl ?_
      refine g_norm (cells' := 0) (slots' := 0) (st' := [(.int (Int32.ofNat 0)), (.ref a)]) (Nat.le_refl _) (Nat.le_refl _) (congrArg (fun z : Int32 => (Value.int z :: [(.ref a)] : List Value)) ((sub_n (k := 1) (by omega)).trans (congrArg Int32.ofNat (by omega)))) ?_
      refine g_iaload C (A) (i32_nn (by omega)) (i := 0) (i32_clamp (by omega)) (by omega) (v := (.int (0 : Int32))) (one_ne (by omega)) d_jdk_2529_method_9_31 (pc' := 32) rfl ?_
      refine g_aload_n C d_jdk_2529_method_9_32 rfl rfl (pc' := 33) rfl ?_
      refine g_iload C d_jdk_2529_method_9_33 rfl (pc' := 35) rfl ?_
      refine g_iaload C (A) (i32_nn (by omega)) (i := 1) (i32_clamp (by omega)) (by omega) (v := (.int (0 : Int32))) (one_ne (by omega)) d_jdk_2529_method_9_35 (pc' := 36) rfl ?_
      refine g_if_icmpge C d_jdk_2529_method_9_36 (by decide) (pcT := 65) rfl (pcF := 39) rfl (fun _ => ?_) (fun zz_ => absurd zz_ (by first | decide | exact Nat.le_of_ble_eq_true rfl))
      refine g_aload_n C d_jdk_2529_method_9_65 rfl rfl (pc' := 66) rfl ?_
      refine g_iload C d_jdk_2529_method_9_66 rfl (pc' := 68) rfl ?_
      refine g_iconst C d_jdk_2529_method_9_68 (x := (1 : Int32)) rfl (pc' := 69) rfl ?_
      refine g_isub C d_jdk_2529_method_9_69 (pc' := 70) rfl ?_
      refine g_norm (cells' := 0) (slots' := 0) (st' := [(.int (Int32.ofNat 0)), (.ref a)]) (Nat.le_refl _) (Nat.le_refl _) (congrArg (fun z : Int32 => (Value.int z :: [(.ref a)] : List Value)) ((sub_n (k := 1) (by omega)).trans (congrArg Int32.ofNat (by omega)))) ?_
      refine g_iaload C (A) (i32_nn (by omega)) (i := 0) (i32_clamp (by omega)) (by omega) (v := (.int (0 : Int32))) (one_ne (by omega)) d_jdk_2529_method_9_70 (pc' := 71) rfl ?_
      refine g_aload_n C d_jdk_2529_method_9_71 rfl rfl (pc' := 72) rfl ?_
      refine g_iload C d_jdk_2529_method_9_72 rfl (pc' := 74) rfl ?_
      refine g_iaload C (A) (i32_nn (by omega)) (i := 1) (i32_clamp (by omega)) (by omega) (v := (.int (0 : Int32))) (one_ne (by omega)) d_jdk_2529_method_9_74 (pc' := 75) rfl ?_
      refine g_if_icmple C d_jdk_2529_method_9_75 (by decide) (pcT := 164) rfl (pcF := 78) rfl (fun _ => ?_) (fun zz_ => absurd zz_ (by first | decide | exact Nat.le_of_ble_eq_true rfl))
      refine g_aload_n C d_jdk_2529_method_9_164 rfl rfl (pc' := 165) rfl ?_
      refine g_iload C d_jdk_2529_method_9_165 rfl (pc' := 167) rfl ?_
      refine g_iaload C (A) (i32_nn (by omega)) (i := 1) (i32_clamp (by omega)) (by omega) (v := (.int (0 : Int32))) (one_ne (by omega)) d_jdk_2529_method_9_167 (pc' := 168) rfl ?_
      refine g_istore C d_jdk_2529_method_9_168 (Ls' := #[.val .null, .val (.ref a), .val (.int (0 : Int32)), .val (.int (66 : Int32)), .val .null, .val (.int (66 : Int32)), .val (.int (1 : Int32)), .val (.int (0 : Int32)), .val (.int (Int32.ofNat 1)), .val (.int (0 : Int32)), .unset, .unset]) rfl (pc' := 170) rfl ?_
      refine g_loop (α := Nat) (fun k => 1 ≤ k ∧ k < p) (fun k => p - k) (fun k => #[.val .null, .val (.ref a), .val (.int (0 : Int32)), .val (.int (66 : Int32)), .val .null, .val (.int (66 : Int32)), .val (.int (1 : Int32)), .val (.int (0 : Int32)), .val (.int (Int32.ofNat k)), .val (.int (0 : Int32)), .unset, .unset]) (1) ⟨by omega, by omega⟩ rfl ?_
      intro k hk IH
      dsimp only
      refine g_iinc C d_jdk_2529_method_9_170 rfl (y := (Int32.ofNat (k + 1))) (i32_succ) (Ls' := #[.val .null, .val (.ref a), .val (.int (0 : Int32)), .val (.int (66 : Int32)), .val .null, .val (.int (66 : Int32)), .val (.int (1 : Int32)), .val (.int (0 : Int32)), .val (.int (Int32.ofNat (k + 1))), .val (.int (0 : Int32)), .unset, .unset]) rfl (pc' := 173) rfl ?_
      rcases Nat.lt_or_ge (k + 1) (p) with hc | hc
      · refine g_iload C d_jdk_2529_method_9_173 rfl (pc' := 175) rfl ?_
        refine g_iload C d_jdk_2529_method_9_175 rfl (pc' := 177) rfl ?_
        refine g_if_icmpge C d_jdk_2529_method_9_177 (by decide) (pcT := 192) rfl (pcF := 180) rfl (fun zz_ => absurd (by rw [show (66 : Int32) = Int32.ofNat 66 from rfl]; exact (lt_n (by omega) (by omega)).2 (by omega)) zz_) (fun _ => ?_)
        refine g_iload C d_jdk_2529_method_9_180 rfl (pc' := 182) rfl ?_
        refine g_aload_n C d_jdk_2529_method_9_182 rfl rfl (pc' := 183) rfl ?_
        refine g_iload C d_jdk_2529_method_9_183 rfl (pc' := 185) rfl ?_
        refine g_iaload C (A) (i32_nn (by omega)) (i := (k + 1)) (i32_clamp (by omega)) (by omega) (v := (.int (0 : Int32))) (one_ne (by omega)) d_jdk_2529_method_9_185 (pc' := 186) rfl ?_
        refine g_if_icmpne C d_jdk_2529_method_9_186 (by decide) (pcT := 192) rfl (pcF := 189) rfl (fun zz_ => absurd (rfl) zz_) (fun _ => ?_)
        refine g_goto C d_jdk_2529_method_9_189 (by decide) (pc' := 170) rfl ?_
        exact IH (k + 1) ⟨by omega, by omega⟩ (by omega)
      · obtain hkT : k + 1 = p := by omega
        rw [hkT]
        refine g_iload C d_jdk_2529_method_9_173 rfl (pc' := 175) rfl ?_
        refine g_iload C d_jdk_2529_method_9_175 rfl (pc' := 177) rfl ?_
        refine g_if_icmpge C d_jdk_2529_method_9_177 (by decide) (pcT := 192) rfl (pcF := 180) rfl (fun zz_ => absurd (by rw [show (66 : Int32) = Int32.ofNat 66 from rfl]; exact (lt_n (by omega) (by omega)).2 (by omega)) zz_) (fun _ => ?_)
        refine g_iload C d_jdk_2529_method_9_180 rfl (pc' := 182) rfl ?_
        refine g_aload_n C d_jdk_2529_method_9_182 rfl rfl (pc' := 183) rfl ?_
        refine g_iload C d_jdk_2529_method_9_183 rfl (pc' := 185) rfl ?_
        refine g_iaload C (A) (i32_nn (by omega)) (i := p) (i32_clamp (by omega)) (by omega) (v := (.int y)) (one_eq rfl) d_jdk_2529_method_9_185 (pc' := 186) rfl ?_
        refine g_if_icmpne C d_jdk_2529_method_9_186 (by decide) (pcT := 192) rfl (pcF := 189) rfl (fun _ => ?_) (fun zz_ => absurd zz_ (fun q => ny0 q.symm))
        refine g_iload C d_jdk_2529_method_9_192 rfl (pc' := 194) rfl ?_
        refine g_iload C d_jdk_2529_method_9_194 rfl (pc' := 196) rfl ?_
        refine g_if_icmpge C d_jdk_2529_method_9_196 (by decide) (pcT := 202) rfl (pcF := 199) rfl (fun zz_ => absurd (by rw [show (66 : Int32) = Int32.ofNat 66 from rfl]; exact (lt_n (by omega) (by omega)).2 (by omega)) zz_) (fun _ => ?_)
        refine g_goto C d_jdk_2529_method_9_199 (by decide) (pc' := 19) rfl ?_
        exact H19 _ (by first | exact One.u | exact One.val rfl | assumption)
    · obtain rfl : p = 1 := by omega
      exact H19 _ (by first | exact One.u | exact One.val rfl | assumption)
set_option maxRecDepth 65536 in
set_option maxHeartbeats 40000000 in
theorem con_longs (l : Launch) (Z : State) (a0 : Array Value) (hw : ∀ d ∈ tables_1, d.before a0 Z = true)  (h : Heap) : Con l Z [] (⟨"com/example/corpusmith/corpusmith/ocr/EditRows", "longs", "(I)I"⟩ : MethodName) prog_102_method_9_code 1 ((some Jvm.ClassFile.FieldType.int)) ({ frames := 0, cells := 0, slots := 0, locals := 0 } : Room) #[(.int (66 : Int32))] h [] (fun v h' => v = some (.int 2) ∧ h' = h) := by
  refine Con.of (plainFor_of_name pn1) (Ls := #[.val (.int (66 : Int32))]) (fun m => by first | (simp [entryFrame, mkF, argsToLocals, Value.category]; done) | rfl) ?_
  intro p_ e_ s_ m_ bel_ mt_ cd_ C
  refine g_iload_n C d_prog_102_method_9_0 rfl (pc' := 1) rfl ?_
  refine g_bipush C d_prog_102_method_9_1 (x := (63 : Int32)) rfl (pc' := 3) rfl ?_
  refine g_iadd C d_prog_102_method_9_3 (pc' := 4) rfl ?_
  refine g_norm (cells' := 0) (slots' := 0) (st' := [(.int (129 : Int32))]) (Nat.le_refl _) (Nat.le_refl _) (congrArg (fun z : Int32 => (Value.int z :: [] : List Value)) (by first | decide | exact Nat.le_of_ble_eq_true rfl)) ?_
  refine g_bipush C d_prog_102_method_9_4 (x := (6 : Int32)) rfl (pc' := 6) rfl ?_
  refine g_iushr C d_prog_102_method_9_6 (pc' := 7) rfl ?_
  refine g_norm (cells' := 0) (slots' := 0) (st' := [(.int (2 : Int32))]) (Nat.le_refl _) (Nat.le_refl _) (congrArg (fun z : Int32 => (Value.int z :: [] : List Value)) (by first | decide | exact Nat.le_of_ble_eq_true rfl)) ?_
  exact g_ireturn C d_prog_102_method_9_7 (⟨rfl, rfl⟩) (by first | decide | exact Nat.le_of_ble_eq_true rfl) (by first | decide | exact Nat.le_of_ble_eq_true rfl)
set_option maxRecDepth 65536 in
set_option maxHeartbeats 40000000 in
theorem con_min (l : Launch) (Z : State) (a0 : Array Value) (hw : ∀ d ∈ tables_1, d.before a0 Z = true)  (h : Heap) (s t : Int32) (hts : t < s) : Con l Z [] (⟨"java/lang/Math", "min", "(II)I"⟩ : MethodName) jdk_29_method_69_code 2 ((some Jvm.ClassFile.FieldType.int)) ({ frames := 0, cells := 0, slots := 0, locals := 0 } : Room) #[(.int s), (.int t)] h [] (fun v h' => v = some (.int t) ∧ h' = h) := by
  refine Con.of (Jvm.Free.JP.mathPlain rfl (by decide +kernel)) (Ls := #[.val (.int s), .val (.int t)]) (fun m => by first | (simp [entryFrame, mkF, argsToLocals, Value.category]; done) | rfl) ?_
  intro p_ e_ s_ m_ bel_ mt_ cd_ C
  refine g_iload_n C d_jdk_29_method_69_0 rfl (pc' := 1) rfl ?_
  refine g_iload_n C d_jdk_29_method_69_1 rfl (pc' := 2) rfl ?_
  refine g_if_icmpgt C d_jdk_29_method_69_2 (by decide) (pcT := 9) rfl (pcF := 5) rfl (fun _ => ?_) (fun zz_ => absurd (hts) zz_)
  refine g_iload_n C d_jdk_29_method_69_9 rfl (pc' := 10) rfl ?_
  exact g_ireturn C d_jdk_29_method_69_10 (⟨rfl, rfl⟩) (by first | decide | exact Nat.le_of_ble_eq_true rfl) (by first | decide | exact Nat.le_of_ble_eq_true rfl)
set_option maxRecDepth 65536 in
set_option maxHeartbeats 40000000 in
theorem con_max (l : Launch) (Z : State) (a0 : Array Value) (hw : ∀ d ∈ tables_1, d.before a0 Z = true)  (h : Heap) (s t : Int32) : Con l Z [] (⟨"java/lang/Math", "max", "(II)I"⟩ : MethodName) jdk_29_method_65_code 2 ((some Jvm.ClassFile.FieldType.int)) ({ frames := 0, cells := 0, slots := 0, locals := 0 } : Room) #[(.int s), (.int t)] h [] (fun v h' => v = some (.int (if s < t then t else s)) ∧ h' = h) := by
  refine Con.of (Jvm.Free.JP.mathPlain rfl (by decide +kernel)) (Ls := #[.val (.int s), .val (.int t)]) (fun m => by first | (simp [entryFrame, mkF, argsToLocals, Value.category]; done) | rfl) ?_
  intro p_ e_ s_ m_ bel_ mt_ cd_ C
  refine g_iload_n C d_jdk_29_method_65_0 rfl (pc' := 1) rfl ?_
  refine g_iload_n C d_jdk_29_method_65_1 rfl (pc' := 2) rfl ?_
  refine g_if_icmplt C d_jdk_29_method_65_2 (by decide) (pcT := 9) rfl (pcF := 5) rfl ?_ ?_
  · intro z
    refine g_iload_n C d_jdk_29_method_65_9 rfl (pc' := 10) rfl ?_
    exact g_ireturn C d_jdk_29_method_65_10 (⟨by rw [if_pos z], rfl⟩) (by first | decide | exact Nat.le_of_ble_eq_true rfl) (by first | decide | exact Nat.le_of_ble_eq_true rfl)
  · intro z
    refine g_iload_n C d_jdk_29_method_65_5 rfl (pc' := 6) rfl ?_
    refine g_goto C d_jdk_29_method_65_6 (by decide) (pc' := 10) rfl ?_
    exact g_ireturn C d_jdk_29_method_65_10 (⟨by rw [if_neg z], rfl⟩) (by first | decide | exact Nat.le_of_ble_eq_true rfl) (by first | decide | exact Nat.le_of_ble_eq_true rfl)
set_option maxRecDepth 65536 in
set_option maxHeartbeats 40000000 in
theorem con_fill (l : Launch) (Z : State) (a0 : Array Value) (hw : ∀ d ∈ tables_1, d.before a0 Z = true)  (h : Heap) (a : Addr) (x : Int64) (f : Nat → Value) (A : Af Z h a .long 2 f) : Con l Z [a] (⟨"java/util/Arrays", "fill", "([JJ)V"⟩ : MethodName) jdk_65_method_101_code 5 (none) ({ frames := 0, cells := 0, slots := 0, locals := 0 } : Room) #[(.ref a), (.long x)] h [] (fun v h' => v = none ∧ Af Z h' a .long 2 (two x x)) := by
  refine Con.of (plainFor_of_name pn2) (Ls := #[.val (.ref a), .val (.long x), .second, .unset, .unset]) (fun m => by first | (simp [entryFrame, mkF, argsToLocals, Value.category]; done) | rfl) ?_
  intro p_ e_ s_ m_ bel_ mt_ cd_ C
  refine g_iconst C d_jdk_65_method_101_0 (x := (0 : Int32)) rfl (pc' := 1) rfl ?_
  refine g_istore_n C d_jdk_65_method_101_1 (Ls' := #[.val (.ref a), .val (.long x), .second, .val (.int (0 : Int32)), .unset]) rfl (pc' := 2) rfl ?_
  refine g_aload_n C d_jdk_65_method_101_2 rfl rfl (pc' := 3) rfl ?_
  refine g_arraylength C (A) (z := (2 : Int32)) rfl d_jdk_65_method_101_3 (pc' := 4) rfl ?_
  refine g_istore C d_jdk_65_method_101_4 (Ls' := #[.val (.ref a), .val (.long x), .second, .val (.int (0 : Int32)), .val (.int (2 : Int32))]) rfl (pc' := 6) rfl ?_
  refine g_iload_n C d_jdk_65_method_101_6 rfl (pc' := 7) rfl ?_
  refine g_iload C d_jdk_65_method_101_7 rfl (pc' := 9) rfl ?_
  refine g_if_icmpge C d_jdk_65_method_101_9 (by decide) (pcT := 22) rfl (pcF := 12) rfl (fun zz_ => absurd (by first | decide | exact Nat.le_of_ble_eq_true rfl) zz_) (fun _ => ?_)
  refine g_aload_n C d_jdk_65_method_101_12 rfl rfl (pc' := 13) rfl ?_
  refine g_iload_n C d_jdk_65_method_101_13 rfl (pc' := 14) rfl ?_
  refine g_lload_n C d_jdk_65_method_101_14 rfl (pc' := 15) rfl ?_
  refine g_lastore C (A) (by first | decide | exact Nat.le_of_ble_eq_true rfl) (i := 0) rfl (by first | decide | exact Nat.le_of_ble_eq_true rfl) (Or.inl (List.mem_cons_self ..)) d_jdk_65_method_101_15 (pc' := 16) rfl ?_
  intro h1 W1 A1
  refine g_iinc C d_jdk_65_method_101_16 rfl (y := (1 : Int32)) (by first | decide | exact Nat.le_of_ble_eq_true rfl) (Ls' := #[.val (.ref a), .val (.long x), .second, .val (.int (1 : Int32)), .val (.int (2 : Int32))]) rfl (pc' := 19) rfl ?_
  refine g_goto C d_jdk_65_method_101_19 (by decide) (pc' := 6) rfl ?_
  refine g_iload_n C d_jdk_65_method_101_6 rfl (pc' := 7) rfl ?_
  refine g_iload C d_jdk_65_method_101_7 rfl (pc' := 9) rfl ?_
  refine g_if_icmpge C d_jdk_65_method_101_9 (by decide) (pcT := 22) rfl (pcF := 12) rfl (fun zz_ => absurd (by first | decide | exact Nat.le_of_ble_eq_true rfl) zz_) (fun _ => ?_)
  refine g_aload_n C d_jdk_65_method_101_12 rfl rfl (pc' := 13) rfl ?_
  refine g_iload_n C d_jdk_65_method_101_13 rfl (pc' := 14) rfl ?_
  refine g_lload_n C d_jdk_65_method_101_14 rfl (pc' := 15) rfl ?_
  refine g_lastore C (A1) (by first | decide | exact Nat.le_of_ble_eq_true rfl) (i := 1) rfl (by first | decide | exact Nat.le_of_ble_eq_true rfl) (Or.inl (List.mem_cons_self ..)) d_jdk_65_method_101_15 (pc' := 16) rfl ?_
  intro h2 W2 A2
  refine g_iinc C d_jdk_65_method_101_16 rfl (y := (2 : Int32)) (by first | decide | exact Nat.le_of_ble_eq_true rfl) (Ls' := #[.val (.ref a), .val (.long x), .second, .val (.int (2 : Int32)), .val (.int (2 : Int32))]) rfl (pc' := 19) rfl ?_
  refine g_goto C d_jdk_65_method_101_19 (by decide) (pc' := 6) rfl ?_
  refine g_iload_n C d_jdk_65_method_101_6 rfl (pc' := 7) rfl ?_
  refine g_iload C d_jdk_65_method_101_7 rfl (pc' := 9) rfl ?_
  refine g_if_icmpge C d_jdk_65_method_101_9 (by decide) (pcT := 22) rfl (pcF := 12) rfl (fun _ => ?_) (fun zz_ => absurd zz_ (by first | decide | exact Nat.le_of_ble_eq_true rfl))
  exact g_return C d_jdk_65_method_101_22 (⟨rfl, A2.congr fun i hi => by rcases (show i = 0 ∨ i = 1 by omega) with rfl | rfl <;> rfl⟩) (by first | decide | exact Nat.le_of_ble_eq_true rfl) (by first | decide | exact Nat.le_of_ble_eq_true rfl)
set_option maxRecDepth 65536 in
set_option maxHeartbeats 40000000 in
theorem con_rck (l : Launch) (Z : State) (a0 : Array Value) (hw : ∀ d ∈ tables_1, d.before a0 Z = true)  (h : Heap) (n d : Int32) (h1 : ¬ d < 0) (h2 : ¬ n < d) : Con l Z [] (⟨"java/util/Arrays", "rangeCheck", "(III)V"⟩ : MethodName) jdk_65_method_30_code 3 (none) ({ frames := 0, cells := 0, slots := 0, locals := 0 } : Room) #[(.int n), (.int (0 : Int32)), (.int d)] h [] (fun v h' => v = none ∧ h' = h) := by
  refine Con.of (plainFor_of_name pn2) (Ls := #[.val (.int n), .val (.int (0 : Int32)), .val (.int d)]) (fun m => by first | (simp [entryFrame, mkF, argsToLocals, Value.category]; done) | rfl) ?_
  intro p_ e_ s_ m_ bel_ mt_ cd_ C
  refine g_iload_n C d_jdk_65_method_30_0 rfl (pc' := 1) rfl ?_
  refine g_iload_n C d_jdk_65_method_30_1 rfl (pc' := 2) rfl ?_
  refine g_if_icmple C d_jdk_65_method_30_2 (by decide) (pcT := 46) rfl (pcF := 5) rfl (fun _ => ?_) (fun zz_ => absurd zz_ (h1))
  refine g_iload_n C d_jdk_65_method_30_46 rfl (pc' := 47) rfl ?_
  refine g_ifge C d_jdk_65_method_30_47 (by decide) (pcT := 59) rfl (pcF := 50) rfl (fun _ => ?_) (fun zz_ => absurd zz_ (by first | decide | exact Nat.le_of_ble_eq_true rfl))
  refine g_iload_n C d_jdk_65_method_30_59 rfl (pc' := 60) rfl ?_
  refine g_iload_n C d_jdk_65_method_30_60 rfl (pc' := 61) rfl ?_
  refine g_if_icmple C d_jdk_65_method_30_61 (by decide) (pcT := 73) rfl (pcF := 64) rfl (fun _ => ?_) (fun zz_ => absurd zz_ (h2))
  exact g_return C d_jdk_65_method_30_73 (⟨rfl, rfl⟩) (by first | decide | exact Nat.le_of_ble_eq_true rfl) (by first | decide | exact Nat.le_of_ble_eq_true rfl)
set_option maxRecDepth 65536 in
set_option maxHeartbeats 40000000 in
theorem con_bs0 (l : Launch) (Z : State) (a0 : Array Value) (hw : ∀ d ∈ tables_1, d.before a0 Z = true)  (h : Heap) (y key : Int32) (a : Addr) (f : Nat → Value) (A : Af Z h a .int 66 f) (hW0 : f 0 = .int (w0F y)) (hW1 : dF y = 2 → f 1 = .int (w1F y)) : Con l Z [] (⟨"java/util/Arrays", "binarySearch0", "([IIII)I"⟩ : MethodName) jdk_65_method_59_code 8 ((some Jvm.ClassFile.FieldType.int)) ({ frames := 0, cells := 0, slots := 0, locals := 0 } : Room) #[(.ref a), (.int (0 : Int32)), (.int (Int32.ofNat (dF y))), (.int key)] h [] (fun v h' => (∃ r : Int32, v = some (.int r) ∧ BS y key r) ∧ h' = h) := by
  refine Con.of (plainFor_of_name pn2) (Ls := #[.val (.ref a), .val (.int (0 : Int32)), .val (.int (Int32.ofNat (dF y))), .val (.int key), .unset, .unset, .unset, .unset]) (fun m => by first | (simp [entryFrame, mkF, argsToLocals, Value.category]; done) | rfl) ?_
  intro p_ e_ s_ m_ bel_ mt_ cd_ C
  rcases dF_12 y with hd | hd
  · rw [hd]
    refine g_iload_n C d_jdk_65_method_59_0 rfl (pc' := 1) rfl ?_
    refine g_istore C d_jdk_65_method_59_1 (Ls' := #[.val (.ref a), .val (.int (0 : Int32)), .val (.int (Int32.ofNat 1)), .val (.int key), .val (.int (0 : Int32)), .unset, .unset, .unset]) rfl (pc' := 3) rfl ?_
    refine g_iload_n C d_jdk_65_method_59_3 rfl (pc' := 4) rfl ?_
    refine g_iconst C d_jdk_65_method_59_4 (x := (1 : Int32)) rfl (pc' := 5) rfl ?_
    refine g_isub C d_jdk_65_method_59_5 (pc' := 6) rfl ?_
    refine g_norm (cells' := 0) (slots' := 0) (st' := [(.int (0 : Int32))]) (Nat.le_refl _) (Nat.le_refl _) (congrArg (fun z : Int32 => (Value.int z :: [] : List Value)) (by first | decide | exact Nat.le_of_ble_eq_true rfl)) ?_
    refine g_istore C d_jdk_65_method_59_6 (Ls' := #[.val (.ref a), .val (.int (0 : Int32)), .val (.int (Int32.ofNat 1)), .val (.int key), .val (.int (0 : Int32)), .val (.int (0 : Int32)), .unset, .unset]) rfl (pc' := 8) rfl ?_
    refine g_iload C d_jdk_65_method_59_8 rfl (pc' := 10) rfl ?_
    refine g_iload C d_jdk_65_method_59_10 rfl (pc' := 12) rfl ?_
    refine g_if_icmpgt C d_jdk_65_method_59_12 (by decide) (pcT := 66) rfl (pcF := 15) rfl (fun zz_ => absurd zz_ (by first | decide | exact Nat.le_of_ble_eq_true rfl)) (fun _ => ?_)
    refine g_iload C d_jdk_65_method_59_15 rfl (pc' := 17) rfl ?_
    refine g_iload C d_jdk_65_method_59_17 rfl (pc' := 19) rfl ?_
    refine g_iadd C d_jdk_65_method_59_19 (pc' := 20) rfl ?_
    refine g_norm (cells' := 0) (slots' := 0) (st' := [(.int (0 : Int32))]) (Nat.le_refl _) (Nat.le_refl _) (congrArg (fun z : Int32 => (Value.int z :: [] : List Value)) (by first | decide | exact Nat.le_of_ble_eq_true rfl)) ?_
    refine g_iconst C d_jdk_65_method_59_20 (x := (1 : Int32)) rfl (pc' := 21) rfl ?_
    refine g_iushr C d_jdk_65_method_59_21 (pc' := 22) rfl ?_
    refine g_norm (cells' := 0) (slots' := 0) (st' := [(.int (0 : Int32))]) (Nat.le_refl _) (Nat.le_refl _) (congrArg (fun z : Int32 => (Value.int z :: [] : List Value)) (by first | decide | exact Nat.le_of_ble_eq_true rfl)) ?_
    refine g_istore C d_jdk_65_method_59_22 (Ls' := #[.val (.ref a), .val (.int (0 : Int32)), .val (.int (Int32.ofNat 1)), .val (.int key), .val (.int (0 : Int32)), .val (.int (0 : Int32)), .val (.int (0 : Int32)), .unset]) rfl (pc' := 24) rfl ?_
    refine g_aload_n C d_jdk_65_method_59_24 rfl rfl (pc' := 25) rfl ?_
    refine g_iload C d_jdk_65_method_59_25 rfl (pc' := 27) rfl ?_
    refine g_iaload C (A) (by first | decide | exact Nat.le_of_ble_eq_true rfl) (i := 0) rfl (by first | decide | exact Nat.le_of_ble_eq_true rfl) (v := (.int (w0F y))) (hW0) d_jdk_65_method_59_27 (pc' := 28) rfl ?_
    refine g_istore C d_jdk_65_method_59_28 (Ls' := #[.val (.ref a), .val (.int (0 : Int32)), .val (.int (Int32.ofNat 1)), .val (.int key), .val (.int (0 : Int32)), .val (.int (0 : Int32)), .val (.int (0 : Int32)), .val (.int (w0F y))]) rfl (pc' := 30) rfl ?_
    refine g_iload C d_jdk_65_method_59_30 rfl (pc' := 32) rfl ?_
    refine g_iload_n C d_jdk_65_method_59_32 rfl (pc' := 33) rfl ?_
    refine g_if_icmpge C d_jdk_65_method_59_33 (by decide) (pcT := 45) rfl (pcF := 36) rfl ?_ ?_
    · intro z
      refine g_iload C d_jdk_65_method_59_45 rfl (pc' := 47) rfl ?_
      refine g_iload_n C d_jdk_65_method_59_47 rfl (pc' := 48) rfl ?_
      refine g_if_icmple C d_jdk_65_method_59_48 (by decide) (pcT := 60) rfl (pcF := 51) rfl ?_ ?_
      · intro z2
        refine g_iload C d_jdk_65_method_59_60 rfl (pc' := 62) rfl ?_
        exact g_ireturn C d_jdk_65_method_59_62 (⟨⟨_, rfl, Or.inl ⟨i_eq z z2, rfl⟩⟩, rfl⟩) (by first | decide | exact Nat.le_of_ble_eq_true rfl) (by first | decide | exact Nat.le_of_ble_eq_true rfl)
      · intro z2
        refine g_iload C d_jdk_65_method_59_51 rfl (pc' := 53) rfl ?_
        refine g_iconst C d_jdk_65_method_59_53 (x := (1 : Int32)) rfl (pc' := 54) rfl ?_
        refine g_isub C d_jdk_65_method_59_54 (pc' := 55) rfl ?_
        refine g_norm (cells' := 0) (slots' := 0) (st' := [(.int (-1 : Int32))]) (Nat.le_refl _) (Nat.le_refl _) (congrArg (fun z : Int32 => (Value.int z :: [] : List Value)) (by first | decide | exact Nat.le_of_ble_eq_true rfl)) ?_
        refine g_istore C d_jdk_65_method_59_55 (Ls' := #[.val (.ref a), .val (.int (0 : Int32)), .val (.int (Int32.ofNat 1)), .val (.int key), .val (.int (0 : Int32)), .val (.int (-1 : Int32)), .val (.int (0 : Int32)), .val (.int (w0F y))]) rfl (pc' := 57) rfl ?_
        refine g_goto C d_jdk_65_method_59_57 (by decide) (pc' := 63) rfl ?_
        refine g_goto C d_jdk_65_method_59_63 (by decide) (pc' := 8) rfl ?_
        refine g_iload C d_jdk_65_method_59_8 rfl (pc' := 10) rfl ?_
        refine g_iload C d_jdk_65_method_59_10 rfl (pc' := 12) rfl ?_
        refine g_if_icmpgt C d_jdk_65_method_59_12 (by decide) (pcT := 66) rfl (pcF := 15) rfl (fun _ => ?_) (fun zz_ => absurd (by first | decide | exact Nat.le_of_ble_eq_true rfl) zz_)
        refine g_iload C d_jdk_65_method_59_66 rfl (pc' := 68) rfl ?_
        refine g_iconst C d_jdk_65_method_59_68 (x := (1 : Int32)) rfl (pc' := 69) rfl ?_
        refine g_iadd C d_jdk_65_method_59_69 (pc' := 70) rfl ?_
        refine g_norm (cells' := 0) (slots' := 0) (st' := [(.int (1 : Int32))]) (Nat.le_refl _) (Nat.le_refl _) (congrArg (fun z : Int32 => (Value.int z :: [] : List Value)) (by first | decide | exact Nat.le_of_ble_eq_true rfl)) ?_
        refine g_ineg C d_jdk_65_method_59_70 (pc' := 71) rfl ?_
        exact g_ireturn C d_jdk_65_method_59_71 (⟨⟨_, rfl, Or.inr (Or.inr ⟨i_ne' z2, fun q => absurd (hd.symm.trans q) (by first | decide | exact Nat.le_of_ble_eq_true rfl), by decide⟩)⟩, rfl⟩) (by first | decide | exact Nat.le_of_ble_eq_true rfl) (by first | decide | exact Nat.le_of_ble_eq_true rfl)
    · intro z
      refine g_iload C d_jdk_65_method_59_36 rfl (pc' := 38) rfl ?_
      refine g_iconst C d_jdk_65_method_59_38 (x := (1 : Int32)) rfl (pc' := 39) rfl ?_
      refine g_iadd C d_jdk_65_method_59_39 (pc' := 40) rfl ?_
      refine g_norm (cells' := 0) (slots' := 0) (st' := [(.int (1 : Int32))]) (Nat.le_refl _) (Nat.le_refl _) (congrArg (fun z : Int32 => (Value.int z :: [] : List Value)) (by first | decide | exact Nat.le_of_ble_eq_true rfl)) ?_
      refine g_istore C d_jdk_65_method_59_40 (Ls' := #[.val (.ref a), .val (.int (0 : Int32)), .val (.int (Int32.ofNat 1)), .val (.int key), .val (.int (1 : Int32)), .val (.int (0 : Int32)), .val (.int (0 : Int32)), .val (.int (w0F y))]) rfl (pc' := 42) rfl ?_
      refine g_goto C d_jdk_65_method_59_42 (by decide) (pc' := 63) rfl ?_
      refine g_goto C d_jdk_65_method_59_63 (by decide) (pc' := 8) rfl ?_
      refine g_iload C d_jdk_65_method_59_8 rfl (pc' := 10) rfl ?_
      refine g_iload C d_jdk_65_method_59_10 rfl (pc' := 12) rfl ?_
      refine g_if_icmpgt C d_jdk_65_method_59_12 (by decide) (pcT := 66) rfl (pcF := 15) rfl (fun _ => ?_) (fun zz_ => absurd (by first | decide | exact Nat.le_of_ble_eq_true rfl) zz_)
      refine g_iload C d_jdk_65_method_59_66 rfl (pc' := 68) rfl ?_
      refine g_iconst C d_jdk_65_method_59_68 (x := (1 : Int32)) rfl (pc' := 69) rfl ?_
      refine g_iadd C d_jdk_65_method_59_69 (pc' := 70) rfl ?_
      refine g_norm (cells' := 0) (slots' := 0) (st' := [(.int (2 : Int32))]) (Nat.le_refl _) (Nat.le_refl _) (congrArg (fun z : Int32 => (Value.int z :: [] : List Value)) (by first | decide | exact Nat.le_of_ble_eq_true rfl)) ?_
      refine g_ineg C d_jdk_65_method_59_70 (pc' := 71) rfl ?_
      exact g_ireturn C d_jdk_65_method_59_71 (⟨⟨_, rfl, Or.inr (Or.inr ⟨i_ne z, fun q => absurd (hd.symm.trans q) (by first | decide | exact Nat.le_of_ble_eq_true rfl), by decide⟩)⟩, rfl⟩) (by first | decide | exact Nat.le_of_ble_eq_true rfl) (by first | decide | exact Nat.le_of_ble_eq_true rfl)
  · rw [hd]
    refine g_iload_n C d_jdk_65_method_59_0 rfl (pc' := 1) rfl ?_
    refine g_istore C d_jdk_65_method_59_1 (Ls' := #[.val (.ref a), .val (.int (0 : Int32)), .val (.int (Int32.ofNat 2)), .val (.int key), .val (.int (0 : Int32)), .unset, .unset, .unset]) rfl (pc' := 3) rfl ?_
    refine g_iload_n C d_jdk_65_method_59_3 rfl (pc' := 4) rfl ?_
    refine g_iconst C d_jdk_65_method_59_4 (x := (1 : Int32)) rfl (pc' := 5) rfl ?_
    refine g_isub C d_jdk_65_method_59_5 (pc' := 6) rfl ?_
    refine g_norm (cells' := 0) (slots' := 0) (st' := [(.int (1 : Int32))]) (Nat.le_refl _) (Nat.le_refl _) (congrArg (fun z : Int32 => (Value.int z :: [] : List Value)) (by first | decide | exact Nat.le_of_ble_eq_true rfl)) ?_
    refine g_istore C d_jdk_65_method_59_6 (Ls' := #[.val (.ref a), .val (.int (0 : Int32)), .val (.int (Int32.ofNat 2)), .val (.int key), .val (.int (0 : Int32)), .val (.int (1 : Int32)), .unset, .unset]) rfl (pc' := 8) rfl ?_
    refine g_iload C d_jdk_65_method_59_8 rfl (pc' := 10) rfl ?_
    refine g_iload C d_jdk_65_method_59_10 rfl (pc' := 12) rfl ?_
    refine g_if_icmpgt C d_jdk_65_method_59_12 (by decide) (pcT := 66) rfl (pcF := 15) rfl (fun zz_ => absurd zz_ (by first | decide | exact Nat.le_of_ble_eq_true rfl)) (fun _ => ?_)
    refine g_iload C d_jdk_65_method_59_15 rfl (pc' := 17) rfl ?_
    refine g_iload C d_jdk_65_method_59_17 rfl (pc' := 19) rfl ?_
    refine g_iadd C d_jdk_65_method_59_19 (pc' := 20) rfl ?_
    refine g_norm (cells' := 0) (slots' := 0) (st' := [(.int (1 : Int32))]) (Nat.le_refl _) (Nat.le_refl _) (congrArg (fun z : Int32 => (Value.int z :: [] : List Value)) (by first | decide | exact Nat.le_of_ble_eq_true rfl)) ?_
    refine g_iconst C d_jdk_65_method_59_20 (x := (1 : Int32)) rfl (pc' := 21) rfl ?_
    refine g_iushr C d_jdk_65_method_59_21 (pc' := 22) rfl ?_
    refine g_norm (cells' := 0) (slots' := 0) (st' := [(.int (0 : Int32))]) (Nat.le_refl _) (Nat.le_refl _) (congrArg (fun z : Int32 => (Value.int z :: [] : List Value)) (by first | decide | exact Nat.le_of_ble_eq_true rfl)) ?_
    refine g_istore C d_jdk_65_method_59_22 (Ls' := #[.val (.ref a), .val (.int (0 : Int32)), .val (.int (Int32.ofNat 2)), .val (.int key), .val (.int (0 : Int32)), .val (.int (1 : Int32)), .val (.int (0 : Int32)), .unset]) rfl (pc' := 24) rfl ?_
    refine g_aload_n C d_jdk_65_method_59_24 rfl rfl (pc' := 25) rfl ?_
    refine g_iload C d_jdk_65_method_59_25 rfl (pc' := 27) rfl ?_
    refine g_iaload C (A) (by first | decide | exact Nat.le_of_ble_eq_true rfl) (i := 0) rfl (by first | decide | exact Nat.le_of_ble_eq_true rfl) (v := (.int (w0F y))) (hW0) d_jdk_65_method_59_27 (pc' := 28) rfl ?_
    refine g_istore C d_jdk_65_method_59_28 (Ls' := #[.val (.ref a), .val (.int (0 : Int32)), .val (.int (Int32.ofNat 2)), .val (.int key), .val (.int (0 : Int32)), .val (.int (1 : Int32)), .val (.int (0 : Int32)), .val (.int (w0F y))]) rfl (pc' := 30) rfl ?_
    refine g_iload C d_jdk_65_method_59_30 rfl (pc' := 32) rfl ?_
    refine g_iload_n C d_jdk_65_method_59_32 rfl (pc' := 33) rfl ?_
    refine g_if_icmpge C d_jdk_65_method_59_33 (by decide) (pcT := 45) rfl (pcF := 36) rfl ?_ ?_
    · intro z
      refine g_iload C d_jdk_65_method_59_45 rfl (pc' := 47) rfl ?_
      refine g_iload_n C d_jdk_65_method_59_47 rfl (pc' := 48) rfl ?_
      refine g_if_icmple C d_jdk_65_method_59_48 (by decide) (pcT := 60) rfl (pcF := 51) rfl ?_ ?_
      · intro z2
        refine g_iload C d_jdk_65_method_59_60 rfl (pc' := 62) rfl ?_
        exact g_ireturn C d_jdk_65_method_59_62 (⟨⟨_, rfl, Or.inl ⟨i_eq z z2, rfl⟩⟩, rfl⟩) (by first | decide | exact Nat.le_of_ble_eq_true rfl) (by first | decide | exact Nat.le_of_ble_eq_true rfl)
      · intro z2
        refine g_iload C d_jdk_65_method_59_51 rfl (pc' := 53) rfl ?_
        refine g_iconst C d_jdk_65_method_59_53 (x := (1 : Int32)) rfl (pc' := 54) rfl ?_
        refine g_isub C d_jdk_65_method_59_54 (pc' := 55) rfl ?_
        refine g_norm (cells' := 0) (slots' := 0) (st' := [(.int (-1 : Int32))]) (Nat.le_refl _) (Nat.le_refl _) (congrArg (fun z : Int32 => (Value.int z :: [] : List Value)) (by first | decide | exact Nat.le_of_ble_eq_true rfl)) ?_
        refine g_istore C d_jdk_65_method_59_55 (Ls' := #[.val (.ref a), .val (.int (0 : Int32)), .val (.int (Int32.ofNat 2)), .val (.int key), .val (.int (0 : Int32)), .val (.int (-1 : Int32)), .val (.int (0 : Int32)), .val (.int (w0F y))]) rfl (pc' := 57) rfl ?_
        refine g_goto C d_jdk_65_method_59_57 (by decide) (pc' := 63) rfl ?_
        refine g_goto C d_jdk_65_method_59_63 (by decide) (pc' := 8) rfl ?_
        refine g_iload C d_jdk_65_method_59_8 rfl (pc' := 10) rfl ?_
        refine g_iload C d_jdk_65_method_59_10 rfl (pc' := 12) rfl ?_
        refine g_if_icmpgt C d_jdk_65_method_59_12 (by decide) (pcT := 66) rfl (pcF := 15) rfl (fun _ => ?_) (fun zz_ => absurd (by first | decide | exact Nat.le_of_ble_eq_true rfl) zz_)
        refine g_iload C d_jdk_65_method_59_66 rfl (pc' := 68) rfl ?_
        refine g_iconst C d_jdk_65_method_59_68 (x := (1 : Int32)) rfl (pc' := 69) rfl ?_
        refine g_iadd C d_jdk_65_method_59_69 (pc' := 70) rfl ?_
        refine g_norm (cells' := 0) (slots' := 0) (st' := [(.int (1 : Int32))]) (Nat.le_refl _) (Nat.le_refl _) (congrArg (fun z : Int32 => (Value.int z :: [] : List Value)) (by first | decide | exact Nat.le_of_ble_eq_true rfl)) ?_
        refine g_ineg C d_jdk_65_method_59_70 (pc' := 71) rfl ?_
        exact g_ireturn C d_jdk_65_method_59_71 (⟨⟨_, rfl, Or.inr (Or.inr ⟨i_ne' z2, fun _ => i_ne' (i_tr z2 (w_lt hd)), by decide⟩)⟩, rfl⟩) (by first | decide | exact Nat.le_of_ble_eq_true rfl) (by first | decide | exact Nat.le_of_ble_eq_true rfl)
    · intro z
      refine g_iload C d_jdk_65_method_59_36 rfl (pc' := 38) rfl ?_
      refine g_iconst C d_jdk_65_method_59_38 (x := (1 : Int32)) rfl (pc' := 39) rfl ?_
      refine g_iadd C d_jdk_65_method_59_39 (pc' := 40) rfl ?_
      refine g_norm (cells' := 0) (slots' := 0) (st' := [(.int (1 : Int32))]) (Nat.le_refl _) (Nat.le_refl _) (congrArg (fun z : Int32 => (Value.int z :: [] : List Value)) (by first | decide | exact Nat.le_of_ble_eq_true rfl)) ?_
      refine g_istore C d_jdk_65_method_59_40 (Ls' := #[.val (.ref a), .val (.int (0 : Int32)), .val (.int (Int32.ofNat 2)), .val (.int key), .val (.int (1 : Int32)), .val (.int (1 : Int32)), .val (.int (0 : Int32)), .val (.int (w0F y))]) rfl (pc' := 42) rfl ?_
      refine g_goto C d_jdk_65_method_59_42 (by decide) (pc' := 63) rfl ?_
      refine g_goto C d_jdk_65_method_59_63 (by decide) (pc' := 8) rfl ?_
      refine g_iload C d_jdk_65_method_59_8 rfl (pc' := 10) rfl ?_
      refine g_iload C d_jdk_65_method_59_10 rfl (pc' := 12) rfl ?_
      refine g_if_icmpgt C d_jdk_65_method_59_12 (by decide) (pcT := 66) rfl (pcF := 15) rfl (fun zz_ => absurd zz_ (by first | decide | exact Nat.le_of_ble_eq_true rfl)) (fun _ => ?_)
      refine g_iload C d_jdk_65_method_59_15 rfl (pc' := 17) rfl ?_
      refine g_iload C d_jdk_65_method_59_17 rfl (pc' := 19) rfl ?_
      refine g_iadd C d_jdk_65_method_59_19 (pc' := 20) rfl ?_
      refine g_norm (cells' := 0) (slots' := 0) (st' := [(.int (2 : Int32))]) (Nat.le_refl _) (Nat.le_refl _) (congrArg (fun z : Int32 => (Value.int z :: [] : List Value)) (by first | decide | exact Nat.le_of_ble_eq_true rfl)) ?_
      refine g_iconst C d_jdk_65_method_59_20 (x := (1 : Int32)) rfl (pc' := 21) rfl ?_
      refine g_iushr C d_jdk_65_method_59_21 (pc' := 22) rfl ?_
      refine g_norm (cells' := 0) (slots' := 0) (st' := [(.int (1 : Int32))]) (Nat.le_refl _) (Nat.le_refl _) (congrArg (fun z : Int32 => (Value.int z :: [] : List Value)) (by first | decide | exact Nat.le_of_ble_eq_true rfl)) ?_
      refine g_istore C d_jdk_65_method_59_22 (Ls' := #[.val (.ref a), .val (.int (0 : Int32)), .val (.int (Int32.ofNat 2)), .val (.int key), .val (.int (1 : Int32)), .val (.int (1 : Int32)), .val (.int (1 : Int32)), .val (.int (w0F y))]) rfl (pc' := 24) rfl ?_
      refine g_aload_n C d_jdk_65_method_59_24 rfl rfl (pc' := 25) rfl ?_
      refine g_iload C d_jdk_65_method_59_25 rfl (pc' := 27) rfl ?_
      refine g_iaload C (A) (by first | decide | exact Nat.le_of_ble_eq_true rfl) (i := 1) rfl (by first | decide | exact Nat.le_of_ble_eq_true rfl) (v := (.int (w1F y))) (hW1 hd) d_jdk_65_method_59_27 (pc' := 28) rfl ?_
      refine g_istore C d_jdk_65_method_59_28 (Ls' := #[.val (.ref a), .val (.int (0 : Int32)), .val (.int (Int32.ofNat 2)), .val (.int key), .val (.int (1 : Int32)), .val (.int (1 : Int32)), .val (.int (1 : Int32)), .val (.int (w1F y))]) rfl (pc' := 30) rfl ?_
      refine g_iload C d_jdk_65_method_59_30 rfl (pc' := 32) rfl ?_
      refine g_iload_n C d_jdk_65_method_59_32 rfl (pc' := 33) rfl ?_
      refine g_if_icmpge C d_jdk_65_method_59_33 (by decide) (pcT := 45) rfl (pcF := 36) rfl ?_ ?_
      · intro z1
        refine g_iload C d_jdk_65_method_59_45 rfl (pc' := 47) rfl ?_
        refine g_iload_n C d_jdk_65_method_59_47 rfl (pc' := 48) rfl ?_
        refine g_if_icmple C d_jdk_65_method_59_48 (by decide) (pcT := 60) rfl (pcF := 51) rfl ?_ ?_
        · intro z2
          refine g_iload C d_jdk_65_method_59_60 rfl (pc' := 62) rfl ?_
          exact g_ireturn C d_jdk_65_method_59_62 (⟨⟨_, rfl, Or.inr (Or.inl ⟨hd, i_eq z1 z2, rfl⟩)⟩, rfl⟩) (by first | decide | exact Nat.le_of_ble_eq_true rfl) (by first | decide | exact Nat.le_of_ble_eq_true rfl)
        · intro z2
          refine g_iload C d_jdk_65_method_59_51 rfl (pc' := 53) rfl ?_
          refine g_iconst C d_jdk_65_method_59_53 (x := (1 : Int32)) rfl (pc' := 54) rfl ?_
          refine g_isub C d_jdk_65_method_59_54 (pc' := 55) rfl ?_
          refine g_norm (cells' := 0) (slots' := 0) (st' := [(.int (0 : Int32))]) (Nat.le_refl _) (Nat.le_refl _) (congrArg (fun z : Int32 => (Value.int z :: [] : List Value)) (by first | decide | exact Nat.le_of_ble_eq_true rfl)) ?_
          refine g_istore C d_jdk_65_method_59_55 (Ls' := #[.val (.ref a), .val (.int (0 : Int32)), .val (.int (Int32.ofNat 2)), .val (.int key), .val (.int (1 : Int32)), .val (.int (0 : Int32)), .val (.int (1 : Int32)), .val (.int (w1F y))]) rfl (pc' := 57) rfl ?_
          refine g_goto C d_jdk_65_method_59_57 (by decide) (pc' := 63) rfl ?_
          refine g_goto C d_jdk_65_method_59_63 (by decide) (pc' := 8) rfl ?_
          refine g_iload C d_jdk_65_method_59_8 rfl (pc' := 10) rfl ?_
          refine g_iload C d_jdk_65_method_59_10 rfl (pc' := 12) rfl ?_
          refine g_if_icmpgt C d_jdk_65_method_59_12 (by decide) (pcT := 66) rfl (pcF := 15) rfl (fun _ => ?_) (fun zz_ => absurd (by first | decide | exact Nat.le_of_ble_eq_true rfl) zz_)
          refine g_iload C d_jdk_65_method_59_66 rfl (pc' := 68) rfl ?_
          refine g_iconst C d_jdk_65_method_59_68 (x := (1 : Int32)) rfl (pc' := 69) rfl ?_
          refine g_iadd C d_jdk_65_method_59_69 (pc' := 70) rfl ?_
          refine g_norm (cells' := 0) (slots' := 0) (st' := [(.int (2 : Int32))]) (Nat.le_refl _) (Nat.le_refl _) (congrArg (fun z : Int32 => (Value.int z :: [] : List Value)) (by first | decide | exact Nat.le_of_ble_eq_true rfl)) ?_
          refine g_ineg C d_jdk_65_method_59_70 (pc' := 71) rfl ?_
          exact g_ireturn C d_jdk_65_method_59_71 (⟨⟨_, rfl, Or.inr (Or.inr ⟨i_ne z, fun _ => i_ne' z2, by decide⟩)⟩, rfl⟩) (by first | decide | exact Nat.le_of_ble_eq_true rfl) (by first | decide | exact Nat.le_of_ble_eq_true rfl)
      · intro z1
        refine g_iload C d_jdk_65_method_59_36 rfl (pc' := 38) rfl ?_
        refine g_iconst C d_jdk_65_method_59_38 (x := (1 : Int32)) rfl (pc' := 39) rfl ?_
        refine g_iadd C d_jdk_65_method_59_39 (pc' := 40) rfl ?_
        refine g_norm (cells' := 0) (slots' := 0) (st' := [(.int (2 : Int32))]) (Nat.le_refl _) (Nat.le_refl _) (congrArg (fun z : Int32 => (Value.int z :: [] : List Value)) (by first | decide | exact Nat.le_of_ble_eq_true rfl)) ?_
        refine g_istore C d_jdk_65_method_59_40 (Ls' := #[.val (.ref a), .val (.int (0 : Int32)), .val (.int (Int32.ofNat 2)), .val (.int key), .val (.int (2 : Int32)), .val (.int (1 : Int32)), .val (.int (1 : Int32)), .val (.int (w1F y))]) rfl (pc' := 42) rfl ?_
        refine g_goto C d_jdk_65_method_59_42 (by decide) (pc' := 63) rfl ?_
        refine g_goto C d_jdk_65_method_59_63 (by decide) (pc' := 8) rfl ?_
        refine g_iload C d_jdk_65_method_59_8 rfl (pc' := 10) rfl ?_
        refine g_iload C d_jdk_65_method_59_10 rfl (pc' := 12) rfl ?_
        refine g_if_icmpgt C d_jdk_65_method_59_12 (by decide) (pcT := 66) rfl (pcF := 15) rfl (fun _ => ?_) (fun zz_ => absurd (by first | decide | exact Nat.le_of_ble_eq_true rfl) zz_)
        refine g_iload C d_jdk_65_method_59_66 rfl (pc' := 68) rfl ?_
        refine g_iconst C d_jdk_65_method_59_68 (x := (1 : Int32)) rfl (pc' := 69) rfl ?_
        refine g_iadd C d_jdk_65_method_59_69 (pc' := 70) rfl ?_
        refine g_norm (cells' := 0) (slots' := 0) (st' := [(.int (3 : Int32))]) (Nat.le_refl _) (Nat.le_refl _) (congrArg (fun z : Int32 => (Value.int z :: [] : List Value)) (by first | decide | exact Nat.le_of_ble_eq_true rfl)) ?_
        refine g_ineg C d_jdk_65_method_59_70 (pc' := 71) rfl ?_
        exact g_ireturn C d_jdk_65_method_59_71 (⟨⟨_, rfl, Or.inr (Or.inr ⟨i_ne z, fun _ => i_ne z1, by decide⟩)⟩, rfl⟩) (by first | decide | exact Nat.le_of_ble_eq_true rfl) (by first | decide | exact Nat.le_of_ble_eq_true rfl)
set_option maxRecDepth 65536 in
set_option maxHeartbeats 40000000 in
theorem con_bs (l : Launch) (Z : State) (a0 : Array Value) (hw : ∀ d ∈ tables_1, d.before a0 Z = true)  (h : Heap) (y key : Int32) (a : Addr) (f : Nat → Value) (A : Af Z h a .int 66 f) (hW0 : f 0 = .int (w0F y)) (hW1 : dF y = 2 → f 1 = .int (w1F y)) : Con l Z [] (⟨"java/util/Arrays", "binarySearch", "([IIII)I"⟩ : MethodName) jdk_65_method_58_code 4 ((some Jvm.ClassFile.FieldType.int)) ({ frames := 1, cells := 0, slots := 0, locals := 19 } : Room) #[(.ref a), (.int (0 : Int32)), (.int (Int32.ofNat (dF y))), (.int key)] h [] (fun v h' => (∃ r : Int32, v = some (.int r) ∧ BS y key r) ∧ h' = h) := by
  refine Con.of (plainFor_of_name pn2) (Ls := #[.val (.ref a), .val (.int (0 : Int32)), .val (.int (Int32.ofNat (dF y))), .val (.int key)]) (fun m => by first | (simp [entryFrame, mkF, argsToLocals, Value.category]; done) | rfl) ?_
  intro p_ e_ s_ m_ bel_ mt_ cd_ C
  have hd := dF_le y
  refine g_aload_n C d_jdk_65_method_58_0 rfl rfl (pc' := 1) rfl ?_
  refine g_arraylength C (A) (z := (66 : Int32)) rfl d_jdk_65_method_58_1 (pc' := 2) rfl ?_
  refine g_iload_n C d_jdk_65_method_58_2 rfl (pc' := 3) rfl ?_
  refine g_iload_n C d_jdk_65_method_58_3 rfl (pc' := 4) rfl ?_
  refine g_staticC C (W := 0) (argsL := [(.int (66 : Int32)), (.int (0 : Int32)), (.int (Int32.ofNat (dF y)))]) (rest := []) (con_rck l Z a0 hw h 66 (Int32.ofNat (dF y)) (i32_nn (by omega)) (by rw [show (66 : Int32) = Int32.ofNat 66 from rfl]; exact fun q => absurd ((lt_n (by omega) (by omega)).1 q) (by omega))) (Wx52 hw) (Wx53 hw) (Wx25 hw) (Wx54 hw) (by first | decide | exact Nat.le_of_ble_eq_true rfl) rfl (lenOf pd0 rfl) rfl (Nat.le_of_eq rfl) d_jdk_65_method_58_4 (pc' := 7) rfl (by first | decide | exact Nat.le_of_ble_eq_true rfl) (by first | decide | exact Nat.le_of_ble_eq_true rfl) (fun _ q => nomatch q) (by first | decide | exact Nat.le_of_ble_eq_true rfl) (by first | decide | exact Nat.le_of_ble_eq_true rfl) ?_
  rintro _ hh ⟨rfl, eh_⟩ K
  subst hh
  refine g_norm (cells' := 0) (slots' := 0) (st' := []) (by first | decide | exact Nat.le_of_ble_eq_true rfl) (by first | decide | exact Nat.le_of_ble_eq_true rfl) rfl ?_
  refine g_aload_n C d_jdk_65_method_58_7 rfl rfl (pc' := 8) rfl ?_
  refine g_iload_n C d_jdk_65_method_58_8 rfl (pc' := 9) rfl ?_
  refine g_iload_n C d_jdk_65_method_58_9 rfl (pc' := 10) rfl ?_
  refine g_iload_n C d_jdk_65_method_58_10 rfl (pc' := 11) rfl ?_
  refine g_staticC C (W := 0) (argsL := [(.ref a), (.int (0 : Int32)), (.int (Int32.ofNat (dF y))), (.int key)]) (rest := []) (con_bs0 l Z a0 hw h y key a f A hW0 hW1) (Wx55 hw) (Wx56 hw) (Wx25 hw) (Wx57 hw) (by first | decide | exact Nat.le_of_ble_eq_true rfl) rfl (lenOf pd1 rfl) rfl (Nat.le_of_eq rfl) d_jdk_65_method_58_11 (pc' := 14) rfl (by first | decide | exact Nat.le_of_ble_eq_true rfl) (by first | decide | exact Nat.le_of_ble_eq_true rfl) (fun _ q => nomatch q) (by first | decide | exact Nat.le_of_ble_eq_true rfl) (by first | decide | exact Nat.le_of_ble_eq_true rfl) ?_
  rintro _ hh ⟨⟨r, rfl, B⟩, eh_⟩ K2
  subst hh
  refine g_norm (cells' := 0) (slots' := 0) (st' := [(.int r)]) (by first | decide | exact Nat.le_of_ble_eq_true rfl) (by first | decide | exact Nat.le_of_ble_eq_true rfl) rfl ?_
  exact g_ireturn C d_jdk_65_method_58_14 (⟨⟨r, rfl, B⟩, rfl⟩) (by first | decide | exact Nat.le_of_ble_eq_true rfl) (by first | decide | exact Nat.le_of_ble_eq_true rfl)
set_option maxRecDepth 65536 in
set_option maxHeartbeats 40000000 in
theorem con_cp (l : Launch) (Z : State) (a0 : Array Value) (hw : ∀ d ∈ tables_1, d.before a0 Z = true)  (h : Heap) (y : Int32) (t : Addr) (g : Nat → Value) (A : Af Z h t .int (dF y + 1) g) : Con l Z [] (⟨"java/util/Arrays", "copyOf", "([II)[I"⟩ : MethodName) jdk_65_method_123_code 3 ((some (Jvm.ClassFile.FieldType.array Jvm.ClassFile.FieldType.int))) ({ frames := 1, cells := 1, slots := 2, locals := 18 } : Room) #[(.ref t), (.int (Int32.ofNat (dF y)))] h [] (fun v h' => ∃ u, v = some (.ref u) ∧ h.size ≤ u ∧ Af Z h' u .int (dF y) g) := by
  refine Con.of (plainFor_of_name pn2) (Ls := #[.val (.ref t), .val (.int (Int32.ofNat (dF y))), .unset]) (fun m => by first | (simp [entryFrame, mkF, argsToLocals, Value.category]; done) | rfl) ?_
  intro p_ e_ s_ m_ bel_ mt_ cd_ C
  have hd := dF_le y
  refine g_iload_n C d_jdk_65_method_123_0 rfl (pc' := 1) rfl ?_
  refine g_aload_n C d_jdk_65_method_123_1 rfl rfl (pc' := 2) rfl ?_
  refine g_arraylength C (A) (z := (Int32.ofNat (dF y + 1))) rfl d_jdk_65_method_123_2 (pc' := 3) rfl ?_
  refine g_if_icmpne C d_jdk_65_method_123_3 (by decide) (pcT := 14) rfl (pcF := 6) rfl (fun _ => ?_) (fun zz_ => absurd zz_ (fun q => absurd ((eq_n (by omega) (by omega)).1 q) (by omega)))
  refine g_iload_n C d_jdk_65_method_123_14 rfl (pc' := 15) rfl ?_
  refine g_newarray C (aty := .int) (n := dF y) (Wx1 hw) (i32_nn (by omega)) (i32_clamp (by omega)) (by omega) d_jdk_65_method_123_15 (pc' := 17) rfl (by first | decide | exact Nat.le_of_ble_eq_true rfl) (Nat.le_trans (show 0 + dF y ≤ 2 by omega) (by first | decide | exact Nat.le_of_ble_eq_true rfl)) ?_
  intro h1 u hu hu0 X1 A1
  refine g_norm (cells' := 1) (slots' := 2) (st' := [(.ref u)]) (by first | decide | exact Nat.le_of_ble_eq_true rfl) (show 0 + dF y ≤ 2 by omega) rfl ?_
  refine g_astore_n C d_jdk_65_method_123_17 rfl (Ls' := #[.val (.ref t), .val (.int (Int32.ofNat (dF y))), .val (.ref u)]) rfl (pc' := 18) rfl ?_
  refine g_aload_n C d_jdk_65_method_123_18 rfl rfl (pc' := 19) rfl ?_
  refine g_iconst C d_jdk_65_method_123_19 (x := (0 : Int32)) rfl (pc' := 20) rfl ?_
  refine g_aload_n C d_jdk_65_method_123_20 rfl rfl (pc' := 21) rfl ?_
  refine g_iconst C d_jdk_65_method_123_21 (x := (0 : Int32)) rfl (pc' := 22) rfl ?_
  refine g_aload_n C d_jdk_65_method_123_22 rfl rfl (pc' := 23) rfl ?_
  refine g_arraylength C (A.ext X1) (z := (Int32.ofNat (dF y + 1))) rfl d_jdk_65_method_123_23 (pc' := 24) rfl ?_
  refine g_iload_n C d_jdk_65_method_123_24 rfl (pc' := 25) rfl ?_
  refine g_staticC C (W := 4) (argsL := [(.int (Int32.ofNat (dF y + 1))), (.int (Int32.ofNat (dF y)))]) (rest := [(.int (0 : Int32)), (.ref u), (.int (0 : Int32)), (.ref t)]) (con_min l Z a0 hw h1 (Int32.ofNat (dF y + 1)) (Int32.ofNat (dF y)) ((lt_n (by omega) (by omega)).2 (by omega))) (Wx61 hw) (Wx62 hw) (Wx63 hw) (Wx64 hw) (by first | decide | exact Nat.le_of_ble_eq_true rfl) rfl (lenOf pd2 rfl) rfl (Nat.le_of_eq rfl) d_jdk_65_method_123_25 (pc' := 28) rfl (by first | decide | exact Nat.le_of_ble_eq_true rfl) (by first | decide | exact Nat.le_of_ble_eq_true rfl) (fun _ q => nomatch q) (by first | decide | exact Nat.le_of_ble_eq_true rfl) (by first | decide | exact Nat.le_of_ble_eq_true rfl) ?_
  rintro _ hh ⟨rfl, eh_⟩ K
  subst hh
  refine g_norm (cells' := 1) (slots' := 2) (st' := [(.int (Int32.ofNat (dF y))), (.int (0 : Int32)), (.ref u), (.int (0 : Int32)), (.ref t)]) (by first | decide | exact Nat.le_of_ble_eq_true rfl) (by first | decide | exact Nat.le_of_ble_eq_true rfl) rfl ?_
  refine g_arraycopy C (sp := 0) (dp := 0) (nn := (dF y)) (Wx65 hw) (Wx68 hw) (Wx66 hw) (Wx67 hw) (A.ext X1) (A1) rfl rfl rfl rfl (by omega) (by omega) (Or.inr hu0) rfl (by first | decide | exact Nat.le_of_ble_eq_true rfl) (by first | decide | exact Nat.le_of_ble_eq_true rfl) d_jdk_65_method_123_28 (pc' := 31) rfl ?_
  intro h2 K2 R2
  refine g_aload_n C d_jdk_65_method_123_31 rfl rfl (pc' := 32) rfl ?_
  exact g_areturn C rfl rfl d_jdk_65_method_123_32 (⟨u, rfl, hu0, R2.congr fun i hi => by show g i = if 0 ≤ i ∧ i < 0 + dF y then g (0 + (i - 0)) else _; rw [if_pos ⟨Nat.zero_le _, by omega⟩, Nat.zero_add, Nat.sub_zero]⟩) (by first | decide | exact Nat.le_of_ble_eq_true rfl) (by first | decide | exact Nat.le_of_ble_eq_true rfl)
set_option maxRecDepth 65536 in
set_option maxHeartbeats 40000000 in
theorem con_ins (l : Launch) (Z : State) (a0 : Array Value) (hw : ∀ d ∈ tables_1, d.before a0 Z = true)  (h : Heap) (a : Addr) (hi : Int32) (hh1 : ¬ (1 : Int32) < hi) : Con l Z [] (⟨"java/util/DualPivotQuicksort", "insertionSort", "([III)V"⟩ : MethodName) jdk_2529_method_6_code 6 (none) ({ frames := 0, cells := 0, slots := 0, locals := 0 } : Room) #[(.ref a), (.int (0 : Int32)), (.int hi)] h [] (fun v h' => v = none ∧ h' = h) := by
  refine Con.of (plainFor_of_name pn0) (Ls := #[.val (.ref a), .val (.int (0 : Int32)), .val (.int hi), .unset, .unset, .unset]) (fun m => by first | (simp [entryFrame, mkF, argsToLocals, Value.category]; done) | rfl) ?_
  intro p_ e_ s_ m_ bel_ mt_ cd_ C
  refine g_iload_n C d_jdk_2529_method_6_0 rfl (pc' := 1) rfl ?_
  refine g_istore C d_jdk_2529_method_6_1 (Ls' := #[.val (.ref a), .val (.int (0 : Int32)), .val (.int hi), .unset, .val (.int (0 : Int32)), .unset]) rfl (pc' := 3) rfl ?_
  refine g_iinc C d_jdk_2529_method_6_3 rfl (y := (1 : Int32)) (by first | decide | exact Nat.le_of_ble_eq_true rfl) (Ls' := #[.val (.ref a), .val (.int (0 : Int32)), .val (.int hi), .unset, .val (.int (1 : Int32)), .unset]) rfl (pc' := 6) rfl ?_
  refine g_iload C d_jdk_2529_method_6_6 rfl (pc' := 8) rfl ?_
  refine g_iload_n C d_jdk_2529_method_6_8 rfl (pc' := 9) rfl ?_
  refine g_if_icmpge C d_jdk_2529_method_6_9 (by decide) (pcT := 67) rfl (pcF := 12) rfl (fun _ => ?_) (fun zz_ => absurd zz_ (hh1))
  exact g_return C d_jdk_2529_method_6_67 (⟨rfl, rfl⟩) (by first | decide | exact Nat.le_of_ble_eq_true rfl) (by first | decide | exact Nat.le_of_ble_eq_true rfl)
set_option maxRecDepth 65536 in
set_option maxHeartbeats 40000000 in
theorem con_mix (l : Launch) (Z : State) (a0 : Array Value) (hw : ∀ d ∈ tables_1, d.before a0 Z = true)  (h : Heap) (a : Addr) (lo : Int32) (hl : ¬ lo + 1 < (66 : Int32)) : Con l Z [] (⟨"java/util/DualPivotQuicksort", "mixedInsertionSort", "([IIII)V"⟩ : MethodName) jdk_2529_method_5_code 8 (none) ({ frames := 0, cells := 0, slots := 0, locals := 0 } : Room) #[(.ref a), (.int lo), (.int (66 : Int32)), (.int (66 : Int32))] h [] (fun v h' => v = none ∧ h' = h) := by
  refine Con.of (plainFor_of_name pn0) (Ls := #[.val (.ref a), .val (.int lo), .val (.int (66 : Int32)), .val (.int (66 : Int32)), .unset, .unset, .unset, .unset]) (fun m => by first | (simp [entryFrame, mkF, argsToLocals, Value.category]; done) | rfl) ?_
  intro p_ e_ s_ m_ bel_ mt_ cd_ C
  refine g_iload_n C d_jdk_2529_method_5_0 rfl (pc' := 1) rfl ?_
  refine g_iload_n C d_jdk_2529_method_5_1 rfl (pc' := 2) rfl ?_
  refine g_if_icmpne C d_jdk_2529_method_5_2 (by decide) (pcT := 60) rfl (pcF := 5) rfl (fun zz_ => absurd (rfl) zz_) (fun _ => ?_)
  refine g_iinc C d_jdk_2529_method_5_5 rfl (y := (lo + 1)) (rfl) (Ls' := #[.val (.ref a), .val (.int (lo + 1)), .val (.int (66 : Int32)), .val (.int (66 : Int32)), .unset, .unset, .unset, .unset]) rfl (pc' := 8) rfl ?_
  refine g_iload_n C d_jdk_2529_method_5_8 rfl (pc' := 9) rfl ?_
  refine g_iload_n C d_jdk_2529_method_5_9 rfl (pc' := 10) rfl ?_
  refine g_if_icmpge C d_jdk_2529_method_5_10 (by decide) (pcT := 57) rfl (pcF := 13) rfl (fun _ => ?_) (fun zz_ => absurd zz_ (hl))
  refine g_goto C d_jdk_2529_method_5_57 (by decide) (pc' := 414) rfl ?_
  exact g_return C d_jdk_2529_method_5_414 (⟨rfl, rfl⟩) (by first | decide | exact Nat.le_of_ble_eq_true rfl) (by first | decide | exact Nat.le_of_ble_eq_true rfl)
set_option maxRecDepth 65536 in
set_option maxHeartbeats 40000000 in
theorem con_r65 (l : Launch) (Z : State) (a0 : Array Value) (hw : ∀ d ∈ tables_1, d.before a0 Z = true)  (h : Heap) (a : Addr) : Con l Z [] (⟨"java/util/DualPivotQuicksort", "sort", "(Ljava/util/DualPivotQuicksort$Sorter;[IIII)V"⟩ : MethodName) jdk_2529_method_4_code 21 (none) ({ frames := 1, cells := 0, slots := 0, locals := 19 } : Room) #[.null, (.ref a), (.int (7 : Int32)), (.int (65 : Int32)), (.int (66 : Int32))] h [] (fun v h' => v = none ∧ h' = h) := by
  refine Con.of (plainFor_of_name pn0) (Ls := #[.val .null, .val (.ref a), .val (.int (7 : Int32)), .val (.int (65 : Int32)), .val (.int (66 : Int32)), .unset, .unset, .unset, .unset, .unset, .unset, .unset, .unset, .unset, .unset, .unset, .unset, .unset, .unset, .unset, .unset]) (fun m => by first | (simp [entryFrame, mkF, argsToLocals, Value.category]; done) | rfl) ?_
  intro p_ e_ s_ m_ bel_ mt_ cd_ C
  refine g_iload C d_jdk_2529_method_4_0 rfl (pc' := 2) rfl ?_
  refine g_iconst C d_jdk_2529_method_4_2 (x := (1 : Int32)) rfl (pc' := 3) rfl ?_
  refine g_isub C d_jdk_2529_method_4_3 (pc' := 4) rfl ?_
  refine g_norm (cells' := 0) (slots' := 0) (st' := [(.int (65 : Int32))]) (Nat.le_refl _) (Nat.le_refl _) (congrArg (fun z : Int32 => (Value.int z :: [] : List Value)) (by first | decide | exact Nat.le_of_ble_eq_true rfl)) ?_
  refine g_istore C d_jdk_2529_method_4_4 (Ls' := #[.val .null, .val (.ref a), .val (.int (7 : Int32)), .val (.int (65 : Int32)), .val (.int (66 : Int32)), .val (.int (65 : Int32)), .unset, .unset, .unset, .unset, .unset, .unset, .unset, .unset, .unset, .unset, .unset, .unset, .unset, .unset, .unset]) rfl (pc' := 6) rfl ?_
  refine g_iload C d_jdk_2529_method_4_6 rfl (pc' := 8) rfl ?_
  refine g_iload_n C d_jdk_2529_method_4_8 rfl (pc' := 9) rfl ?_
  refine g_isub C d_jdk_2529_method_4_9 (pc' := 10) rfl ?_
  refine g_norm (cells' := 0) (slots' := 0) (st' := [(.int (1 : Int32))]) (Nat.le_refl _) (Nat.le_refl _) (congrArg (fun z : Int32 => (Value.int z :: [] : List Value)) (by first | decide | exact Nat.le_of_ble_eq_true rfl)) ?_
  refine g_istore C d_jdk_2529_method_4_10 (Ls' := #[.val .null, .val (.ref a), .val (.int (7 : Int32)), .val (.int (65 : Int32)), .val (.int (66 : Int32)), .val (.int (65 : Int32)), .val (.int (1 : Int32)), .unset, .unset, .unset, .unset, .unset, .unset, .unset, .unset, .unset, .unset, .unset, .unset, .unset, .unset]) rfl (pc' := 12) rfl ?_
  refine g_iload C d_jdk_2529_method_4_12 rfl (pc' := 14) rfl ?_
  refine g_bipush C d_jdk_2529_method_4_14 (x := (65 : Int32)) rfl (pc' := 16) rfl ?_
  refine g_iload_n C d_jdk_2529_method_4_16 rfl (pc' := 17) rfl ?_
  refine g_iadd C d_jdk_2529_method_4_17 (pc' := 18) rfl ?_
  refine g_norm (cells' := 0) (slots' := 0) (st' := [(.int (72 : Int32)), (.int (1 : Int32))]) (Nat.le_refl _) (Nat.le_refl _) (congrArg (fun z : Int32 => (Value.int z :: [(.int (1 : Int32))] : List Value)) (by first | decide | exact Nat.le_of_ble_eq_true rfl)) ?_
  refine g_if_icmpge C d_jdk_2529_method_4_18 (by decide) (pcT := 46) rfl (pcF := 21) rfl (fun zz_ => absurd (by first | decide | exact Nat.le_of_ble_eq_true rfl) zz_) (fun _ => ?_)
  refine g_iload_n C d_jdk_2529_method_4_21 rfl (pc' := 22) rfl ?_
  refine g_iconst C d_jdk_2529_method_4_22 (x := (1 : Int32)) rfl (pc' := 23) rfl ?_
  refine g_iand C d_jdk_2529_method_4_23 (pc' := 24) rfl ?_
  refine g_norm (cells' := 0) (slots' := 0) (st' := [(.int (1 : Int32))]) (Nat.le_refl _) (Nat.le_refl _) (congrArg (fun z : Int32 => (Value.int z :: [] : List Value)) (by first | decide | exact Nat.le_of_ble_eq_true rfl)) ?_
  refine g_ifle C d_jdk_2529_method_4_24 (by decide) (pcT := 46) rfl (pcF := 27) rfl (fun zz_ => absurd (by first | decide | exact Nat.le_of_ble_eq_true rfl) zz_) (fun _ => ?_)
  refine g_aload_n C d_jdk_2529_method_4_27 rfl rfl (pc' := 28) rfl ?_
  refine g_iload_n C d_jdk_2529_method_4_28 rfl (pc' := 29) rfl ?_
  refine g_iload C d_jdk_2529_method_4_29 rfl (pc' := 31) rfl ?_
  refine g_iconst C d_jdk_2529_method_4_31 (x := (3 : Int32)) rfl (pc' := 32) rfl ?_
  refine g_iload C d_jdk_2529_method_4_32 rfl (pc' := 34) rfl ?_
  refine g_iconst C d_jdk_2529_method_4_34 (x := (5 : Int32)) rfl (pc' := 35) rfl ?_
  refine g_ishr C d_jdk_2529_method_4_35 (pc' := 36) rfl ?_
  refine g_norm (cells' := 0) (slots' := 0) (st' := [(.int (0 : Int32)), (.int (3 : Int32)), (.int (66 : Int32)), (.int (65 : Int32)), (.ref a)]) (Nat.le_refl _) (Nat.le_refl _) (congrArg (fun z : Int32 => (Value.int z :: [(.int (3 : Int32)), (.int (66 : Int32)), (.int (65 : Int32)), (.ref a)] : List Value)) (by first | decide | exact Nat.le_of_ble_eq_true rfl)) ?_
  refine g_iconst C d_jdk_2529_method_4_36 (x := (3 : Int32)) rfl (pc' := 37) rfl ?_
  refine g_ishl C d_jdk_2529_method_4_37 (pc' := 38) rfl ?_
  refine g_norm (cells' := 0) (slots' := 0) (st' := [(.int (0 : Int32)), (.int (3 : Int32)), (.int (66 : Int32)), (.int (65 : Int32)), (.ref a)]) (Nat.le_refl _) (Nat.le_refl _) (congrArg (fun z : Int32 => (Value.int z :: [(.int (3 : Int32)), (.int (66 : Int32)), (.int (65 : Int32)), (.ref a)] : List Value)) (by first | decide | exact Nat.le_of_ble_eq_true rfl)) ?_
  refine g_imul C d_jdk_2529_method_4_38 (pc' := 39) rfl ?_
  refine g_norm (cells' := 0) (slots' := 0) (st' := [(.int (0 : Int32)), (.int (66 : Int32)), (.int (65 : Int32)), (.ref a)]) (Nat.le_refl _) (Nat.le_refl _) (congrArg (fun z : Int32 => (Value.int z :: [(.int (66 : Int32)), (.int (65 : Int32)), (.ref a)] : List Value)) (by first | decide | exact Nat.le_of_ble_eq_true rfl)) ?_
  refine g_isub C d_jdk_2529_method_4_39 (pc' := 40) rfl ?_
  refine g_norm (cells' := 0) (slots' := 0) (st' := [(.int (66 : Int32)), (.int (65 : Int32)), (.ref a)]) (Nat.le_refl _) (Nat.le_refl _) (congrArg (fun z : Int32 => (Value.int z :: [(.int (65 : Int32)), (.ref a)] : List Value)) (by first | decide | exact Nat.le_of_ble_eq_true rfl)) ?_
  refine g_iload C d_jdk_2529_method_4_40 rfl (pc' := 42) rfl ?_
  refine g_staticC C (W := 0) (argsL := [(.ref a), (.int (65 : Int32)), (.int (66 : Int32)), (.int (66 : Int32))]) (rest := []) (con_mix l Z a0 hw h a (65 : Int32) (by first | decide | exact Nat.le_of_ble_eq_true rfl)) (Wx37 hw) (Wx38 hw) (Wx29 hw) (Wx39 hw) (by first | decide | exact Nat.le_of_ble_eq_true rfl) rfl (lenOf pd3 rfl) rfl (Nat.le_of_eq rfl) d_jdk_2529_method_4_42 (pc' := 45) rfl (by first | decide | exact Nat.le_of_ble_eq_true rfl) (by first | decide | exact Nat.le_of_ble_eq_true rfl) (fun _ q => nomatch q) (by first | decide | exact Nat.le_of_ble_eq_true rfl) (by first | decide | exact Nat.le_of_ble_eq_true rfl) ?_
  rintro _ hh ⟨rfl, eh_⟩ K
  subst hh
  refine g_norm (cells' := 0) (slots' := 0) (st' := []) (by first | decide | exact Nat.le_of_ble_eq_true rfl) (by first | decide | exact Nat.le_of_ble_eq_true rfl) rfl ?_
  exact g_return C d_jdk_2529_method_4_45 (⟨rfl, rfl⟩) (by first | decide | exact Nat.le_of_ble_eq_true rfl) (by first | decide | exact Nat.le_of_ble_eq_true rfl)
set_option maxRecDepth 65536 in
set_option maxHeartbeats 40000000 in
theorem con_r66 (l : Launch) (Z : State) (a0 : Array Value) (hw : ∀ d ∈ tables_1, d.before a0 Z = true)  (h : Heap) (a : Addr) : Con l Z [] (⟨"java/util/DualPivotQuicksort", "sort", "(Ljava/util/DualPivotQuicksort$Sorter;[IIII)V"⟩ : MethodName) jdk_2529_method_4_code 21 (none) ({ frames := 1, cells := 0, slots := 0, locals := 19 } : Room) #[.null, (.ref a), (.int (7 : Int32)), (.int (66 : Int32)), (.int (66 : Int32))] h [] (fun v h' => v = none ∧ h' = h) := by
  refine Con.of (plainFor_of_name pn0) (Ls := #[.val .null, .val (.ref a), .val (.int (7 : Int32)), .val (.int (66 : Int32)), .val (.int (66 : Int32)), .unset, .unset, .unset, .unset, .unset, .unset, .unset, .unset, .unset, .unset, .unset, .unset, .unset, .unset, .unset, .unset]) (fun m => by first | (simp [entryFrame, mkF, argsToLocals, Value.category]; done) | rfl) ?_
  intro p_ e_ s_ m_ bel_ mt_ cd_ C
  refine g_iload C d_jdk_2529_method_4_0 rfl (pc' := 2) rfl ?_
  refine g_iconst C d_jdk_2529_method_4_2 (x := (1 : Int32)) rfl (pc' := 3) rfl ?_
  refine g_isub C d_jdk_2529_method_4_3 (pc' := 4) rfl ?_
  refine g_norm (cells' := 0) (slots' := 0) (st' := [(.int (65 : Int32))]) (Nat.le_refl _) (Nat.le_refl _) (congrArg (fun z : Int32 => (Value.int z :: [] : List Value)) (by first | decide | exact Nat.le_of_ble_eq_true rfl)) ?_
  refine g_istore C d_jdk_2529_method_4_4 (Ls' := #[.val .null, .val (.ref a), .val (.int (7 : Int32)), .val (.int (66 : Int32)), .val (.int (66 : Int32)), .val (.int (65 : Int32)), .unset, .unset, .unset, .unset, .unset, .unset, .unset, .unset, .unset, .unset, .unset, .unset, .unset, .unset, .unset]) rfl (pc' := 6) rfl ?_
  refine g_iload C d_jdk_2529_method_4_6 rfl (pc' := 8) rfl ?_
  refine g_iload_n C d_jdk_2529_method_4_8 rfl (pc' := 9) rfl ?_
  refine g_isub C d_jdk_2529_method_4_9 (pc' := 10) rfl ?_
  refine g_norm (cells' := 0) (slots' := 0) (st' := [(.int (0 : Int32))]) (Nat.le_refl _) (Nat.le_refl _) (congrArg (fun z : Int32 => (Value.int z :: [] : List Value)) (by first | decide | exact Nat.le_of_ble_eq_true rfl)) ?_
  refine g_istore C d_jdk_2529_method_4_10 (Ls' := #[.val .null, .val (.ref a), .val (.int (7 : Int32)), .val (.int (66 : Int32)), .val (.int (66 : Int32)), .val (.int (65 : Int32)), .val (.int (0 : Int32)), .unset, .unset, .unset, .unset, .unset, .unset, .unset, .unset, .unset, .unset, .unset, .unset, .unset, .unset]) rfl (pc' := 12) rfl ?_
  refine g_iload C d_jdk_2529_method_4_12 rfl (pc' := 14) rfl ?_
  refine g_bipush C d_jdk_2529_method_4_14 (x := (65 : Int32)) rfl (pc' := 16) rfl ?_
  refine g_iload_n C d_jdk_2529_method_4_16 rfl (pc' := 17) rfl ?_
  refine g_iadd C d_jdk_2529_method_4_17 (pc' := 18) rfl ?_
  refine g_norm (cells' := 0) (slots' := 0) (st' := [(.int (72 : Int32)), (.int (0 : Int32))]) (Nat.le_refl _) (Nat.le_refl _) (congrArg (fun z : Int32 => (Value.int z :: [(.int (0 : Int32))] : List Value)) (by first | decide | exact Nat.le_of_ble_eq_true rfl)) ?_
  refine g_if_icmpge C d_jdk_2529_method_4_18 (by decide) (pcT := 46) rfl (pcF := 21) rfl (fun zz_ => absurd (by first | decide | exact Nat.le_of_ble_eq_true rfl) zz_) (fun _ => ?_)
  refine g_iload_n C d_jdk_2529_method_4_21 rfl (pc' := 22) rfl ?_
  refine g_iconst C d_jdk_2529_method_4_22 (x := (1 : Int32)) rfl (pc' := 23) rfl ?_
  refine g_iand C d_jdk_2529_method_4_23 (pc' := 24) rfl ?_
  refine g_norm (cells' := 0) (slots' := 0) (st' := [(.int (1 : Int32))]) (Nat.le_refl _) (Nat.le_refl _) (congrArg (fun z : Int32 => (Value.int z :: [] : List Value)) (by first | decide | exact Nat.le_of_ble_eq_true rfl)) ?_
  refine g_ifle C d_jdk_2529_method_4_24 (by decide) (pcT := 46) rfl (pcF := 27) rfl (fun zz_ => absurd (by first | decide | exact Nat.le_of_ble_eq_true rfl) zz_) (fun _ => ?_)
  refine g_aload_n C d_jdk_2529_method_4_27 rfl rfl (pc' := 28) rfl ?_
  refine g_iload_n C d_jdk_2529_method_4_28 rfl (pc' := 29) rfl ?_
  refine g_iload C d_jdk_2529_method_4_29 rfl (pc' := 31) rfl ?_
  refine g_iconst C d_jdk_2529_method_4_31 (x := (3 : Int32)) rfl (pc' := 32) rfl ?_
  refine g_iload C d_jdk_2529_method_4_32 rfl (pc' := 34) rfl ?_
  refine g_iconst C d_jdk_2529_method_4_34 (x := (5 : Int32)) rfl (pc' := 35) rfl ?_
  refine g_ishr C d_jdk_2529_method_4_35 (pc' := 36) rfl ?_
  refine g_norm (cells' := 0) (slots' := 0) (st' := [(.int (0 : Int32)), (.int (3 : Int32)), (.int (66 : Int32)), (.int (66 : Int32)), (.ref a)]) (Nat.le_refl _) (Nat.le_refl _) (congrArg (fun z : Int32 => (Value.int z :: [(.int (3 : Int32)), (.int (66 : Int32)), (.int (66 : Int32)), (.ref a)] : List Value)) (by first | decide | exact Nat.le_of_ble_eq_true rfl)) ?_
  refine g_iconst C d_jdk_2529_method_4_36 (x := (3 : Int32)) rfl (pc' := 37) rfl ?_
  refine g_ishl C d_jdk_2529_method_4_37 (pc' := 38) rfl ?_
  refine g_norm (cells' := 0) (slots' := 0) (st' := [(.int (0 : Int32)), (.int (3 : Int32)), (.int (66 : Int32)), (.int (66 : Int32)), (.ref a)]) (Nat.le_refl _) (Nat.le_refl _) (congrArg (fun z : Int32 => (Value.int z :: [(.int (3 : Int32)), (.int (66 : Int32)), (.int (66 : Int32)), (.ref a)] : List Value)) (by first | decide | exact Nat.le_of_ble_eq_true rfl)) ?_
  refine g_imul C d_jdk_2529_method_4_38 (pc' := 39) rfl ?_
  refine g_norm (cells' := 0) (slots' := 0) (st' := [(.int (0 : Int32)), (.int (66 : Int32)), (.int (66 : Int32)), (.ref a)]) (Nat.le_refl _) (Nat.le_refl _) (congrArg (fun z : Int32 => (Value.int z :: [(.int (66 : Int32)), (.int (66 : Int32)), (.ref a)] : List Value)) (by first | decide | exact Nat.le_of_ble_eq_true rfl)) ?_
  refine g_isub C d_jdk_2529_method_4_39 (pc' := 40) rfl ?_
  refine g_norm (cells' := 0) (slots' := 0) (st' := [(.int (66 : Int32)), (.int (66 : Int32)), (.ref a)]) (Nat.le_refl _) (Nat.le_refl _) (congrArg (fun z : Int32 => (Value.int z :: [(.int (66 : Int32)), (.ref a)] : List Value)) (by first | decide | exact Nat.le_of_ble_eq_true rfl)) ?_
  refine g_iload C d_jdk_2529_method_4_40 rfl (pc' := 42) rfl ?_
  refine g_staticC C (W := 0) (argsL := [(.ref a), (.int (66 : Int32)), (.int (66 : Int32)), (.int (66 : Int32))]) (rest := []) (con_mix l Z a0 hw h a (66 : Int32) (by first | decide | exact Nat.le_of_ble_eq_true rfl)) (Wx37 hw) (Wx38 hw) (Wx29 hw) (Wx39 hw) (by first | decide | exact Nat.le_of_ble_eq_true rfl) rfl (lenOf pd3 rfl) rfl (Nat.le_of_eq rfl) d_jdk_2529_method_4_42 (pc' := 45) rfl (by first | decide | exact Nat.le_of_ble_eq_true rfl) (by first | decide | exact Nat.le_of_ble_eq_true rfl) (fun _ q => nomatch q) (by first | decide | exact Nat.le_of_ble_eq_true rfl) (by first | decide | exact Nat.le_of_ble_eq_true rfl) ?_
  rintro _ hh ⟨rfl, eh_⟩ K
  subst hh
  refine g_norm (cells' := 0) (slots' := 0) (st' := []) (by first | decide | exact Nat.le_of_ble_eq_true rfl) (by first | decide | exact Nat.le_of_ble_eq_true rfl) rfl ?_
  exact g_return C d_jdk_2529_method_4_45 (⟨rfl, rfl⟩) (by first | decide | exact Nat.le_of_ble_eq_true rfl) (by first | decide | exact Nat.le_of_ble_eq_true rfl)
set_option maxRecDepth 65536 in
set_option maxHeartbeats 40000000 in
theorem con_d5 (l : Launch) (Z : State) (a0 : Array Value) (hw : ∀ d ∈ tables_1, d.before a0 Z = true)  (h : Heap) (a : Addr) (p : Nat) (hp : p < 66) (y : Int32) (A : Af Z h a .int 66 (one p y)) : Con l Z [a] (⟨"java/util/DualPivotQuicksort", "sort", "(Ljava/util/DualPivotQuicksort$Sorter;[IIII)V"⟩ : MethodName) jdk_2529_method_4_code 21 (none) ({ frames := 2, cells := 1, slots := 127, locals := 51 } : Room) #[.null, (.ref a), (.int (0 : Int32)), (.int (0 : Int32)), (.int (66 : Int32))] h [] (fun v h' => v = none ∧ Af Z h' a .int 66 (one (tgt y) y)) := by
  refine Con.of (plainFor_of_name pn0) (Ls := #[.val .null, .val (.ref a), .val (.int (0 : Int32)), .val (.int (0 : Int32)), .val (.int (66 : Int32)), .unset, .unset, .unset, .unset, .unset, .unset, .unset, .unset, .unset, .unset, .unset, .unset, .unset, .unset, .unset, .unset]) (fun m => by first | (simp [entryFrame, mkF, argsToLocals, Value.category]; done) | rfl) ?_
  intro p_ e_ s_ m_ bel_ mt_ cd_ C
  refine g_iload C d_jdk_2529_method_4_0 rfl (pc' := 2) rfl ?_
  refine g_iconst C d_jdk_2529_method_4_2 (x := (1 : Int32)) rfl (pc' := 3) rfl ?_
  refine g_isub C d_jdk_2529_method_4_3 (pc' := 4) rfl ?_
  refine g_norm (cells' := 0) (slots' := 0) (st' := [(.int (65 : Int32))]) (Nat.le_refl _) (Nat.le_refl _) (congrArg (fun z : Int32 => (Value.int z :: [] : List Value)) (by first | decide | exact Nat.le_of_ble_eq_true rfl)) ?_
  refine g_istore C d_jdk_2529_method_4_4 (Ls' := #[.val .null, .val (.ref a), .val (.int (0 : Int32)), .val (.int (0 : Int32)), .val (.int (66 : Int32)), .val (.int (65 : Int32)), .unset, .unset, .unset, .unset, .unset, .unset, .unset, .unset, .unset, .unset, .unset, .unset, .unset, .unset, .unset]) rfl (pc' := 6) rfl ?_
  refine g_iload C d_jdk_2529_method_4_6 rfl (pc' := 8) rfl ?_
  refine g_iload_n C d_jdk_2529_method_4_8 rfl (pc' := 9) rfl ?_
  refine g_isub C d_jdk_2529_method_4_9 (pc' := 10) rfl ?_
  refine g_norm (cells' := 0) (slots' := 0) (st' := [(.int (66 : Int32))]) (Nat.le_refl _) (Nat.le_refl _) (congrArg (fun z : Int32 => (Value.int z :: [] : List Value)) (by first | decide | exact Nat.le_of_ble_eq_true rfl)) ?_
  refine g_istore C d_jdk_2529_method_4_10 (Ls' := #[.val .null, .val (.ref a), .val (.int (0 : Int32)), .val (.int (0 : Int32)), .val (.int (66 : Int32)), .val (.int (65 : Int32)), .val (.int (66 : Int32)), .unset, .unset, .unset, .unset, .unset, .unset, .unset, .unset, .unset, .unset, .unset, .unset, .unset, .unset]) rfl (pc' := 12) rfl ?_
  refine g_iload C d_jdk_2529_method_4_12 rfl (pc' := 14) rfl ?_
  refine g_bipush C d_jdk_2529_method_4_14 (x := (65 : Int32)) rfl (pc' := 16) rfl ?_
  refine g_iload_n C d_jdk_2529_method_4_16 rfl (pc' := 17) rfl ?_
  refine g_iadd C d_jdk_2529_method_4_17 (pc' := 18) rfl ?_
  refine g_norm (cells' := 0) (slots' := 0) (st' := [(.int (65 : Int32)), (.int (66 : Int32))]) (Nat.le_refl _) (Nat.le_refl _) (congrArg (fun z : Int32 => (Value.int z :: [(.int (66 : Int32))] : List Value)) (by first | decide | exact Nat.le_of_ble_eq_true rfl)) ?_
  refine g_if_icmpge C d_jdk_2529_method_4_18 (by decide) (pcT := 46) rfl (pcF := 21) rfl (fun _ => ?_) (fun zz_ => absurd zz_ (by first | decide | exact Nat.le_of_ble_eq_true rfl))
  refine g_iload C d_jdk_2529_method_4_46 rfl (pc' := 48) rfl ?_
  refine g_bipush C d_jdk_2529_method_4_48 (x := (44 : Int32)) rfl (pc' := 50) rfl ?_
  refine g_if_icmpge C d_jdk_2529_method_4_50 (by decide) (pcT := 61) rfl (pcF := 53) rfl (fun _ => ?_) (fun zz_ => absurd zz_ (by first | decide | exact Nat.le_of_ble_eq_true rfl))
  refine g_iload_n C d_jdk_2529_method_4_61 rfl (pc' := 62) rfl ?_
  refine g_ifeq C d_jdk_2529_method_4_62 (by decide) (pcT := 79) rfl (pcF := 65) rfl (fun _ => ?_) (fun zz_ => absurd (rfl) zz_)
  refine g_aload_n C d_jdk_2529_method_4_79 rfl rfl (pc' := 80) rfl ?_
  refine g_aload_n C d_jdk_2529_method_4_80 rfl rfl (pc' := 81) rfl ?_
  refine g_iload_n C d_jdk_2529_method_4_81 rfl (pc' := 82) rfl ?_
  refine g_iload C d_jdk_2529_method_4_82 rfl (pc' := 84) rfl ?_
  refine g_staticC C (W := 0) (argsL := [.null, (.ref a), (.int (0 : Int32)), (.int (66 : Int32))]) (rest := []) (con_try l Z a0 hw h a p hp y A) (Wx34 hw) (Wx35 hw) (Wx29 hw) (Wx36 hw) (by first | decide | exact Nat.le_of_ble_eq_true rfl) rfl (lenOf pd4 rfl) rfl (Nat.le_of_eq rfl) d_jdk_2529_method_4_84 (pc' := 87) rfl (by first | decide | exact Nat.le_of_ble_eq_true rfl) (by first | decide | exact Nat.le_of_ble_eq_true rfl) (fun _ q => Or.inl q) (by first | decide | exact Nat.le_of_ble_eq_true rfl) (by first | decide | exact Nat.le_of_ble_eq_true rfl) ?_
  rintro _ h1 ⟨r, rfl, hr⟩ K1
  refine g_norm (cells' := 1) (slots' := 127) (st' := [(.int r)]) (by first | decide | exact Nat.le_of_ble_eq_true rfl) (by first | decide | exact Nat.le_of_ble_eq_true rfl) rfl ?_
  rcases hr with ⟨rfl, A1⟩ | ⟨rfl, ⟨hy, hp1, hp2, A1⟩ | ⟨hy, A1⟩⟩
  · refine g_ifeq C d_jdk_2529_method_4_87 (by decide) (pcT := 91) rfl (pcF := 90) rfl (fun zz_ => absurd zz_ (by first | decide | exact Nat.le_of_ble_eq_true rfl)) (fun _ => ?_)
    exact g_return C d_jdk_2529_method_4_90 (⟨rfl, A1⟩) (by first | decide | exact Nat.le_of_ble_eq_true rfl) (by first | decide | exact Nat.le_of_ble_eq_true rfl)
  · obtain ⟨ny, ny0⟩ := pos_nn hy
    refine g_ifeq C d_jdk_2529_method_4_87 (by decide) (pcT := 91) rfl (pcF := 90) rfl (fun _ => ?_) (fun zz_ => absurd (rfl) zz_)
    refine g_iinc C d_jdk_2529_method_4_91 rfl (y := (6 : Int32)) (by first | decide | exact Nat.le_of_ble_eq_true rfl) (Ls' := #[.val .null, .val (.ref a), .val (.int (6 : Int32)), .val (.int (0 : Int32)), .val (.int (66 : Int32)), .val (.int (65 : Int32)), .val (.int (66 : Int32)), .unset, .unset, .unset, .unset, .unset, .unset, .unset, .unset, .unset, .unset, .unset, .unset, .unset, .unset]) rfl (pc' := 94) rfl ?_
    refine g_iload_n C d_jdk_2529_method_4_94 rfl (pc' := 95) rfl ?_
    refine g_sipush C d_jdk_2529_method_4_95 (x := (384 : Int32)) rfl (pc' := 98) rfl ?_
    refine g_if_icmple C d_jdk_2529_method_4_98 (by decide) (pcT := 109) rfl (pcF := 101) rfl (fun _ => ?_) (fun zz_ => absurd zz_ (by first | decide | exact Nat.le_of_ble_eq_true rfl))
    refine g_iload C d_jdk_2529_method_4_109 rfl (pc' := 111) rfl ?_
    refine g_iconst C d_jdk_2529_method_4_111 (x := (3 : Int32)) rfl (pc' := 112) rfl ?_
    refine g_ishr C d_jdk_2529_method_4_112 (pc' := 113) rfl ?_
    refine g_norm (cells' := 1) (slots' := 127) (st' := [(.int (8 : Int32))]) (Nat.le_refl _) (Nat.le_refl _) (congrArg (fun z : Int32 => (Value.int z :: [] : List Value)) (by first | decide | exact Nat.le_of_ble_eq_true rfl)) ?_
    refine g_iconst C d_jdk_2529_method_4_113 (x := (3 : Int32)) rfl (pc' := 114) rfl ?_
    refine g_imul C d_jdk_2529_method_4_114 (pc' := 115) rfl ?_
    refine g_norm (cells' := 1) (slots' := 127) (st' := [(.int (24 : Int32))]) (Nat.le_refl _) (Nat.le_refl _) (congrArg (fun z : Int32 => (Value.int z :: [] : List Value)) (by first | decide | exact Nat.le_of_ble_eq_true rfl)) ?_
    refine g_iconst C d_jdk_2529_method_4_115 (x := (3 : Int32)) rfl (pc' := 116) rfl ?_
    refine g_iadd C d_jdk_2529_method_4_116 (pc' := 117) rfl ?_
    refine g_norm (cells' := 1) (slots' := 127) (st' := [(.int (27 : Int32))]) (Nat.le_refl _) (Nat.le_refl _) (congrArg (fun z : Int32 => (Value.int z :: [] : List Value)) (by first | decide | exact Nat.le_of_ble_eq_true rfl)) ?_
    refine g_istore C d_jdk_2529_method_4_117 (Ls' := #[.val .null, .val (.ref a), .val (.int (6 : Int32)), .val (.int (0 : Int32)), .val (.int (66 : Int32)), .val (.int (65 : Int32)), .val (.int (66 : Int32)), .val (.int (27 : Int32)), .unset, .unset, .unset, .unset, .unset, .unset, .unset, .unset, .unset, .unset, .unset, .unset, .unset]) rfl (pc' := 119) rfl ?_
    refine g_iload_n C d_jdk_2529_method_4_119 rfl (pc' := 120) rfl ?_
    refine g_iload C d_jdk_2529_method_4_120 rfl (pc' := 122) rfl ?_
    refine g_iadd C d_jdk_2529_method_4_122 (pc' := 123) rfl ?_
    refine g_norm (cells' := 1) (slots' := 127) (st' := [(.int (27 : Int32))]) (Nat.le_refl _) (Nat.le_refl _) (congrArg (fun z : Int32 => (Value.int z :: [] : List Value)) (by first | decide | exact Nat.le_of_ble_eq_true rfl)) ?_
    refine g_istore C d_jdk_2529_method_4_123 (Ls' := #[.val .null, .val (.ref a), .val (.int (6 : Int32)), .val (.int (0 : Int32)), .val (.int (66 : Int32)), .val (.int (65 : Int32)), .val (.int (66 : Int32)), .val (.int (27 : Int32)), .val (.int (27 : Int32)), .unset, .unset, .unset, .unset, .unset, .unset, .unset, .unset, .unset, .unset, .unset, .unset]) rfl (pc' := 125) rfl ?_
    refine g_iload C d_jdk_2529_method_4_125 rfl (pc' := 127) rfl ?_
    refine g_iload C d_jdk_2529_method_4_127 rfl (pc' := 129) rfl ?_
    refine g_isub C d_jdk_2529_method_4_129 (pc' := 130) rfl ?_
    refine g_norm (cells' := 1) (slots' := 127) (st' := [(.int (38 : Int32))]) (Nat.le_refl _) (Nat.le_refl _) (congrArg (fun z : Int32 => (Value.int z :: [] : List Value)) (by first | decide | exact Nat.le_of_ble_eq_true rfl)) ?_
    refine g_istore C d_jdk_2529_method_4_130 (Ls' := #[.val .null, .val (.ref a), .val (.int (6 : Int32)), .val (.int (0 : Int32)), .val (.int (66 : Int32)), .val (.int (65 : Int32)), .val (.int (66 : Int32)), .val (.int (27 : Int32)), .val (.int (27 : Int32)), .val (.int (38 : Int32)), .unset, .unset, .unset, .unset, .unset, .unset, .unset, .unset, .unset, .unset, .unset]) rfl (pc' := 132) rfl ?_
    refine g_iload C d_jdk_2529_method_4_132 rfl (pc' := 134) rfl ?_
    refine g_iload C d_jdk_2529_method_4_134 rfl (pc' := 136) rfl ?_
    refine g_iadd C d_jdk_2529_method_4_136 (pc' := 137) rfl ?_
    refine g_norm (cells' := 1) (slots' := 127) (st' := [(.int (65 : Int32))]) (Nat.le_refl _) (Nat.le_refl _) (congrArg (fun z : Int32 => (Value.int z :: [] : List Value)) (by first | decide | exact Nat.le_of_ble_eq_true rfl)) ?_
    refine g_iconst C d_jdk_2529_method_4_137 (x := (1 : Int32)) rfl (pc' := 138) rfl ?_
    refine g_iushr C d_jdk_2529_method_4_138 (pc' := 139) rfl ?_
    refine g_norm (cells' := 1) (slots' := 127) (st' := [(.int (32 : Int32))]) (Nat.le_refl _) (Nat.le_refl _) (congrArg (fun z : Int32 => (Value.int z :: [] : List Value)) (by first | decide | exact Nat.le_of_ble_eq_true rfl)) ?_
    refine g_istore C d_jdk_2529_method_4_139 (Ls' := #[.val .null, .val (.ref a), .val (.int (6 : Int32)), .val (.int (0 : Int32)), .val (.int (66 : Int32)), .val (.int (65 : Int32)), .val (.int (66 : Int32)), .val (.int (27 : Int32)), .val (.int (27 : Int32)), .val (.int (38 : Int32)), .val (.int (32 : Int32)), .unset, .unset, .unset, .unset, .unset, .unset, .unset, .unset, .unset, .unset]) rfl (pc' := 141) rfl ?_
    refine g_iload C d_jdk_2529_method_4_141 rfl (pc' := 143) rfl ?_
    refine g_iload C d_jdk_2529_method_4_143 rfl (pc' := 145) rfl ?_
    refine g_iadd C d_jdk_2529_method_4_145 (pc' := 146) rfl ?_
    refine g_norm (cells' := 1) (slots' := 127) (st' := [(.int (59 : Int32))]) (Nat.le_refl _) (Nat.le_refl _) (congrArg (fun z : Int32 => (Value.int z :: [] : List Value)) (by first | decide | exact Nat.le_of_ble_eq_true rfl)) ?_
    refine g_iconst C d_jdk_2529_method_4_146 (x := (1 : Int32)) rfl (pc' := 147) rfl ?_
    refine g_iushr C d_jdk_2529_method_4_147 (pc' := 148) rfl ?_
    refine g_norm (cells' := 1) (slots' := 127) (st' := [(.int (29 : Int32))]) (Nat.le_refl _) (Nat.le_refl _) (congrArg (fun z : Int32 => (Value.int z :: [] : List Value)) (by first | decide | exact Nat.le_of_ble_eq_true rfl)) ?_
    refine g_istore C d_jdk_2529_method_4_148 (Ls' := #[.val .null, .val (.ref a), .val (.int (6 : Int32)), .val (.int (0 : Int32)), .val (.int (66 : Int32)), .val (.int (65 : Int32)), .val (.int (66 : Int32)), .val (.int (27 : Int32)), .val (.int (27 : Int32)), .val (.int (38 : Int32)), .val (.int (32 : Int32)), .val (.int (29 : Int32)), .unset, .unset, .unset, .unset, .unset, .unset, .unset, .unset, .unset]) rfl (pc' := 150) rfl ?_
    refine g_iload C d_jdk_2529_method_4_150 rfl (pc' := 152) rfl ?_
    refine g_iload C d_jdk_2529_method_4_152 rfl (pc' := 154) rfl ?_
    refine g_iadd C d_jdk_2529_method_4_154 (pc' := 155) rfl ?_
    refine g_norm (cells' := 1) (slots' := 127) (st' := [(.int (70 : Int32))]) (Nat.le_refl _) (Nat.le_refl _) (congrArg (fun z : Int32 => (Value.int z :: [] : List Value)) (by first | decide | exact Nat.le_of_ble_eq_true rfl)) ?_
    refine g_iconst C d_jdk_2529_method_4_155 (x := (1 : Int32)) rfl (pc' := 156) rfl ?_
    refine g_iushr C d_jdk_2529_method_4_156 (pc' := 157) rfl ?_
    refine g_norm (cells' := 1) (slots' := 127) (st' := [(.int (35 : Int32))]) (Nat.le_refl _) (Nat.le_refl _) (congrArg (fun z : Int32 => (Value.int z :: [] : List Value)) (by first | decide | exact Nat.le_of_ble_eq_true rfl)) ?_
    refine g_istore C d_jdk_2529_method_4_157 (Ls' := #[.val .null, .val (.ref a), .val (.int (6 : Int32)), .val (.int (0 : Int32)), .val (.int (66 : Int32)), .val (.int (65 : Int32)), .val (.int (66 : Int32)), .val (.int (27 : Int32)), .val (.int (27 : Int32)), .val (.int (38 : Int32)), .val (.int (32 : Int32)), .val (.int (29 : Int32)), .val (.int (35 : Int32)), .unset, .unset, .unset, .unset, .unset, .unset, .unset, .unset]) rfl (pc' := 159) rfl ?_
    refine g_aload_n C d_jdk_2529_method_4_159 rfl rfl (pc' := 160) rfl ?_
    refine g_iload C d_jdk_2529_method_4_160 rfl (pc' := 162) rfl ?_
    have H437 : ∀ (o13 o14 : Slot) (q : Nat) (hq : Heap), One o14 → 1 ≤ q → q ≤ 64 → ¬ q = 27 → ¬ q = 29 → ¬ q = 32 → ¬ q = 35 → Af Z hq a .int 66 (one q y) → G p_ l e_ ({ frames := 2, cells := 1, slots := 127, locals := 51 } : Room) s_ m_ #[.null, (.ref a), (.int (0 : Int32)), (.int (0 : Int32)), (.int (66 : Int32))] bel_ mt_ cd_ [a] (EndA s_ [a] (fun v h' => v = none ∧ Af Z h' a .int 66 (one (tgt y) y)) ({ frames := 2, cells := 1, slots := 127, locals := 51 } : Room).cells ({ frames := 2, cells := 1, slots := 127, locals := 51 } : Room).slots) hq 1 127 437 #[.val .null, .val (.ref a), .val (.int (6 : Int32)), .val (.int (0 : Int32)), .val (.int (66 : Int32)), .val (.int (65 : Int32)), .val (.int (66 : Int32)), .val (.int (27 : Int32)), .val (.int (27 : Int32)), .val (.int (38 : Int32)), .val (.int (32 : Int32)), .val (.int (29 : Int32)), .val (.int (35 : Int32)), o13, o14, .unset, .unset, .unset, .unset, .unset, .unset] [] := by
      intro o13 o14 q hq ho14 g1 g2 g3 g4 g5 g6 Aq
      refine g_iload_n C d_jdk_2529_method_4_437 rfl (pc' := 438) rfl ?_
      refine g_istore C d_jdk_2529_method_4_438 (Ls' := #[.val .null, .val (.ref a), .val (.int (6 : Int32)), .val (.int (0 : Int32)), .val (.int (66 : Int32)), .val (.int (65 : Int32)), .val (.int (66 : Int32)), .val (.int (27 : Int32)), .val (.int (27 : Int32)), .val (.int (38 : Int32)), .val (.int (32 : Int32)), .val (.int (29 : Int32)), .val (.int (35 : Int32)), o13, .val (.int (0 : Int32)), .unset, .unset, .unset, .unset, .unset, .unset]) (by rw [XS.store1 (o := o14) rfl ho14 rfl]; rfl) (pc' := 440) rfl ?_
      refine g_iload C d_jdk_2529_method_4_440 rfl (pc' := 442) rfl ?_
      refine g_istore C d_jdk_2529_method_4_442 (Ls' := #[.val .null, .val (.ref a), .val (.int (6 : Int32)), .val (.int (0 : Int32)), .val (.int (66 : Int32)), .val (.int (65 : Int32)), .val (.int (66 : Int32)), .val (.int (27 : Int32)), .val (.int (27 : Int32)), .val (.int (38 : Int32)), .val (.int (32 : Int32)), .val (.int (29 : Int32)), .val (.int (35 : Int32)), o13, .val (.int (0 : Int32)), .val (.int (65 : Int32)), .unset, .unset, .unset, .unset, .unset]) rfl (pc' := 444) rfl ?_
      refine g_aload_n C d_jdk_2529_method_4_444 rfl rfl (pc' := 445) rfl ?_
      refine g_iload C d_jdk_2529_method_4_445 rfl (pc' := 447) rfl ?_
      refine g_iaload C (Aq) (by first | decide | exact Nat.le_of_ble_eq_true rfl) (i := 27) rfl (by first | decide | exact Nat.le_of_ble_eq_true rfl) (v := (.int (0 : Int32))) (one_ne (by omega)) d_jdk_2529_method_4_447 (pc' := 448) rfl ?_
      refine g_aload_n C d_jdk_2529_method_4_448 rfl rfl (pc' := 449) rfl ?_
      refine g_iload C d_jdk_2529_method_4_449 rfl (pc' := 451) rfl ?_
      refine g_iaload C (Aq) (by first | decide | exact Nat.le_of_ble_eq_true rfl) (i := 29) rfl (by first | decide | exact Nat.le_of_ble_eq_true rfl) (v := (.int (0 : Int32))) (one_ne (by omega)) d_jdk_2529_method_4_451 (pc' := 452) rfl ?_
      refine g_if_icmpge C d_jdk_2529_method_4_452 (by decide) (pcT := 776) rfl (pcF := 455) rfl (fun _ => ?_) (fun zz_ => absurd zz_ (by first | decide | exact Nat.le_of_ble_eq_true rfl))
      refine g_aload_n C d_jdk_2529_method_4_776 rfl rfl (pc' := 777) rfl ?_
      refine g_iload C d_jdk_2529_method_4_777 rfl (pc' := 779) rfl ?_
      refine g_iaload C (Aq) (by first | decide | exact Nat.le_of_ble_eq_true rfl) (i := 32) rfl (by first | decide | exact Nat.le_of_ble_eq_true rfl) (v := (.int (0 : Int32))) (one_ne (by omega)) d_jdk_2529_method_4_779 (pc' := 780) rfl ?_
      refine g_istore C d_jdk_2529_method_4_780 (Ls' := #[.val .null, .val (.ref a), .val (.int (6 : Int32)), .val (.int (0 : Int32)), .val (.int (66 : Int32)), .val (.int (65 : Int32)), .val (.int (66 : Int32)), .val (.int (27 : Int32)), .val (.int (27 : Int32)), .val (.int (38 : Int32)), .val (.int (32 : Int32)), .val (.int (29 : Int32)), .val (.int (35 : Int32)), o13, .val (.int (0 : Int32)), .val (.int (65 : Int32)), .val (.int (0 : Int32)), .unset, .unset, .unset, .unset]) rfl (pc' := 782) rfl ?_
      refine g_aload_n C d_jdk_2529_method_4_782 rfl rfl (pc' := 783) rfl ?_
      refine g_iload C d_jdk_2529_method_4_783 rfl (pc' := 785) rfl ?_
      refine g_aload_n C d_jdk_2529_method_4_785 rfl rfl (pc' := 786) rfl ?_
      refine g_iload C d_jdk_2529_method_4_786 rfl (pc' := 788) rfl ?_
      refine g_iaload C (Aq) (by first | decide | exact Nat.le_of_ble_eq_true rfl) (i := 0) rfl (by first | decide | exact Nat.le_of_ble_eq_true rfl) (v := (.int (0 : Int32))) (one_ne (by omega)) d_jdk_2529_method_4_788 (pc' := 789) rfl ?_
      refine g_iastore C (Aq) (by first | decide | exact Nat.le_of_ble_eq_true rfl) (i := 32) rfl (by first | decide | exact Nat.le_of_ble_eq_true rfl) (Or.inl (List.mem_cons_self ..)) d_jdk_2529_method_4_789 (pc' := 790) rfl ?_
      intro k1 V1 B1
      have C1 : Af Z k1 a .int 66 (one q y) := B1.to fun t ht => by
        by_cases z : t = 32
        · rw [z, upd_same, one_ne (by omega)]
        · rw [upd_other z]
      refine g_iinc C d_jdk_2529_method_4_790 rfl (y := (66 : Int32)) (by first | decide | exact Nat.le_of_ble_eq_true rfl) (Ls' := #[.val .null, .val (.ref a), .val (.int (6 : Int32)), .val (.int (0 : Int32)), .val (.int (66 : Int32)), .val (.int (65 : Int32)), .val (.int (66 : Int32)), .val (.int (27 : Int32)), .val (.int (27 : Int32)), .val (.int (38 : Int32)), .val (.int (32 : Int32)), .val (.int (29 : Int32)), .val (.int (35 : Int32)), o13, .val (.int (0 : Int32)), .val (.int (66 : Int32)), .val (.int (0 : Int32)), .unset, .unset, .unset, .unset]) rfl (pc' := 793) rfl ?_
      refine g_iload C d_jdk_2529_method_4_793 rfl (pc' := 795) rfl ?_
      refine g_istore C d_jdk_2529_method_4_795 (Ls' := #[.val .null, .val (.ref a), .val (.int (6 : Int32)), .val (.int (0 : Int32)), .val (.int (66 : Int32)), .val (.int (65 : Int32)), .val (.int (66 : Int32)), .val (.int (27 : Int32)), .val (.int (27 : Int32)), .val (.int (38 : Int32)), .val (.int (32 : Int32)), .val (.int (29 : Int32)), .val (.int (35 : Int32)), o13, .val (.int (0 : Int32)), .val (.int (66 : Int32)), .val (.int (0 : Int32)), .val (.int (66 : Int32)), .unset, .unset, .unset]) rfl (pc' := 797) rfl ?_
      refine g_loop (α := Nat × Slot) (fun x => q + 1 ≤ x.1 ∧ x.1 ≤ 66 ∧ One x.2) (fun x => x.1) (fun x => #[.val .null, .val (.ref a), .val (.int (6 : Int32)), .val (.int (0 : Int32)), .val (.int (66 : Int32)), .val (.int (65 : Int32)), .val (.int (66 : Int32)), .val (.int (27 : Int32)), .val (.int (27 : Int32)), .val (.int (38 : Int32)), .val (.int (32 : Int32)), .val (.int (29 : Int32)), .val (.int (35 : Int32)), o13, .val (.int (0 : Int32)), .val (.int (66 : Int32)), .val (.int (0 : Int32)), .val (.int (Int32.ofNat x.1)), x.2, .unset, .unset]) (66, .unset) ⟨show q + 1 ≤ 66 by omega, show 66 ≤ 66 by omega, (by first | exact One.u | exact One.val rfl | assumption)⟩ rfl ?_
      rintro ⟨k, o18⟩ ⟨hk1, hk2, ho18⟩ IH
      dsimp only at hk1 hk2 ho18 IH ⊢
      refine g_iinc C d_jdk_2529_method_4_797 rfl (y := (Int32.ofNat (k - 1))) (dec_n (by omega)) (Ls' := #[.val .null, .val (.ref a), .val (.int (6 : Int32)), .val (.int (0 : Int32)), .val (.int (66 : Int32)), .val (.int (65 : Int32)), .val (.int (66 : Int32)), .val (.int (27 : Int32)), .val (.int (27 : Int32)), .val (.int (38 : Int32)), .val (.int (32 : Int32)), .val (.int (29 : Int32)), .val (.int (35 : Int32)), o13, .val (.int (0 : Int32)), .val (.int (66 : Int32)), .val (.int (0 : Int32)), .val (.int (Int32.ofNat (k - 1))), o18, .unset, .unset]) rfl (pc' := 800) rfl ?_
      rcases Nat.lt_or_ge (q) (k - 1) with hc | hc
      · refine g_iload C d_jdk_2529_method_4_800 rfl (pc' := 802) rfl ?_
        refine g_iload C d_jdk_2529_method_4_802 rfl (pc' := 804) rfl ?_
        refine g_if_icmple C d_jdk_2529_method_4_804 (by decide) (pcT := 889) rfl (pcF := 807) rfl (fun zz_ => absurd (by rw [show (0 : Int32) = Int32.ofNat 0 from rfl]; exact (lt_n (by omega) (by omega)).2 (by omega)) zz_) (fun _ => ?_)
        refine g_aload_n C d_jdk_2529_method_4_807 rfl rfl (pc' := 808) rfl ?_
        refine g_iload C d_jdk_2529_method_4_808 rfl (pc' := 810) rfl ?_
        refine g_iaload C (C1) (i32_nn (by omega)) (i := (k - 1)) (i32_clamp (by omega)) (by omega) (v := (.int (0 : Int32))) (one_ne (by omega)) d_jdk_2529_method_4_810 (pc' := 811) rfl ?_
        refine g_istore C d_jdk_2529_method_4_811 (Ls' := #[.val .null, .val (.ref a), .val (.int (6 : Int32)), .val (.int (0 : Int32)), .val (.int (66 : Int32)), .val (.int (65 : Int32)), .val (.int (66 : Int32)), .val (.int (27 : Int32)), .val (.int (27 : Int32)), .val (.int (38 : Int32)), .val (.int (32 : Int32)), .val (.int (29 : Int32)), .val (.int (35 : Int32)), o13, .val (.int (0 : Int32)), .val (.int (66 : Int32)), .val (.int (0 : Int32)), .val (.int (Int32.ofNat (k - 1))), .val (.int (0 : Int32)), .unset, .unset]) (by rw [XS.store1 (o := o18) rfl ho18 rfl]; rfl) (pc' := 813) rfl ?_
        refine g_iload C d_jdk_2529_method_4_813 rfl (pc' := 815) rfl ?_
        refine g_iload C d_jdk_2529_method_4_815 rfl (pc' := 817) rfl ?_
        refine g_if_icmpeq C d_jdk_2529_method_4_817 (by decide) (pcT := 886) rfl (pcF := 820) rfl (fun _ => ?_) (fun zz_ => absurd (rfl) zz_)
        refine g_goto C d_jdk_2529_method_4_886 (by decide) (pc' := 797) rfl ?_
        exact IH (k - 1, .val (.int 0)) ⟨by omega, by omega, One.val rfl⟩ (by dsimp only; omega)
      · obtain hkT : k - 1 = q := by omega
        rw [hkT]
        refine g_iload C d_jdk_2529_method_4_800 rfl (pc' := 802) rfl ?_
        refine g_iload C d_jdk_2529_method_4_802 rfl (pc' := 804) rfl ?_
        refine g_if_icmple C d_jdk_2529_method_4_804 (by decide) (pcT := 889) rfl (pcF := 807) rfl (fun zz_ => absurd (by rw [show (0 : Int32) = Int32.ofNat 0 from rfl]; exact (lt_n (by omega) (by omega)).2 (by omega)) zz_) (fun _ => ?_)
        refine g_aload_n C d_jdk_2529_method_4_807 rfl rfl (pc' := 808) rfl ?_
        refine g_iload C d_jdk_2529_method_4_808 rfl (pc' := 810) rfl ?_
        refine g_iaload C (C1) (i32_nn (by omega)) (i := q) (i32_clamp (by omega)) (by omega) (v := (.int y)) (one_eq rfl) d_jdk_2529_method_4_810 (pc' := 811) rfl ?_
        refine g_istore C d_jdk_2529_method_4_811 (Ls' := #[.val .null, .val (.ref a), .val (.int (6 : Int32)), .val (.int (0 : Int32)), .val (.int (66 : Int32)), .val (.int (65 : Int32)), .val (.int (66 : Int32)), .val (.int (27 : Int32)), .val (.int (27 : Int32)), .val (.int (38 : Int32)), .val (.int (32 : Int32)), .val (.int (29 : Int32)), .val (.int (35 : Int32)), o13, .val (.int (0 : Int32)), .val (.int (66 : Int32)), .val (.int (0 : Int32)), .val (.int (Int32.ofNat q)), .val (.int y), .unset, .unset]) (by rw [XS.store1 (o := o18) rfl ho18 rfl]; rfl) (pc' := 813) rfl ?_
        refine g_iload C d_jdk_2529_method_4_813 rfl (pc' := 815) rfl ?_
        refine g_iload C d_jdk_2529_method_4_815 rfl (pc' := 817) rfl ?_
        refine g_if_icmpeq C d_jdk_2529_method_4_817 (by decide) (pcT := 886) rfl (pcF := 820) rfl (fun zz_ => absurd zz_ (ny0)) (fun _ => ?_)
        refine g_aload_n C d_jdk_2529_method_4_820 rfl rfl (pc' := 821) rfl ?_
        refine g_iload C d_jdk_2529_method_4_821 rfl (pc' := 823) rfl ?_
        refine g_iload C d_jdk_2529_method_4_823 rfl (pc' := 825) rfl ?_
        refine g_iastore C (C1) (i32_nn (by omega)) (i := q) (i32_clamp (by omega)) (by omega) (Or.inl (List.mem_cons_self ..)) d_jdk_2529_method_4_825 (pc' := 826) rfl ?_
        intro k2 V2 B2
        refine g_iload C d_jdk_2529_method_4_826 rfl (pc' := 828) rfl ?_
        refine g_iload C d_jdk_2529_method_4_828 rfl (pc' := 830) rfl ?_
        refine g_if_icmpge C d_jdk_2529_method_4_830 (by decide) (pcT := 877) rfl (pcF := 833) rfl (fun _ => ?_) (fun zz_ => absurd zz_ (ny))
        refine g_aload_n C d_jdk_2529_method_4_877 rfl rfl (pc' := 878) rfl ?_
        refine g_iinc C d_jdk_2529_method_4_878 rfl (y := (65 : Int32)) (by first | decide | exact Nat.le_of_ble_eq_true rfl) (Ls' := #[.val .null, .val (.ref a), .val (.int (6 : Int32)), .val (.int (0 : Int32)), .val (.int (66 : Int32)), .val (.int (65 : Int32)), .val (.int (66 : Int32)), .val (.int (27 : Int32)), .val (.int (27 : Int32)), .val (.int (38 : Int32)), .val (.int (32 : Int32)), .val (.int (29 : Int32)), .val (.int (35 : Int32)), o13, .val (.int (0 : Int32)), .val (.int (65 : Int32)), .val (.int (0 : Int32)), .val (.int (Int32.ofNat q)), .val (.int y), .unset, .unset]) rfl (pc' := 881) rfl ?_
        refine g_iload C d_jdk_2529_method_4_881 rfl (pc' := 883) rfl ?_
        refine g_iload C d_jdk_2529_method_4_883 rfl (pc' := 885) rfl ?_
        refine g_iastore C (B2) (by first | decide | exact Nat.le_of_ble_eq_true rfl) (i := 65) rfl (by first | decide | exact Nat.le_of_ble_eq_true rfl) (Or.inl (List.mem_cons_self ..)) d_jdk_2529_method_4_885 (pc' := 886) rfl ?_
        intro k3 V3 B3
        have C3 : Af Z k3 a .int 66 (one 65 y) := B3.to fun t ht => by
          by_cases z : t = 65
          · rw [z, upd_same, one_eq rfl]
          · rw [upd_other z, one_ne z]
            by_cases z2 : t = q
            · rw [z2, upd_same]
            · rw [upd_other z2, one_ne z2]
        refine g_goto C d_jdk_2529_method_4_886 (by decide) (pc' := 797) rfl ?_
        refine g_loop (α := Nat × Slot) (fun x => 0 + 1 ≤ x.1 ∧ x.1 ≤ q ∧ One x.2) (fun x => x.1) (fun x => #[.val .null, .val (.ref a), .val (.int (6 : Int32)), .val (.int (0 : Int32)), .val (.int (66 : Int32)), .val (.int (65 : Int32)), .val (.int (66 : Int32)), .val (.int (27 : Int32)), .val (.int (27 : Int32)), .val (.int (38 : Int32)), .val (.int (32 : Int32)), .val (.int (29 : Int32)), .val (.int (35 : Int32)), o13, .val (.int (0 : Int32)), .val (.int (65 : Int32)), .val (.int (0 : Int32)), .val (.int (Int32.ofNat x.1)), x.2, .unset, .unset]) (q, .val (.int y)) ⟨show 0 + 1 ≤ q by omega, show q ≤ q by omega, (by first | exact One.u | exact One.val rfl | assumption)⟩ rfl ?_
        rintro ⟨k, o18⟩ ⟨hk1, hk2, ho18⟩ IH
        dsimp only at hk1 hk2 ho18 IH ⊢
        refine g_iinc C d_jdk_2529_method_4_797 rfl (y := (Int32.ofNat (k - 1))) (dec_n (by omega)) (Ls' := #[.val .null, .val (.ref a), .val (.int (6 : Int32)), .val (.int (0 : Int32)), .val (.int (66 : Int32)), .val (.int (65 : Int32)), .val (.int (66 : Int32)), .val (.int (27 : Int32)), .val (.int (27 : Int32)), .val (.int (38 : Int32)), .val (.int (32 : Int32)), .val (.int (29 : Int32)), .val (.int (35 : Int32)), o13, .val (.int (0 : Int32)), .val (.int (65 : Int32)), .val (.int (0 : Int32)), .val (.int (Int32.ofNat (k - 1))), o18, .unset, .unset]) rfl (pc' := 800) rfl ?_
        rcases Nat.lt_or_ge (0) (k - 1) with hc | hc
        · refine g_iload C d_jdk_2529_method_4_800 rfl (pc' := 802) rfl ?_
          refine g_iload C d_jdk_2529_method_4_802 rfl (pc' := 804) rfl ?_
          refine g_if_icmple C d_jdk_2529_method_4_804 (by decide) (pcT := 889) rfl (pcF := 807) rfl (fun zz_ => absurd (by rw [show (0 : Int32) = Int32.ofNat 0 from rfl]; exact (lt_n (by omega) (by omega)).2 (by omega)) zz_) (fun _ => ?_)
          refine g_aload_n C d_jdk_2529_method_4_807 rfl rfl (pc' := 808) rfl ?_
          refine g_iload C d_jdk_2529_method_4_808 rfl (pc' := 810) rfl ?_
          refine g_iaload C (C3) (i32_nn (by omega)) (i := (k - 1)) (i32_clamp (by omega)) (by omega) (v := (.int (0 : Int32))) (one_ne (by omega)) d_jdk_2529_method_4_810 (pc' := 811) rfl ?_
          refine g_istore C d_jdk_2529_method_4_811 (Ls' := #[.val .null, .val (.ref a), .val (.int (6 : Int32)), .val (.int (0 : Int32)), .val (.int (66 : Int32)), .val (.int (65 : Int32)), .val (.int (66 : Int32)), .val (.int (27 : Int32)), .val (.int (27 : Int32)), .val (.int (38 : Int32)), .val (.int (32 : Int32)), .val (.int (29 : Int32)), .val (.int (35 : Int32)), o13, .val (.int (0 : Int32)), .val (.int (65 : Int32)), .val (.int (0 : Int32)), .val (.int (Int32.ofNat (k - 1))), .val (.int (0 : Int32)), .unset, .unset]) (by rw [XS.store1 (o := o18) rfl ho18 rfl]; rfl) (pc' := 813) rfl ?_
          refine g_iload C d_jdk_2529_method_4_813 rfl (pc' := 815) rfl ?_
          refine g_iload C d_jdk_2529_method_4_815 rfl (pc' := 817) rfl ?_
          refine g_if_icmpeq C d_jdk_2529_method_4_817 (by decide) (pcT := 886) rfl (pcF := 820) rfl (fun _ => ?_) (fun zz_ => absurd (rfl) zz_)
          refine g_goto C d_jdk_2529_method_4_886 (by decide) (pc' := 797) rfl ?_
          exact IH (k - 1, .val (.int 0)) ⟨by omega, by omega, One.val rfl⟩ (by dsimp only; omega)
        · obtain hkT : k - 1 = 0 := by omega
          rw [hkT]
          refine g_iload C d_jdk_2529_method_4_800 rfl (pc' := 802) rfl ?_
          refine g_iload C d_jdk_2529_method_4_802 rfl (pc' := 804) rfl ?_
          refine g_if_icmple C d_jdk_2529_method_4_804 (by decide) (pcT := 889) rfl (pcF := 807) rfl (fun _ => ?_) (fun zz_ => absurd zz_ (by first | decide | exact Nat.le_of_ble_eq_true rfl))
          refine g_aload_n C d_jdk_2529_method_4_889 rfl rfl (pc' := 890) rfl ?_
          refine g_iload_n C d_jdk_2529_method_4_890 rfl (pc' := 891) rfl ?_
          refine g_aload_n C d_jdk_2529_method_4_891 rfl rfl (pc' := 892) rfl ?_
          refine g_iload C d_jdk_2529_method_4_892 rfl (pc' := 894) rfl ?_
          refine g_iaload C (C3) (by first | decide | exact Nat.le_of_ble_eq_true rfl) (i := 0) rfl (by first | decide | exact Nat.le_of_ble_eq_true rfl) (v := (.int (0 : Int32))) (one_ne (by first | decide | exact Nat.le_of_ble_eq_true rfl)) d_jdk_2529_method_4_894 (pc' := 895) rfl ?_
          refine g_iastore C (C3) (by first | decide | exact Nat.le_of_ble_eq_true rfl) (i := 0) rfl (by first | decide | exact Nat.le_of_ble_eq_true rfl) (Or.inl (List.mem_cons_self ..)) d_jdk_2529_method_4_895 (pc' := 896) rfl ?_
          intro k4 V4 B4
          refine g_aload_n C d_jdk_2529_method_4_896 rfl rfl (pc' := 897) rfl ?_
          refine g_iload C d_jdk_2529_method_4_897 rfl (pc' := 899) rfl ?_
          refine g_iload C d_jdk_2529_method_4_899 rfl (pc' := 901) rfl ?_
          refine g_iastore C (B4) (by first | decide | exact Nat.le_of_ble_eq_true rfl) (i := 0) rfl (by first | decide | exact Nat.le_of_ble_eq_true rfl) (Or.inl (List.mem_cons_self ..)) d_jdk_2529_method_4_901 (pc' := 902) rfl ?_
          intro k5 V5 B5
          have C5 : Af Z k5 a .int 66 (one 65 y) := B5.to fun t ht => by
            by_cases z : t = 0
            · rw [z, upd_same, one_ne (by first | decide | exact Nat.le_of_ble_eq_true rfl)]
            · rw [upd_other z, upd_other z]
          refine g_iload C d_jdk_2529_method_4_902 rfl (pc' := 904) rfl ?_
          refine g_sipush C d_jdk_2529_method_4_904 (x := (4096 : Int32)) rfl (pc' := 907) rfl ?_
          refine g_if_icmple C d_jdk_2529_method_4_907 (by decide) (pcT := 928) rfl (pcF := 910) rfl (fun _ => ?_) (fun zz_ => absurd zz_ (by first | decide | exact Nat.le_of_ble_eq_true rfl))
          refine g_aload_n C d_jdk_2529_method_4_928 rfl rfl (pc' := 929) rfl ?_
          refine g_aload_n C d_jdk_2529_method_4_929 rfl rfl (pc' := 930) rfl ?_
          refine g_iload_n C d_jdk_2529_method_4_930 rfl (pc' := 931) rfl ?_
          refine g_iconst C d_jdk_2529_method_4_931 (x := (1 : Int32)) rfl (pc' := 932) rfl ?_
          refine g_ior C d_jdk_2529_method_4_932 (pc' := 933) rfl ?_
          refine g_norm (cells' := 1) (slots' := 127) (st' := [(.int (7 : Int32)), (.ref a), .null]) (Nat.le_refl _) (Nat.le_refl _) (congrArg (fun z : Int32 => (Value.int z :: [(.ref a), .null] : List Value)) (by first | decide | exact Nat.le_of_ble_eq_true rfl)) ?_
          refine g_iload C d_jdk_2529_method_4_933 rfl (pc' := 935) rfl ?_
          refine g_iload C d_jdk_2529_method_4_935 rfl (pc' := 937) rfl ?_
          refine g_staticC C (W := 0) (argsL := [.null, (.ref a), (.int (7 : Int32)), (.int (65 : Int32)), (.int (66 : Int32))]) (rest := []) (con_r65 l Z a0 hw k5 a) (Wx31 hw) (Wx32 hw) (Wx29 hw) (Wx33 hw) (by first | decide | exact Nat.le_of_ble_eq_true rfl) rfl (lenOf pd5 rfl) rfl (Nat.le_of_eq rfl) d_jdk_2529_method_4_937 (pc' := 940) rfl (by first | decide | exact Nat.le_of_ble_eq_true rfl) (by first | decide | exact Nat.le_of_ble_eq_true rfl) (fun _ q => nomatch q) (by first | decide | exact Nat.le_of_ble_eq_true rfl) (by first | decide | exact Nat.le_of_ble_eq_true rfl) ?_
          rintro _ hh ⟨rfl, eh_⟩ Kr
          subst hh
          refine g_norm (cells' := 1) (slots' := 127) (st' := []) (by first | decide | exact Nat.le_of_ble_eq_true rfl) (by first | decide | exact Nat.le_of_ble_eq_true rfl) rfl ?_
          refine g_iload C d_jdk_2529_method_4_940 rfl (pc' := 942) rfl ?_
          refine g_istore C d_jdk_2529_method_4_942 (Ls' := #[.val .null, .val (.ref a), .val (.int (6 : Int32)), .val (.int (0 : Int32)), .val (.int (0 : Int32)), .val (.int (65 : Int32)), .val (.int (66 : Int32)), .val (.int (27 : Int32)), .val (.int (27 : Int32)), .val (.int (38 : Int32)), .val (.int (32 : Int32)), .val (.int (29 : Int32)), .val (.int (35 : Int32)), o13, .val (.int (0 : Int32)), .val (.int (65 : Int32)), .val (.int (0 : Int32)), .val (.int (Int32.ofNat 0)), o18, .unset, .unset]) rfl (pc' := 944) rfl ?_
          refine g_goto C d_jdk_2529_method_4_944 (by decide) (pc' := 0) rfl ?_
          refine g_iload C d_jdk_2529_method_4_0 rfl (pc' := 2) rfl ?_
          refine g_iconst C d_jdk_2529_method_4_2 (x := (1 : Int32)) rfl (pc' := 3) rfl ?_
          refine g_isub C d_jdk_2529_method_4_3 (pc' := 4) rfl ?_
          refine g_norm (cells' := 1) (slots' := 127) (st' := [(.int (-1 : Int32))]) (Nat.le_refl _) (Nat.le_refl _) (congrArg (fun z : Int32 => (Value.int z :: [] : List Value)) (by first | decide | exact Nat.le_of_ble_eq_true rfl)) ?_
          refine g_istore C d_jdk_2529_method_4_4 (Ls' := #[.val .null, .val (.ref a), .val (.int (6 : Int32)), .val (.int (0 : Int32)), .val (.int (0 : Int32)), .val (.int (-1 : Int32)), .val (.int (66 : Int32)), .val (.int (27 : Int32)), .val (.int (27 : Int32)), .val (.int (38 : Int32)), .val (.int (32 : Int32)), .val (.int (29 : Int32)), .val (.int (35 : Int32)), o13, .val (.int (0 : Int32)), .val (.int (65 : Int32)), .val (.int (0 : Int32)), .val (.int (Int32.ofNat 0)), o18, .unset, .unset]) rfl (pc' := 6) rfl ?_
          refine g_iload C d_jdk_2529_method_4_6 rfl (pc' := 8) rfl ?_
          refine g_iload_n C d_jdk_2529_method_4_8 rfl (pc' := 9) rfl ?_
          refine g_isub C d_jdk_2529_method_4_9 (pc' := 10) rfl ?_
          refine g_norm (cells' := 1) (slots' := 127) (st' := [(.int (0 : Int32))]) (Nat.le_refl _) (Nat.le_refl _) (congrArg (fun z : Int32 => (Value.int z :: [] : List Value)) (by first | decide | exact Nat.le_of_ble_eq_true rfl)) ?_
          refine g_istore C d_jdk_2529_method_4_10 (Ls' := #[.val .null, .val (.ref a), .val (.int (6 : Int32)), .val (.int (0 : Int32)), .val (.int (0 : Int32)), .val (.int (-1 : Int32)), .val (.int (0 : Int32)), .val (.int (27 : Int32)), .val (.int (27 : Int32)), .val (.int (38 : Int32)), .val (.int (32 : Int32)), .val (.int (29 : Int32)), .val (.int (35 : Int32)), o13, .val (.int (0 : Int32)), .val (.int (65 : Int32)), .val (.int (0 : Int32)), .val (.int (Int32.ofNat 0)), o18, .unset, .unset]) rfl (pc' := 12) rfl ?_
          refine g_iload C d_jdk_2529_method_4_12 rfl (pc' := 14) rfl ?_
          refine g_bipush C d_jdk_2529_method_4_14 (x := (65 : Int32)) rfl (pc' := 16) rfl ?_
          refine g_iload_n C d_jdk_2529_method_4_16 rfl (pc' := 17) rfl ?_
          refine g_iadd C d_jdk_2529_method_4_17 (pc' := 18) rfl ?_
          refine g_norm (cells' := 1) (slots' := 127) (st' := [(.int (71 : Int32)), (.int (0 : Int32))]) (Nat.le_refl _) (Nat.le_refl _) (congrArg (fun z : Int32 => (Value.int z :: [(.int (0 : Int32))] : List Value)) (by first | decide | exact Nat.le_of_ble_eq_true rfl)) ?_
          refine g_if_icmpge C d_jdk_2529_method_4_18 (by decide) (pcT := 46) rfl (pcF := 21) rfl (fun zz_ => absurd (by first | decide | exact Nat.le_of_ble_eq_true rfl) zz_) (fun _ => ?_)
          refine g_iload_n C d_jdk_2529_method_4_21 rfl (pc' := 22) rfl ?_
          refine g_iconst C d_jdk_2529_method_4_22 (x := (1 : Int32)) rfl (pc' := 23) rfl ?_
          refine g_iand C d_jdk_2529_method_4_23 (pc' := 24) rfl ?_
          refine g_norm (cells' := 1) (slots' := 127) (st' := [(.int (0 : Int32))]) (Nat.le_refl _) (Nat.le_refl _) (congrArg (fun z : Int32 => (Value.int z :: [] : List Value)) (by first | decide | exact Nat.le_of_ble_eq_true rfl)) ?_
          refine g_ifle C d_jdk_2529_method_4_24 (by decide) (pcT := 46) rfl (pcF := 27) rfl (fun _ => ?_) (fun zz_ => absurd zz_ (by first | decide | exact Nat.le_of_ble_eq_true rfl))
          refine g_iload C d_jdk_2529_method_4_46 rfl (pc' := 48) rfl ?_
          refine g_bipush C d_jdk_2529_method_4_48 (x := (44 : Int32)) rfl (pc' := 50) rfl ?_
          refine g_if_icmpge C d_jdk_2529_method_4_50 (by decide) (pcT := 61) rfl (pcF := 53) rfl (fun zz_ => absurd (by first | decide | exact Nat.le_of_ble_eq_true rfl) zz_) (fun _ => ?_)
          refine g_aload_n C d_jdk_2529_method_4_53 rfl rfl (pc' := 54) rfl ?_
          refine g_iload_n C d_jdk_2529_method_4_54 rfl (pc' := 55) rfl ?_
          refine g_iload C d_jdk_2529_method_4_55 rfl (pc' := 57) rfl ?_
          refine g_staticC C (W := 0) (argsL := [(.ref a), (.int (0 : Int32)), (.int (0 : Int32))]) (rest := []) (con_ins l Z a0 hw k5 a (0 : Int32) (by first | decide | exact Nat.le_of_ble_eq_true rfl)) (Wx40 hw) (Wx41 hw) (Wx29 hw) (Wx42 hw) (by first | decide | exact Nat.le_of_ble_eq_true rfl) rfl (lenOf pd6 rfl) rfl (Nat.le_of_eq rfl) d_jdk_2529_method_4_57 (pc' := 60) rfl (by first | decide | exact Nat.le_of_ble_eq_true rfl) (by first | decide | exact Nat.le_of_ble_eq_true rfl) (fun _ q => nomatch q) (by first | decide | exact Nat.le_of_ble_eq_true rfl) (by first | decide | exact Nat.le_of_ble_eq_true rfl) ?_
          rintro _ hh ⟨rfl, eh_⟩ Ki
          subst hh
          refine g_norm (cells' := 1) (slots' := 127) (st' := []) (by first | decide | exact Nat.le_of_ble_eq_true rfl) (by first | decide | exact Nat.le_of_ble_eq_true rfl) rfl ?_
          exact g_return C d_jdk_2529_method_4_60 (⟨rfl, by rw [show tgt y = 65 from if_pos hy]; exact C5⟩) (by first | decide | exact Nat.le_of_ble_eq_true rfl) (by first | decide | exact Nat.le_of_ble_eq_true rfl)
    obtain rfl | rfl | rfl | rfl | rfl | ⟨n1, n2, n3, n4, n5⟩ : p = 27 ∨ p = 29 ∨ p = 32 ∨ p = 35 ∨ p = 38 ∨ (¬ p = 27 ∧ ¬ p = 29 ∧ ¬ p = 32 ∧ ¬ p = 35 ∧ ¬ p = 38) := by omega
    · refine g_iaload C (A1) (by first | decide | exact Nat.le_of_ble_eq_true rfl) (i := 32) rfl (by first | decide | exact Nat.le_of_ble_eq_true rfl) (v := (.int (0 : Int32))) (one_ne (by omega)) d_jdk_2529_method_4_162 (pc' := 163) rfl ?_
      refine g_istore C d_jdk_2529_method_4_163 (Ls' := #[.val .null, .val (.ref a), .val (.int (6 : Int32)), .val (.int (0 : Int32)), .val (.int (66 : Int32)), .val (.int (65 : Int32)), .val (.int (66 : Int32)), .val (.int (27 : Int32)), .val (.int (27 : Int32)), .val (.int (38 : Int32)), .val (.int (32 : Int32)), .val (.int (29 : Int32)), .val (.int (35 : Int32)), .val (.int (0 : Int32)), .unset, .unset, .unset, .unset, .unset, .unset, .unset]) rfl (pc' := 165) rfl ?_
      refine g_aload_n C d_jdk_2529_method_4_165 rfl rfl (pc' := 166) rfl ?_
      refine g_iload C d_jdk_2529_method_4_166 rfl (pc' := 168) rfl ?_
      refine g_iaload C (A1) (by first | decide | exact Nat.le_of_ble_eq_true rfl) (i := 38) rfl (by first | decide | exact Nat.le_of_ble_eq_true rfl) (v := (.int (0 : Int32))) (one_ne (by omega)) d_jdk_2529_method_4_168 (pc' := 169) rfl ?_
      refine g_aload_n C d_jdk_2529_method_4_169 rfl rfl (pc' := 170) rfl ?_
      refine g_iload C d_jdk_2529_method_4_170 rfl (pc' := 172) rfl ?_
      refine g_iaload C (A1) (by first | decide | exact Nat.le_of_ble_eq_true rfl) (i := 29) rfl (by first | decide | exact Nat.le_of_ble_eq_true rfl) (v := (.int (0 : Int32))) (one_ne (by omega)) d_jdk_2529_method_4_172 (pc' := 173) rfl ?_
      refine g_if_icmpge C d_jdk_2529_method_4_173 (by decide) (pcT := 196) rfl (pcF := 176) rfl (fun _ => ?_) (fun zz_ => absurd zz_ (by first | decide | exact Nat.le_of_ble_eq_true rfl))
      refine g_aload_n C d_jdk_2529_method_4_196 rfl rfl (pc' := 197) rfl ?_
      refine g_iload C d_jdk_2529_method_4_197 rfl (pc' := 199) rfl ?_
      refine g_iaload C (A1) (by first | decide | exact Nat.le_of_ble_eq_true rfl) (i := 35) rfl (by first | decide | exact Nat.le_of_ble_eq_true rfl) (v := (.int (0 : Int32))) (one_ne (by omega)) d_jdk_2529_method_4_199 (pc' := 200) rfl ?_
      refine g_aload_n C d_jdk_2529_method_4_200 rfl rfl (pc' := 201) rfl ?_
      refine g_iload C d_jdk_2529_method_4_201 rfl (pc' := 203) rfl ?_
      refine g_iaload C (A1) (by first | decide | exact Nat.le_of_ble_eq_true rfl) (i := 27) rfl (by first | decide | exact Nat.le_of_ble_eq_true rfl) (v := (.int y)) (one_eq rfl) d_jdk_2529_method_4_203 (pc' := 204) rfl ?_
      refine g_if_icmpge C d_jdk_2529_method_4_204 (by decide) (pcT := 227) rfl (pcF := 207) rfl (fun zz_ => absurd (hy) zz_) (fun _ => ?_)
      refine g_aload_n C d_jdk_2529_method_4_207 rfl rfl (pc' := 208) rfl ?_
      refine g_iload C d_jdk_2529_method_4_208 rfl (pc' := 210) rfl ?_
      refine g_iaload C (A1) (by first | decide | exact Nat.le_of_ble_eq_true rfl) (i := 35) rfl (by first | decide | exact Nat.le_of_ble_eq_true rfl) (v := (.int (0 : Int32))) (one_ne (by omega)) d_jdk_2529_method_4_210 (pc' := 211) rfl ?_
      refine g_istore C d_jdk_2529_method_4_211 (Ls' := #[.val .null, .val (.ref a), .val (.int (6 : Int32)), .val (.int (0 : Int32)), .val (.int (66 : Int32)), .val (.int (65 : Int32)), .val (.int (66 : Int32)), .val (.int (27 : Int32)), .val (.int (27 : Int32)), .val (.int (38 : Int32)), .val (.int (32 : Int32)), .val (.int (29 : Int32)), .val (.int (35 : Int32)), .val (.int (0 : Int32)), .val (.int (0 : Int32)), .unset, .unset, .unset, .unset, .unset, .unset]) rfl (pc' := 213) rfl ?_
      refine g_aload_n C d_jdk_2529_method_4_213 rfl rfl (pc' := 214) rfl ?_
      refine g_iload C d_jdk_2529_method_4_214 rfl (pc' := 216) rfl ?_
      refine g_aload_n C d_jdk_2529_method_4_216 rfl rfl (pc' := 217) rfl ?_
      refine g_iload C d_jdk_2529_method_4_217 rfl (pc' := 219) rfl ?_
      refine g_iaload C (A1) (by first | decide | exact Nat.le_of_ble_eq_true rfl) (i := 27) rfl (by first | decide | exact Nat.le_of_ble_eq_true rfl) (v := (.int y)) (one_eq rfl) d_jdk_2529_method_4_219 (pc' := 220) rfl ?_
      refine g_iastore C (A1) (by first | decide | exact Nat.le_of_ble_eq_true rfl) (i := 35) rfl (by first | decide | exact Nat.le_of_ble_eq_true rfl) (Or.inl (List.mem_cons_self ..)) d_jdk_2529_method_4_220 (pc' := 221) rfl ?_
      intro en1 Vn1 Bn1
      refine g_aload_n C d_jdk_2529_method_4_221 rfl rfl (pc' := 222) rfl ?_
      refine g_iload C d_jdk_2529_method_4_222 rfl (pc' := 224) rfl ?_
      refine g_iload C d_jdk_2529_method_4_224 rfl (pc' := 226) rfl ?_
      refine g_iastore C (Bn1) (by first | decide | exact Nat.le_of_ble_eq_true rfl) (i := 27) rfl (by first | decide | exact Nat.le_of_ble_eq_true rfl) (Or.inl (List.mem_cons_self ..)) d_jdk_2529_method_4_226 (pc' := 227) rfl ?_
      intro gn1 Un1 Dn1
      have An1 : Af Z gn1 a .int 66 (one 35 y) := Dn1.to fun t ht => by
        by_cases z : t = 27
        · rw [z, upd_same, one_ne (by first | decide | exact Nat.le_of_ble_eq_true rfl)]
        · rw [upd_other z]
          by_cases z2 : t = 35
          · rw [z2, upd_same, one_eq rfl]
          · rw [upd_other z2, one_ne z, one_ne z2]
      refine g_aload_n C d_jdk_2529_method_4_227 rfl rfl (pc' := 228) rfl ?_
      refine g_iload C d_jdk_2529_method_4_228 rfl (pc' := 230) rfl ?_
      refine g_iaload C (An1) (by first | decide | exact Nat.le_of_ble_eq_true rfl) (i := 38) rfl (by first | decide | exact Nat.le_of_ble_eq_true rfl) (v := (.int (0 : Int32))) (one_ne (by omega)) d_jdk_2529_method_4_230 (pc' := 231) rfl ?_
      refine g_aload_n C d_jdk_2529_method_4_231 rfl rfl (pc' := 232) rfl ?_
      refine g_iload C d_jdk_2529_method_4_232 rfl (pc' := 234) rfl ?_
      refine g_iaload C (An1) (by first | decide | exact Nat.le_of_ble_eq_true rfl) (i := 35) rfl (by first | decide | exact Nat.le_of_ble_eq_true rfl) (v := (.int y)) (one_eq rfl) d_jdk_2529_method_4_234 (pc' := 235) rfl ?_
      refine g_if_icmpge C d_jdk_2529_method_4_235 (by decide) (pcT := 258) rfl (pcF := 238) rfl (fun zz_ => absurd (hy) zz_) (fun _ => ?_)
      refine g_aload_n C d_jdk_2529_method_4_238 rfl rfl (pc' := 239) rfl ?_
      refine g_iload C d_jdk_2529_method_4_239 rfl (pc' := 241) rfl ?_
      refine g_iaload C (An1) (by first | decide | exact Nat.le_of_ble_eq_true rfl) (i := 38) rfl (by first | decide | exact Nat.le_of_ble_eq_true rfl) (v := (.int (0 : Int32))) (one_ne (by omega)) d_jdk_2529_method_4_241 (pc' := 242) rfl ?_
      refine g_istore C d_jdk_2529_method_4_242 (Ls' := #[.val .null, .val (.ref a), .val (.int (6 : Int32)), .val (.int (0 : Int32)), .val (.int (66 : Int32)), .val (.int (65 : Int32)), .val (.int (66 : Int32)), .val (.int (27 : Int32)), .val (.int (27 : Int32)), .val (.int (38 : Int32)), .val (.int (32 : Int32)), .val (.int (29 : Int32)), .val (.int (35 : Int32)), .val (.int (0 : Int32)), .val (.int (0 : Int32)), .unset, .unset, .unset, .unset, .unset, .unset]) rfl (pc' := 244) rfl ?_
      refine g_aload_n C d_jdk_2529_method_4_244 rfl rfl (pc' := 245) rfl ?_
      refine g_iload C d_jdk_2529_method_4_245 rfl (pc' := 247) rfl ?_
      refine g_aload_n C d_jdk_2529_method_4_247 rfl rfl (pc' := 248) rfl ?_
      refine g_iload C d_jdk_2529_method_4_248 rfl (pc' := 250) rfl ?_
      refine g_iaload C (An1) (by first | decide | exact Nat.le_of_ble_eq_true rfl) (i := 35) rfl (by first | decide | exact Nat.le_of_ble_eq_true rfl) (v := (.int y)) (one_eq rfl) d_jdk_2529_method_4_250 (pc' := 251) rfl ?_
      refine g_iastore C (An1) (by first | decide | exact Nat.le_of_ble_eq_true rfl) (i := 38) rfl (by first | decide | exact Nat.le_of_ble_eq_true rfl) (Or.inl (List.mem_cons_self ..)) d_jdk_2529_method_4_251 (pc' := 252) rfl ?_
      intro en2 Vn2 Bn2
      refine g_aload_n C d_jdk_2529_method_4_252 rfl rfl (pc' := 253) rfl ?_
      refine g_iload C d_jdk_2529_method_4_253 rfl (pc' := 255) rfl ?_
      refine g_iload C d_jdk_2529_method_4_255 rfl (pc' := 257) rfl ?_
      refine g_iastore C (Bn2) (by first | decide | exact Nat.le_of_ble_eq_true rfl) (i := 35) rfl (by first | decide | exact Nat.le_of_ble_eq_true rfl) (Or.inl (List.mem_cons_self ..)) d_jdk_2529_method_4_257 (pc' := 258) rfl ?_
      intro gn2 Un2 Dn2
      have An2 : Af Z gn2 a .int 66 (one 38 y) := Dn2.to fun t ht => by
        by_cases z : t = 35
        · rw [z, upd_same, one_ne (by first | decide | exact Nat.le_of_ble_eq_true rfl)]
        · rw [upd_other z]
          by_cases z2 : t = 38
          · rw [z2, upd_same, one_eq rfl]
          · rw [upd_other z2, one_ne z, one_ne z2]
      refine g_aload_n C d_jdk_2529_method_4_258 rfl rfl (pc' := 259) rfl ?_
      refine g_iload C d_jdk_2529_method_4_259 rfl (pc' := 261) rfl ?_
      refine g_iaload C (An2) (by first | decide | exact Nat.le_of_ble_eq_true rfl) (i := 29) rfl (by first | decide | exact Nat.le_of_ble_eq_true rfl) (v := (.int (0 : Int32))) (one_ne (by omega)) d_jdk_2529_method_4_261 (pc' := 262) rfl ?_
      refine g_aload_n C d_jdk_2529_method_4_262 rfl rfl (pc' := 263) rfl ?_
      refine g_iload C d_jdk_2529_method_4_263 rfl (pc' := 265) rfl ?_
      refine g_iaload C (An2) (by first | decide | exact Nat.le_of_ble_eq_true rfl) (i := 27) rfl (by first | decide | exact Nat.le_of_ble_eq_true rfl) (v := (.int (0 : Int32))) (one_ne (by omega)) d_jdk_2529_method_4_265 (pc' := 266) rfl ?_
      refine g_if_icmpge C d_jdk_2529_method_4_266 (by decide) (pcT := 289) rfl (pcF := 269) rfl (fun _ => ?_) (fun zz_ => absurd zz_ (by first | decide | exact Nat.le_of_ble_eq_true rfl))
      refine g_aload_n C d_jdk_2529_method_4_289 rfl rfl (pc' := 290) rfl ?_
      refine g_iload C d_jdk_2529_method_4_290 rfl (pc' := 292) rfl ?_
      refine g_iaload C (An2) (by first | decide | exact Nat.le_of_ble_eq_true rfl) (i := 35) rfl (by first | decide | exact Nat.le_of_ble_eq_true rfl) (v := (.int (0 : Int32))) (one_ne (by omega)) d_jdk_2529_method_4_292 (pc' := 293) rfl ?_
      refine g_aload_n C d_jdk_2529_method_4_293 rfl rfl (pc' := 294) rfl ?_
      refine g_iload C d_jdk_2529_method_4_294 rfl (pc' := 296) rfl ?_
      refine g_iaload C (An2) (by first | decide | exact Nat.le_of_ble_eq_true rfl) (i := 29) rfl (by first | decide | exact Nat.le_of_ble_eq_true rfl) (v := (.int (0 : Int32))) (one_ne (by omega)) d_jdk_2529_method_4_296 (pc' := 297) rfl ?_
      refine g_if_icmpge C d_jdk_2529_method_4_297 (by decide) (pcT := 320) rfl (pcF := 300) rfl (fun _ => ?_) (fun zz_ => absurd zz_ (by first | decide | exact Nat.le_of_ble_eq_true rfl))
      refine g_iload C d_jdk_2529_method_4_320 rfl (pc' := 322) rfl ?_
      refine g_aload_n C d_jdk_2529_method_4_322 rfl rfl (pc' := 323) rfl ?_
      refine g_iload C d_jdk_2529_method_4_323 rfl (pc' := 325) rfl ?_
      refine g_iaload C (An2) (by first | decide | exact Nat.le_of_ble_eq_true rfl) (i := 29) rfl (by first | decide | exact Nat.le_of_ble_eq_true rfl) (v := (.int (0 : Int32))) (one_ne (by omega)) d_jdk_2529_method_4_325 (pc' := 326) rfl ?_
      refine g_if_icmpge C d_jdk_2529_method_4_326 (by decide) (pcT := 380) rfl (pcF := 329) rfl (fun _ => ?_) (fun zz_ => absurd zz_ (by first | decide | exact Nat.le_of_ble_eq_true rfl))
      refine g_iload C d_jdk_2529_method_4_380 rfl (pc' := 382) rfl ?_
      refine g_aload_n C d_jdk_2529_method_4_382 rfl rfl (pc' := 383) rfl ?_
      refine g_iload C d_jdk_2529_method_4_383 rfl (pc' := 385) rfl ?_
      refine g_iaload C (An2) (by first | decide | exact Nat.le_of_ble_eq_true rfl) (i := 35) rfl (by first | decide | exact Nat.le_of_ble_eq_true rfl) (v := (.int (0 : Int32))) (one_ne (by omega)) d_jdk_2529_method_4_385 (pc' := 386) rfl ?_
      refine g_if_icmple C d_jdk_2529_method_4_386 (by decide) (pcT := 437) rfl (pcF := 389) rfl (fun _ => ?_) (fun zz_ => absurd zz_ (by first | decide | exact Nat.le_of_ble_eq_true rfl))
      exact H437 _ _ 38 _ (by first | exact One.u | exact One.val rfl | assumption) (by omega) (by omega) (by omega) (by omega) (by omega) (by omega) An2
    · refine g_iaload C (A1) (by first | decide | exact Nat.le_of_ble_eq_true rfl) (i := 32) rfl (by first | decide | exact Nat.le_of_ble_eq_true rfl) (v := (.int (0 : Int32))) (one_ne (by omega)) d_jdk_2529_method_4_162 (pc' := 163) rfl ?_
      refine g_istore C d_jdk_2529_method_4_163 (Ls' := #[.val .null, .val (.ref a), .val (.int (6 : Int32)), .val (.int (0 : Int32)), .val (.int (66 : Int32)), .val (.int (65 : Int32)), .val (.int (66 : Int32)), .val (.int (27 : Int32)), .val (.int (27 : Int32)), .val (.int (38 : Int32)), .val (.int (32 : Int32)), .val (.int (29 : Int32)), .val (.int (35 : Int32)), .val (.int (0 : Int32)), .unset, .unset, .unset, .unset, .unset, .unset, .unset]) rfl (pc' := 165) rfl ?_
      refine g_aload_n C d_jdk_2529_method_4_165 rfl rfl (pc' := 166) rfl ?_
      refine g_iload C d_jdk_2529_method_4_166 rfl (pc' := 168) rfl ?_
      refine g_iaload C (A1) (by first | decide | exact Nat.le_of_ble_eq_true rfl) (i := 38) rfl (by first | decide | exact Nat.le_of_ble_eq_true rfl) (v := (.int (0 : Int32))) (one_ne (by omega)) d_jdk_2529_method_4_168 (pc' := 169) rfl ?_
      refine g_aload_n C d_jdk_2529_method_4_169 rfl rfl (pc' := 170) rfl ?_
      refine g_iload C d_jdk_2529_method_4_170 rfl (pc' := 172) rfl ?_
      refine g_iaload C (A1) (by first | decide | exact Nat.le_of_ble_eq_true rfl) (i := 29) rfl (by first | decide | exact Nat.le_of_ble_eq_true rfl) (v := (.int y)) (one_eq rfl) d_jdk_2529_method_4_172 (pc' := 173) rfl ?_
      refine g_if_icmpge C d_jdk_2529_method_4_173 (by decide) (pcT := 196) rfl (pcF := 176) rfl (fun zz_ => absurd (hy) zz_) (fun _ => ?_)
      refine g_aload_n C d_jdk_2529_method_4_176 rfl rfl (pc' := 177) rfl ?_
      refine g_iload C d_jdk_2529_method_4_177 rfl (pc' := 179) rfl ?_
      refine g_iaload C (A1) (by first | decide | exact Nat.le_of_ble_eq_true rfl) (i := 38) rfl (by first | decide | exact Nat.le_of_ble_eq_true rfl) (v := (.int (0 : Int32))) (one_ne (by omega)) d_jdk_2529_method_4_179 (pc' := 180) rfl ?_
      refine g_istore C d_jdk_2529_method_4_180 (Ls' := #[.val .null, .val (.ref a), .val (.int (6 : Int32)), .val (.int (0 : Int32)), .val (.int (66 : Int32)), .val (.int (65 : Int32)), .val (.int (66 : Int32)), .val (.int (27 : Int32)), .val (.int (27 : Int32)), .val (.int (38 : Int32)), .val (.int (32 : Int32)), .val (.int (29 : Int32)), .val (.int (35 : Int32)), .val (.int (0 : Int32)), .val (.int (0 : Int32)), .unset, .unset, .unset, .unset, .unset, .unset]) rfl (pc' := 182) rfl ?_
      refine g_aload_n C d_jdk_2529_method_4_182 rfl rfl (pc' := 183) rfl ?_
      refine g_iload C d_jdk_2529_method_4_183 rfl (pc' := 185) rfl ?_
      refine g_aload_n C d_jdk_2529_method_4_185 rfl rfl (pc' := 186) rfl ?_
      refine g_iload C d_jdk_2529_method_4_186 rfl (pc' := 188) rfl ?_
      refine g_iaload C (A1) (by first | decide | exact Nat.le_of_ble_eq_true rfl) (i := 29) rfl (by first | decide | exact Nat.le_of_ble_eq_true rfl) (v := (.int y)) (one_eq rfl) d_jdk_2529_method_4_188 (pc' := 189) rfl ?_
      refine g_iastore C (A1) (by first | decide | exact Nat.le_of_ble_eq_true rfl) (i := 38) rfl (by first | decide | exact Nat.le_of_ble_eq_true rfl) (Or.inl (List.mem_cons_self ..)) d_jdk_2529_method_4_189 (pc' := 190) rfl ?_
      intro en3 Vn3 Bn3
      refine g_aload_n C d_jdk_2529_method_4_190 rfl rfl (pc' := 191) rfl ?_
      refine g_iload C d_jdk_2529_method_4_191 rfl (pc' := 193) rfl ?_
      refine g_iload C d_jdk_2529_method_4_193 rfl (pc' := 195) rfl ?_
      refine g_iastore C (Bn3) (by first | decide | exact Nat.le_of_ble_eq_true rfl) (i := 29) rfl (by first | decide | exact Nat.le_of_ble_eq_true rfl) (Or.inl (List.mem_cons_self ..)) d_jdk_2529_method_4_195 (pc' := 196) rfl ?_
      intro gn3 Un3 Dn3
      have An3 : Af Z gn3 a .int 66 (one 38 y) := Dn3.to fun t ht => by
        by_cases z : t = 29
        · rw [z, upd_same, one_ne (by first | decide | exact Nat.le_of_ble_eq_true rfl)]
        · rw [upd_other z]
          by_cases z2 : t = 38
          · rw [z2, upd_same, one_eq rfl]
          · rw [upd_other z2, one_ne z, one_ne z2]
      refine g_aload_n C d_jdk_2529_method_4_196 rfl rfl (pc' := 197) rfl ?_
      refine g_iload C d_jdk_2529_method_4_197 rfl (pc' := 199) rfl ?_
      refine g_iaload C (An3) (by first | decide | exact Nat.le_of_ble_eq_true rfl) (i := 35) rfl (by first | decide | exact Nat.le_of_ble_eq_true rfl) (v := (.int (0 : Int32))) (one_ne (by omega)) d_jdk_2529_method_4_199 (pc' := 200) rfl ?_
      refine g_aload_n C d_jdk_2529_method_4_200 rfl rfl (pc' := 201) rfl ?_
      refine g_iload C d_jdk_2529_method_4_201 rfl (pc' := 203) rfl ?_
      refine g_iaload C (An3) (by first | decide | exact Nat.le_of_ble_eq_true rfl) (i := 27) rfl (by first | decide | exact Nat.le_of_ble_eq_true rfl) (v := (.int (0 : Int32))) (one_ne (by omega)) d_jdk_2529_method_4_203 (pc' := 204) rfl ?_
      refine g_if_icmpge C d_jdk_2529_method_4_204 (by decide) (pcT := 227) rfl (pcF := 207) rfl (fun _ => ?_) (fun zz_ => absurd zz_ (by first | decide | exact Nat.le_of_ble_eq_true rfl))
      refine g_aload_n C d_jdk_2529_method_4_227 rfl rfl (pc' := 228) rfl ?_
      refine g_iload C d_jdk_2529_method_4_228 rfl (pc' := 230) rfl ?_
      refine g_iaload C (An3) (by first | decide | exact Nat.le_of_ble_eq_true rfl) (i := 38) rfl (by first | decide | exact Nat.le_of_ble_eq_true rfl) (v := (.int y)) (one_eq rfl) d_jdk_2529_method_4_230 (pc' := 231) rfl ?_
      refine g_aload_n C d_jdk_2529_method_4_231 rfl rfl (pc' := 232) rfl ?_
      refine g_iload C d_jdk_2529_method_4_232 rfl (pc' := 234) rfl ?_
      refine g_iaload C (An3) (by first | decide | exact Nat.le_of_ble_eq_true rfl) (i := 35) rfl (by first | decide | exact Nat.le_of_ble_eq_true rfl) (v := (.int (0 : Int32))) (one_ne (by omega)) d_jdk_2529_method_4_234 (pc' := 235) rfl ?_
      refine g_if_icmpge C d_jdk_2529_method_4_235 (by decide) (pcT := 258) rfl (pcF := 238) rfl (fun _ => ?_) (fun zz_ => absurd zz_ (ny))
      refine g_aload_n C d_jdk_2529_method_4_258 rfl rfl (pc' := 259) rfl ?_
      refine g_iload C d_jdk_2529_method_4_259 rfl (pc' := 261) rfl ?_
      refine g_iaload C (An3) (by first | decide | exact Nat.le_of_ble_eq_true rfl) (i := 29) rfl (by first | decide | exact Nat.le_of_ble_eq_true rfl) (v := (.int (0 : Int32))) (one_ne (by omega)) d_jdk_2529_method_4_261 (pc' := 262) rfl ?_
      refine g_aload_n C d_jdk_2529_method_4_262 rfl rfl (pc' := 263) rfl ?_
      refine g_iload C d_jdk_2529_method_4_263 rfl (pc' := 265) rfl ?_
      refine g_iaload C (An3) (by first | decide | exact Nat.le_of_ble_eq_true rfl) (i := 27) rfl (by first | decide | exact Nat.le_of_ble_eq_true rfl) (v := (.int (0 : Int32))) (one_ne (by omega)) d_jdk_2529_method_4_265 (pc' := 266) rfl ?_
      refine g_if_icmpge C d_jdk_2529_method_4_266 (by decide) (pcT := 289) rfl (pcF := 269) rfl (fun _ => ?_) (fun zz_ => absurd zz_ (by first | decide | exact Nat.le_of_ble_eq_true rfl))
      refine g_aload_n C d_jdk_2529_method_4_289 rfl rfl (pc' := 290) rfl ?_
      refine g_iload C d_jdk_2529_method_4_290 rfl (pc' := 292) rfl ?_
      refine g_iaload C (An3) (by first | decide | exact Nat.le_of_ble_eq_true rfl) (i := 35) rfl (by first | decide | exact Nat.le_of_ble_eq_true rfl) (v := (.int (0 : Int32))) (one_ne (by omega)) d_jdk_2529_method_4_292 (pc' := 293) rfl ?_
      refine g_aload_n C d_jdk_2529_method_4_293 rfl rfl (pc' := 294) rfl ?_
      refine g_iload C d_jdk_2529_method_4_294 rfl (pc' := 296) rfl ?_
      refine g_iaload C (An3) (by first | decide | exact Nat.le_of_ble_eq_true rfl) (i := 29) rfl (by first | decide | exact Nat.le_of_ble_eq_true rfl) (v := (.int (0 : Int32))) (one_ne (by omega)) d_jdk_2529_method_4_296 (pc' := 297) rfl ?_
      refine g_if_icmpge C d_jdk_2529_method_4_297 (by decide) (pcT := 320) rfl (pcF := 300) rfl (fun _ => ?_) (fun zz_ => absurd zz_ (by first | decide | exact Nat.le_of_ble_eq_true rfl))
      refine g_iload C d_jdk_2529_method_4_320 rfl (pc' := 322) rfl ?_
      refine g_aload_n C d_jdk_2529_method_4_322 rfl rfl (pc' := 323) rfl ?_
      refine g_iload C d_jdk_2529_method_4_323 rfl (pc' := 325) rfl ?_
      refine g_iaload C (An3) (by first | decide | exact Nat.le_of_ble_eq_true rfl) (i := 29) rfl (by first | decide | exact Nat.le_of_ble_eq_true rfl) (v := (.int (0 : Int32))) (one_ne (by omega)) d_jdk_2529_method_4_325 (pc' := 326) rfl ?_
      refine g_if_icmpge C d_jdk_2529_method_4_326 (by decide) (pcT := 380) rfl (pcF := 329) rfl (fun _ => ?_) (fun zz_ => absurd zz_ (by first | decide | exact Nat.le_of_ble_eq_true rfl))
      refine g_iload C d_jdk_2529_method_4_380 rfl (pc' := 382) rfl ?_
      refine g_aload_n C d_jdk_2529_method_4_382 rfl rfl (pc' := 383) rfl ?_
      refine g_iload C d_jdk_2529_method_4_383 rfl (pc' := 385) rfl ?_
      refine g_iaload C (An3) (by first | decide | exact Nat.le_of_ble_eq_true rfl) (i := 35) rfl (by first | decide | exact Nat.le_of_ble_eq_true rfl) (v := (.int (0 : Int32))) (one_ne (by omega)) d_jdk_2529_method_4_385 (pc' := 386) rfl ?_
      refine g_if_icmple C d_jdk_2529_method_4_386 (by decide) (pcT := 437) rfl (pcF := 389) rfl (fun _ => ?_) (fun zz_ => absurd zz_ (by first | decide | exact Nat.le_of_ble_eq_true rfl))
      exact H437 _ _ 38 _ (by first | exact One.u | exact One.val rfl | assumption) (by omega) (by omega) (by omega) (by omega) (by omega) (by omega) An3
    · refine g_iaload C (A1) (by first | decide | exact Nat.le_of_ble_eq_true rfl) (i := 32) rfl (by first | decide | exact Nat.le_of_ble_eq_true rfl) (v := (.int y)) (one_eq rfl) d_jdk_2529_method_4_162 (pc' := 163) rfl ?_
      refine g_istore C d_jdk_2529_method_4_163 (Ls' := #[.val .null, .val (.ref a), .val (.int (6 : Int32)), .val (.int (0 : Int32)), .val (.int (66 : Int32)), .val (.int (65 : Int32)), .val (.int (66 : Int32)), .val (.int (27 : Int32)), .val (.int (27 : Int32)), .val (.int (38 : Int32)), .val (.int (32 : Int32)), .val (.int (29 : Int32)), .val (.int (35 : Int32)), .val (.int y), .unset, .unset, .unset, .unset, .unset, .unset, .unset]) rfl (pc' := 165) rfl ?_
      refine g_aload_n C d_jdk_2529_method_4_165 rfl rfl (pc' := 166) rfl ?_
      refine g_iload C d_jdk_2529_method_4_166 rfl (pc' := 168) rfl ?_
      refine g_iaload C (A1) (by first | decide | exact Nat.le_of_ble_eq_true rfl) (i := 38) rfl (by first | decide | exact Nat.le_of_ble_eq_true rfl) (v := (.int (0 : Int32))) (one_ne (by omega)) d_jdk_2529_method_4_168 (pc' := 169) rfl ?_
      refine g_aload_n C d_jdk_2529_method_4_169 rfl rfl (pc' := 170) rfl ?_
      refine g_iload C d_jdk_2529_method_4_170 rfl (pc' := 172) rfl ?_
      refine g_iaload C (A1) (by first | decide | exact Nat.le_of_ble_eq_true rfl) (i := 29) rfl (by first | decide | exact Nat.le_of_ble_eq_true rfl) (v := (.int (0 : Int32))) (one_ne (by omega)) d_jdk_2529_method_4_172 (pc' := 173) rfl ?_
      refine g_if_icmpge C d_jdk_2529_method_4_173 (by decide) (pcT := 196) rfl (pcF := 176) rfl (fun _ => ?_) (fun zz_ => absurd zz_ (by first | decide | exact Nat.le_of_ble_eq_true rfl))
      refine g_aload_n C d_jdk_2529_method_4_196 rfl rfl (pc' := 197) rfl ?_
      refine g_iload C d_jdk_2529_method_4_197 rfl (pc' := 199) rfl ?_
      refine g_iaload C (A1) (by first | decide | exact Nat.le_of_ble_eq_true rfl) (i := 35) rfl (by first | decide | exact Nat.le_of_ble_eq_true rfl) (v := (.int (0 : Int32))) (one_ne (by omega)) d_jdk_2529_method_4_199 (pc' := 200) rfl ?_
      refine g_aload_n C d_jdk_2529_method_4_200 rfl rfl (pc' := 201) rfl ?_
      refine g_iload C d_jdk_2529_method_4_201 rfl (pc' := 203) rfl ?_
      refine g_iaload C (A1) (by first | decide | exact Nat.le_of_ble_eq_true rfl) (i := 27) rfl (by first | decide | exact Nat.le_of_ble_eq_true rfl) (v := (.int (0 : Int32))) (one_ne (by omega)) d_jdk_2529_method_4_203 (pc' := 204) rfl ?_
      refine g_if_icmpge C d_jdk_2529_method_4_204 (by decide) (pcT := 227) rfl (pcF := 207) rfl (fun _ => ?_) (fun zz_ => absurd zz_ (by first | decide | exact Nat.le_of_ble_eq_true rfl))
      refine g_aload_n C d_jdk_2529_method_4_227 rfl rfl (pc' := 228) rfl ?_
      refine g_iload C d_jdk_2529_method_4_228 rfl (pc' := 230) rfl ?_
      refine g_iaload C (A1) (by first | decide | exact Nat.le_of_ble_eq_true rfl) (i := 38) rfl (by first | decide | exact Nat.le_of_ble_eq_true rfl) (v := (.int (0 : Int32))) (one_ne (by omega)) d_jdk_2529_method_4_230 (pc' := 231) rfl ?_
      refine g_aload_n C d_jdk_2529_method_4_231 rfl rfl (pc' := 232) rfl ?_
      refine g_iload C d_jdk_2529_method_4_232 rfl (pc' := 234) rfl ?_
      refine g_iaload C (A1) (by first | decide | exact Nat.le_of_ble_eq_true rfl) (i := 35) rfl (by first | decide | exact Nat.le_of_ble_eq_true rfl) (v := (.int (0 : Int32))) (one_ne (by omega)) d_jdk_2529_method_4_234 (pc' := 235) rfl ?_
      refine g_if_icmpge C d_jdk_2529_method_4_235 (by decide) (pcT := 258) rfl (pcF := 238) rfl (fun _ => ?_) (fun zz_ => absurd zz_ (by first | decide | exact Nat.le_of_ble_eq_true rfl))
      refine g_aload_n C d_jdk_2529_method_4_258 rfl rfl (pc' := 259) rfl ?_
      refine g_iload C d_jdk_2529_method_4_259 rfl (pc' := 261) rfl ?_
      refine g_iaload C (A1) (by first | decide | exact Nat.le_of_ble_eq_true rfl) (i := 29) rfl (by first | decide | exact Nat.le_of_ble_eq_true rfl) (v := (.int (0 : Int32))) (one_ne (by omega)) d_jdk_2529_method_4_261 (pc' := 262) rfl ?_
      refine g_aload_n C d_jdk_2529_method_4_262 rfl rfl (pc' := 263) rfl ?_
      refine g_iload C d_jdk_2529_method_4_263 rfl (pc' := 265) rfl ?_
      refine g_iaload C (A1) (by first | decide | exact Nat.le_of_ble_eq_true rfl) (i := 27) rfl (by first | decide | exact Nat.le_of_ble_eq_true rfl) (v := (.int (0 : Int32))) (one_ne (by omega)) d_jdk_2529_method_4_265 (pc' := 266) rfl ?_
      refine g_if_icmpge C d_jdk_2529_method_4_266 (by decide) (pcT := 289) rfl (pcF := 269) rfl (fun _ => ?_) (fun zz_ => absurd zz_ (by first | decide | exact Nat.le_of_ble_eq_true rfl))
      refine g_aload_n C d_jdk_2529_method_4_289 rfl rfl (pc' := 290) rfl ?_
      refine g_iload C d_jdk_2529_method_4_290 rfl (pc' := 292) rfl ?_
      refine g_iaload C (A1) (by first | decide | exact Nat.le_of_ble_eq_true rfl) (i := 35) rfl (by first | decide | exact Nat.le_of_ble_eq_true rfl) (v := (.int (0 : Int32))) (one_ne (by omega)) d_jdk_2529_method_4_292 (pc' := 293) rfl ?_
      refine g_aload_n C d_jdk_2529_method_4_293 rfl rfl (pc' := 294) rfl ?_
      refine g_iload C d_jdk_2529_method_4_294 rfl (pc' := 296) rfl ?_
      refine g_iaload C (A1) (by first | decide | exact Nat.le_of_ble_eq_true rfl) (i := 29) rfl (by first | decide | exact Nat.le_of_ble_eq_true rfl) (v := (.int (0 : Int32))) (one_ne (by omega)) d_jdk_2529_method_4_296 (pc' := 297) rfl ?_
      refine g_if_icmpge C d_jdk_2529_method_4_297 (by decide) (pcT := 320) rfl (pcF := 300) rfl (fun _ => ?_) (fun zz_ => absurd zz_ (by first | decide | exact Nat.le_of_ble_eq_true rfl))
      refine g_iload C d_jdk_2529_method_4_320 rfl (pc' := 322) rfl ?_
      refine g_aload_n C d_jdk_2529_method_4_322 rfl rfl (pc' := 323) rfl ?_
      refine g_iload C d_jdk_2529_method_4_323 rfl (pc' := 325) rfl ?_
      refine g_iaload C (A1) (by first | decide | exact Nat.le_of_ble_eq_true rfl) (i := 29) rfl (by first | decide | exact Nat.le_of_ble_eq_true rfl) (v := (.int (0 : Int32))) (one_ne (by omega)) d_jdk_2529_method_4_325 (pc' := 326) rfl ?_
      refine g_if_icmpge C d_jdk_2529_method_4_326 (by decide) (pcT := 380) rfl (pcF := 329) rfl (fun _ => ?_) (fun zz_ => absurd zz_ (ny))
      refine g_iload C d_jdk_2529_method_4_380 rfl (pc' := 382) rfl ?_
      refine g_aload_n C d_jdk_2529_method_4_382 rfl rfl (pc' := 383) rfl ?_
      refine g_iload C d_jdk_2529_method_4_383 rfl (pc' := 385) rfl ?_
      refine g_iaload C (A1) (by first | decide | exact Nat.le_of_ble_eq_true rfl) (i := 35) rfl (by first | decide | exact Nat.le_of_ble_eq_true rfl) (v := (.int (0 : Int32))) (one_ne (by omega)) d_jdk_2529_method_4_385 (pc' := 386) rfl ?_
      refine g_if_icmple C d_jdk_2529_method_4_386 (by decide) (pcT := 437) rfl (pcF := 389) rfl (fun zz_ => absurd (hy) zz_) (fun _ => ?_)
      refine g_iload C d_jdk_2529_method_4_389 rfl (pc' := 391) rfl ?_
      refine g_aload_n C d_jdk_2529_method_4_391 rfl rfl (pc' := 392) rfl ?_
      refine g_iload C d_jdk_2529_method_4_392 rfl (pc' := 394) rfl ?_
      refine g_iaload C (A1) (by first | decide | exact Nat.le_of_ble_eq_true rfl) (i := 38) rfl (by first | decide | exact Nat.le_of_ble_eq_true rfl) (v := (.int (0 : Int32))) (one_ne (by omega)) d_jdk_2529_method_4_394 (pc' := 395) rfl ?_
      refine g_if_icmple C d_jdk_2529_method_4_395 (by decide) (pcT := 423) rfl (pcF := 398) rfl (fun zz_ => absurd (hy) zz_) (fun _ => ?_)
      refine g_aload_n C d_jdk_2529_method_4_398 rfl rfl (pc' := 399) rfl ?_
      refine g_iload C d_jdk_2529_method_4_399 rfl (pc' := 401) rfl ?_
      refine g_aload_n C d_jdk_2529_method_4_401 rfl rfl (pc' := 402) rfl ?_
      refine g_iload C d_jdk_2529_method_4_402 rfl (pc' := 404) rfl ?_
      refine g_iaload C (A1) (by first | decide | exact Nat.le_of_ble_eq_true rfl) (i := 35) rfl (by first | decide | exact Nat.le_of_ble_eq_true rfl) (v := (.int (0 : Int32))) (one_ne (by omega)) d_jdk_2529_method_4_404 (pc' := 405) rfl ?_
      refine g_iastore C (A1) (by first | decide | exact Nat.le_of_ble_eq_true rfl) (i := 32) rfl (by first | decide | exact Nat.le_of_ble_eq_true rfl) (Or.inl (List.mem_cons_self ..)) d_jdk_2529_method_4_405 (pc' := 406) rfl ?_
      intro eb Vb Bb
      refine g_aload_n C d_jdk_2529_method_4_406 rfl rfl (pc' := 407) rfl ?_
      refine g_iload C d_jdk_2529_method_4_407 rfl (pc' := 409) rfl ?_
      refine g_aload_n C d_jdk_2529_method_4_409 rfl rfl (pc' := 410) rfl ?_
      refine g_iload C d_jdk_2529_method_4_410 rfl (pc' := 412) rfl ?_
      refine g_iaload C (Bb) (by first | decide | exact Nat.le_of_ble_eq_true rfl) (i := 38) rfl (by first | decide | exact Nat.le_of_ble_eq_true rfl) (v := (.int (0 : Int32))) ((upd_other (by first | decide | exact Nat.le_of_ble_eq_true rfl)).trans (one_ne (by first | decide | exact Nat.le_of_ble_eq_true rfl))) d_jdk_2529_method_4_412 (pc' := 413) rfl ?_
      refine g_iastore C (Bb) (by first | decide | exact Nat.le_of_ble_eq_true rfl) (i := 35) rfl (by first | decide | exact Nat.le_of_ble_eq_true rfl) (Or.inl (List.mem_cons_self ..)) d_jdk_2529_method_4_413 (pc' := 414) rfl ?_
      intro eb2 Vb2 Bb2
      refine g_aload_n C d_jdk_2529_method_4_414 rfl rfl (pc' := 415) rfl ?_
      refine g_iload C d_jdk_2529_method_4_415 rfl (pc' := 417) rfl ?_
      refine g_iload C d_jdk_2529_method_4_417 rfl (pc' := 419) rfl ?_
      refine g_iastore C (Bb2) (by first | decide | exact Nat.le_of_ble_eq_true rfl) (i := 38) rfl (by first | decide | exact Nat.le_of_ble_eq_true rfl) (Or.inl (List.mem_cons_self ..)) d_jdk_2529_method_4_419 (pc' := 420) rfl ?_
      intro eb3 Vb3 Bb3
      have Ab : Af Z eb3 a .int 66 (one 38 y) := Bb3.to fun t ht => by
        by_cases z : t = 38
        · rw [z, upd_same, one_eq rfl]
        · rw [upd_other z, one_ne z]
          by_cases z2 : t = 35
          · rw [z2, upd_same]
          · rw [upd_other z2]
            by_cases z3 : t = 32
            · rw [z3, upd_same]
            · rw [upd_other z3, one_ne z3]
      refine g_goto C d_jdk_2529_method_4_420 (by decide) (pc' := 437) rfl ?_
      exact H437 _ _ 38 _ (by first | exact One.u | exact One.val rfl | assumption) (by omega) (by omega) (by omega) (by omega) (by omega) (by omega) Ab
    · refine g_iaload C (A1) (by first | decide | exact Nat.le_of_ble_eq_true rfl) (i := 32) rfl (by first | decide | exact Nat.le_of_ble_eq_true rfl) (v := (.int (0 : Int32))) (one_ne (by omega)) d_jdk_2529_method_4_162 (pc' := 163) rfl ?_
      refine g_istore C d_jdk_2529_method_4_163 (Ls' := #[.val .null, .val (.ref a), .val (.int (6 : Int32)), .val (.int (0 : Int32)), .val (.int (66 : Int32)), .val (.int (65 : Int32)), .val (.int (66 : Int32)), .val (.int (27 : Int32)), .val (.int (27 : Int32)), .val (.int (38 : Int32)), .val (.int (32 : Int32)), .val (.int (29 : Int32)), .val (.int (35 : Int32)), .val (.int (0 : Int32)), .unset, .unset, .unset, .unset, .unset, .unset, .unset]) rfl (pc' := 165) rfl ?_
      refine g_aload_n C d_jdk_2529_method_4_165 rfl rfl (pc' := 166) rfl ?_
      refine g_iload C d_jdk_2529_method_4_166 rfl (pc' := 168) rfl ?_
      refine g_iaload C (A1) (by first | decide | exact Nat.le_of_ble_eq_true rfl) (i := 38) rfl (by first | decide | exact Nat.le_of_ble_eq_true rfl) (v := (.int (0 : Int32))) (one_ne (by omega)) d_jdk_2529_method_4_168 (pc' := 169) rfl ?_
      refine g_aload_n C d_jdk_2529_method_4_169 rfl rfl (pc' := 170) rfl ?_
      refine g_iload C d_jdk_2529_method_4_170 rfl (pc' := 172) rfl ?_
      refine g_iaload C (A1) (by first | decide | exact Nat.le_of_ble_eq_true rfl) (i := 29) rfl (by first | decide | exact Nat.le_of_ble_eq_true rfl) (v := (.int (0 : Int32))) (one_ne (by omega)) d_jdk_2529_method_4_172 (pc' := 173) rfl ?_
      refine g_if_icmpge C d_jdk_2529_method_4_173 (by decide) (pcT := 196) rfl (pcF := 176) rfl (fun _ => ?_) (fun zz_ => absurd zz_ (by first | decide | exact Nat.le_of_ble_eq_true rfl))
      refine g_aload_n C d_jdk_2529_method_4_196 rfl rfl (pc' := 197) rfl ?_
      refine g_iload C d_jdk_2529_method_4_197 rfl (pc' := 199) rfl ?_
      refine g_iaload C (A1) (by first | decide | exact Nat.le_of_ble_eq_true rfl) (i := 35) rfl (by first | decide | exact Nat.le_of_ble_eq_true rfl) (v := (.int y)) (one_eq rfl) d_jdk_2529_method_4_199 (pc' := 200) rfl ?_
      refine g_aload_n C d_jdk_2529_method_4_200 rfl rfl (pc' := 201) rfl ?_
      refine g_iload C d_jdk_2529_method_4_201 rfl (pc' := 203) rfl ?_
      refine g_iaload C (A1) (by first | decide | exact Nat.le_of_ble_eq_true rfl) (i := 27) rfl (by first | decide | exact Nat.le_of_ble_eq_true rfl) (v := (.int (0 : Int32))) (one_ne (by omega)) d_jdk_2529_method_4_203 (pc' := 204) rfl ?_
      refine g_if_icmpge C d_jdk_2529_method_4_204 (by decide) (pcT := 227) rfl (pcF := 207) rfl (fun _ => ?_) (fun zz_ => absurd zz_ (ny))
      refine g_aload_n C d_jdk_2529_method_4_227 rfl rfl (pc' := 228) rfl ?_
      refine g_iload C d_jdk_2529_method_4_228 rfl (pc' := 230) rfl ?_
      refine g_iaload C (A1) (by first | decide | exact Nat.le_of_ble_eq_true rfl) (i := 38) rfl (by first | decide | exact Nat.le_of_ble_eq_true rfl) (v := (.int (0 : Int32))) (one_ne (by omega)) d_jdk_2529_method_4_230 (pc' := 231) rfl ?_
      refine g_aload_n C d_jdk_2529_method_4_231 rfl rfl (pc' := 232) rfl ?_
      refine g_iload C d_jdk_2529_method_4_232 rfl (pc' := 234) rfl ?_
      refine g_iaload C (A1) (by first | decide | exact Nat.le_of_ble_eq_true rfl) (i := 35) rfl (by first | decide | exact Nat.le_of_ble_eq_true rfl) (v := (.int y)) (one_eq rfl) d_jdk_2529_method_4_234 (pc' := 235) rfl ?_
      refine g_if_icmpge C d_jdk_2529_method_4_235 (by decide) (pcT := 258) rfl (pcF := 238) rfl (fun zz_ => absurd (hy) zz_) (fun _ => ?_)
      refine g_aload_n C d_jdk_2529_method_4_238 rfl rfl (pc' := 239) rfl ?_
      refine g_iload C d_jdk_2529_method_4_239 rfl (pc' := 241) rfl ?_
      refine g_iaload C (A1) (by first | decide | exact Nat.le_of_ble_eq_true rfl) (i := 38) rfl (by first | decide | exact Nat.le_of_ble_eq_true rfl) (v := (.int (0 : Int32))) (one_ne (by omega)) d_jdk_2529_method_4_241 (pc' := 242) rfl ?_
      refine g_istore C d_jdk_2529_method_4_242 (Ls' := #[.val .null, .val (.ref a), .val (.int (6 : Int32)), .val (.int (0 : Int32)), .val (.int (66 : Int32)), .val (.int (65 : Int32)), .val (.int (66 : Int32)), .val (.int (27 : Int32)), .val (.int (27 : Int32)), .val (.int (38 : Int32)), .val (.int (32 : Int32)), .val (.int (29 : Int32)), .val (.int (35 : Int32)), .val (.int (0 : Int32)), .val (.int (0 : Int32)), .unset, .unset, .unset, .unset, .unset, .unset]) rfl (pc' := 244) rfl ?_
      refine g_aload_n C d_jdk_2529_method_4_244 rfl rfl (pc' := 245) rfl ?_
      refine g_iload C d_jdk_2529_method_4_245 rfl (pc' := 247) rfl ?_
      refine g_aload_n C d_jdk_2529_method_4_247 rfl rfl (pc' := 248) rfl ?_
      refine g_iload C d_jdk_2529_method_4_248 rfl (pc' := 250) rfl ?_
      refine g_iaload C (A1) (by first | decide | exact Nat.le_of_ble_eq_true rfl) (i := 35) rfl (by first | decide | exact Nat.le_of_ble_eq_true rfl) (v := (.int y)) (one_eq rfl) d_jdk_2529_method_4_250 (pc' := 251) rfl ?_
      refine g_iastore C (A1) (by first | decide | exact Nat.le_of_ble_eq_true rfl) (i := 38) rfl (by first | decide | exact Nat.le_of_ble_eq_true rfl) (Or.inl (List.mem_cons_self ..)) d_jdk_2529_method_4_251 (pc' := 252) rfl ?_
      intro en4 Vn4 Bn4
      refine g_aload_n C d_jdk_2529_method_4_252 rfl rfl (pc' := 253) rfl ?_
      refine g_iload C d_jdk_2529_method_4_253 rfl (pc' := 255) rfl ?_
      refine g_iload C d_jdk_2529_method_4_255 rfl (pc' := 257) rfl ?_
      refine g_iastore C (Bn4) (by first | decide | exact Nat.le_of_ble_eq_true rfl) (i := 35) rfl (by first | decide | exact Nat.le_of_ble_eq_true rfl) (Or.inl (List.mem_cons_self ..)) d_jdk_2529_method_4_257 (pc' := 258) rfl ?_
      intro gn4 Un4 Dn4
      have An4 : Af Z gn4 a .int 66 (one 38 y) := Dn4.to fun t ht => by
        by_cases z : t = 35
        · rw [z, upd_same, one_ne (by first | decide | exact Nat.le_of_ble_eq_true rfl)]
        · rw [upd_other z]
          by_cases z2 : t = 38
          · rw [z2, upd_same, one_eq rfl]
          · rw [upd_other z2, one_ne z, one_ne z2]
      refine g_aload_n C d_jdk_2529_method_4_258 rfl rfl (pc' := 259) rfl ?_
      refine g_iload C d_jdk_2529_method_4_259 rfl (pc' := 261) rfl ?_
      refine g_iaload C (An4) (by first | decide | exact Nat.le_of_ble_eq_true rfl) (i := 29) rfl (by first | decide | exact Nat.le_of_ble_eq_true rfl) (v := (.int (0 : Int32))) (one_ne (by omega)) d_jdk_2529_method_4_261 (pc' := 262) rfl ?_
      refine g_aload_n C d_jdk_2529_method_4_262 rfl rfl (pc' := 263) rfl ?_
      refine g_iload C d_jdk_2529_method_4_263 rfl (pc' := 265) rfl ?_
      refine g_iaload C (An4) (by first | decide | exact Nat.le_of_ble_eq_true rfl) (i := 27) rfl (by first | decide | exact Nat.le_of_ble_eq_true rfl) (v := (.int (0 : Int32))) (one_ne (by omega)) d_jdk_2529_method_4_265 (pc' := 266) rfl ?_
      refine g_if_icmpge C d_jdk_2529_method_4_266 (by decide) (pcT := 289) rfl (pcF := 269) rfl (fun _ => ?_) (fun zz_ => absurd zz_ (by first | decide | exact Nat.le_of_ble_eq_true rfl))
      refine g_aload_n C d_jdk_2529_method_4_289 rfl rfl (pc' := 290) rfl ?_
      refine g_iload C d_jdk_2529_method_4_290 rfl (pc' := 292) rfl ?_
      refine g_iaload C (An4) (by first | decide | exact Nat.le_of_ble_eq_true rfl) (i := 35) rfl (by first | decide | exact Nat.le_of_ble_eq_true rfl) (v := (.int (0 : Int32))) (one_ne (by omega)) d_jdk_2529_method_4_292 (pc' := 293) rfl ?_
      refine g_aload_n C d_jdk_2529_method_4_293 rfl rfl (pc' := 294) rfl ?_
      refine g_iload C d_jdk_2529_method_4_294 rfl (pc' := 296) rfl ?_
      refine g_iaload C (An4) (by first | decide | exact Nat.le_of_ble_eq_true rfl) (i := 29) rfl (by first | decide | exact Nat.le_of_ble_eq_true rfl) (v := (.int (0 : Int32))) (one_ne (by omega)) d_jdk_2529_method_4_296 (pc' := 297) rfl ?_
      refine g_if_icmpge C d_jdk_2529_method_4_297 (by decide) (pcT := 320) rfl (pcF := 300) rfl (fun _ => ?_) (fun zz_ => absurd zz_ (by first | decide | exact Nat.le_of_ble_eq_true rfl))
      refine g_iload C d_jdk_2529_method_4_320 rfl (pc' := 322) rfl ?_
      refine g_aload_n C d_jdk_2529_method_4_322 rfl rfl (pc' := 323) rfl ?_
      refine g_iload C d_jdk_2529_method_4_323 rfl (pc' := 325) rfl ?_
      refine g_iaload C (An4) (by first | decide | exact Nat.le_of_ble_eq_true rfl) (i := 29) rfl (by first | decide | exact Nat.le_of_ble_eq_true rfl) (v := (.int (0 : Int32))) (one_ne (by omega)) d_jdk_2529_method_4_325 (pc' := 326) rfl ?_
      refine g_if_icmpge C d_jdk_2529_method_4_326 (by decide) (pcT := 380) rfl (pcF := 329) rfl (fun _ => ?_) (fun zz_ => absurd zz_ (by first | decide | exact Nat.le_of_ble_eq_true rfl))
      refine g_iload C d_jdk_2529_method_4_380 rfl (pc' := 382) rfl ?_
      refine g_aload_n C d_jdk_2529_method_4_382 rfl rfl (pc' := 383) rfl ?_
      refine g_iload C d_jdk_2529_method_4_383 rfl (pc' := 385) rfl ?_
      refine g_iaload C (An4) (by first | decide | exact Nat.le_of_ble_eq_true rfl) (i := 35) rfl (by first | decide | exact Nat.le_of_ble_eq_true rfl) (v := (.int (0 : Int32))) (one_ne (by omega)) d_jdk_2529_method_4_385 (pc' := 386) rfl ?_
      refine g_if_icmple C d_jdk_2529_method_4_386 (by decide) (pcT := 437) rfl (pcF := 389) rfl (fun _ => ?_) (fun zz_ => absurd zz_ (by first | decide | exact Nat.le_of_ble_eq_true rfl))
      exact H437 _ _ 38 _ (by first | exact One.u | exact One.val rfl | assumption) (by omega) (by omega) (by omega) (by omega) (by omega) (by omega) An4
    · refine g_iaload C (A1) (by first | decide | exact Nat.le_of_ble_eq_true rfl) (i := 32) rfl (by first | decide | exact Nat.le_of_ble_eq_true rfl) (v := (.int (0 : Int32))) (one_ne (by omega)) d_jdk_2529_method_4_162 (pc' := 163) rfl ?_
      refine g_istore C d_jdk_2529_method_4_163 (Ls' := #[.val .null, .val (.ref a), .val (.int (6 : Int32)), .val (.int (0 : Int32)), .val (.int (66 : Int32)), .val (.int (65 : Int32)), .val (.int (66 : Int32)), .val (.int (27 : Int32)), .val (.int (27 : Int32)), .val (.int (38 : Int32)), .val (.int (32 : Int32)), .val (.int (29 : Int32)), .val (.int (35 : Int32)), .val (.int (0 : Int32)), .unset, .unset, .unset, .unset, .unset, .unset, .unset]) rfl (pc' := 165) rfl ?_
      refine g_aload_n C d_jdk_2529_method_4_165 rfl rfl (pc' := 166) rfl ?_
      refine g_iload C d_jdk_2529_method_4_166 rfl (pc' := 168) rfl ?_
      refine g_iaload C (A1) (by first | decide | exact Nat.le_of_ble_eq_true rfl) (i := 38) rfl (by first | decide | exact Nat.le_of_ble_eq_true rfl) (v := (.int y)) (one_eq rfl) d_jdk_2529_method_4_168 (pc' := 169) rfl ?_
      refine g_aload_n C d_jdk_2529_method_4_169 rfl rfl (pc' := 170) rfl ?_
      refine g_iload C d_jdk_2529_method_4_170 rfl (pc' := 172) rfl ?_
      refine g_iaload C (A1) (by first | decide | exact Nat.le_of_ble_eq_true rfl) (i := 29) rfl (by first | decide | exact Nat.le_of_ble_eq_true rfl) (v := (.int (0 : Int32))) (one_ne (by omega)) d_jdk_2529_method_4_172 (pc' := 173) rfl ?_
      refine g_if_icmpge C d_jdk_2529_method_4_173 (by decide) (pcT := 196) rfl (pcF := 176) rfl (fun _ => ?_) (fun zz_ => absurd zz_ (ny))
      refine g_aload_n C d_jdk_2529_method_4_196 rfl rfl (pc' := 197) rfl ?_
      refine g_iload C d_jdk_2529_method_4_197 rfl (pc' := 199) rfl ?_
      refine g_iaload C (A1) (by first | decide | exact Nat.le_of_ble_eq_true rfl) (i := 35) rfl (by first | decide | exact Nat.le_of_ble_eq_true rfl) (v := (.int (0 : Int32))) (one_ne (by omega)) d_jdk_2529_method_4_199 (pc' := 200) rfl ?_
      refine g_aload_n C d_jdk_2529_method_4_200 rfl rfl (pc' := 201) rfl ?_
      refine g_iload C d_jdk_2529_method_4_201 rfl (pc' := 203) rfl ?_
      refine g_iaload C (A1) (by first | decide | exact Nat.le_of_ble_eq_true rfl) (i := 27) rfl (by first | decide | exact Nat.le_of_ble_eq_true rfl) (v := (.int (0 : Int32))) (one_ne (by omega)) d_jdk_2529_method_4_203 (pc' := 204) rfl ?_
      refine g_if_icmpge C d_jdk_2529_method_4_204 (by decide) (pcT := 227) rfl (pcF := 207) rfl (fun _ => ?_) (fun zz_ => absurd zz_ (by first | decide | exact Nat.le_of_ble_eq_true rfl))
      refine g_aload_n C d_jdk_2529_method_4_227 rfl rfl (pc' := 228) rfl ?_
      refine g_iload C d_jdk_2529_method_4_228 rfl (pc' := 230) rfl ?_
      refine g_iaload C (A1) (by first | decide | exact Nat.le_of_ble_eq_true rfl) (i := 38) rfl (by first | decide | exact Nat.le_of_ble_eq_true rfl) (v := (.int y)) (one_eq rfl) d_jdk_2529_method_4_230 (pc' := 231) rfl ?_
      refine g_aload_n C d_jdk_2529_method_4_231 rfl rfl (pc' := 232) rfl ?_
      refine g_iload C d_jdk_2529_method_4_232 rfl (pc' := 234) rfl ?_
      refine g_iaload C (A1) (by first | decide | exact Nat.le_of_ble_eq_true rfl) (i := 35) rfl (by first | decide | exact Nat.le_of_ble_eq_true rfl) (v := (.int (0 : Int32))) (one_ne (by omega)) d_jdk_2529_method_4_234 (pc' := 235) rfl ?_
      refine g_if_icmpge C d_jdk_2529_method_4_235 (by decide) (pcT := 258) rfl (pcF := 238) rfl (fun _ => ?_) (fun zz_ => absurd zz_ (ny))
      refine g_aload_n C d_jdk_2529_method_4_258 rfl rfl (pc' := 259) rfl ?_
      refine g_iload C d_jdk_2529_method_4_259 rfl (pc' := 261) rfl ?_
      refine g_iaload C (A1) (by first | decide | exact Nat.le_of_ble_eq_true rfl) (i := 29) rfl (by first | decide | exact Nat.le_of_ble_eq_true rfl) (v := (.int (0 : Int32))) (one_ne (by omega)) d_jdk_2529_method_4_261 (pc' := 262) rfl ?_
      refine g_aload_n C d_jdk_2529_method_4_262 rfl rfl (pc' := 263) rfl ?_
      refine g_iload C d_jdk_2529_method_4_263 rfl (pc' := 265) rfl ?_
      refine g_iaload C (A1) (by first | decide | exact Nat.le_of_ble_eq_true rfl) (i := 27) rfl (by first | decide | exact Nat.le_of_ble_eq_true rfl) (v := (.int (0 : Int32))) (one_ne (by omega)) d_jdk_2529_method_4_265 (pc' := 266) rfl ?_
      refine g_if_icmpge C d_jdk_2529_method_4_266 (by decide) (pcT := 289) rfl (pcF := 269) rfl (fun _ => ?_) (fun zz_ => absurd zz_ (by first | decide | exact Nat.le_of_ble_eq_true rfl))
      refine g_aload_n C d_jdk_2529_method_4_289 rfl rfl (pc' := 290) rfl ?_
      refine g_iload C d_jdk_2529_method_4_290 rfl (pc' := 292) rfl ?_
      refine g_iaload C (A1) (by first | decide | exact Nat.le_of_ble_eq_true rfl) (i := 35) rfl (by first | decide | exact Nat.le_of_ble_eq_true rfl) (v := (.int (0 : Int32))) (one_ne (by omega)) d_jdk_2529_method_4_292 (pc' := 293) rfl ?_
      refine g_aload_n C d_jdk_2529_method_4_293 rfl rfl (pc' := 294) rfl ?_
      refine g_iload C d_jdk_2529_method_4_294 rfl (pc' := 296) rfl ?_
      refine g_iaload C (A1) (by first | decide | exact Nat.le_of_ble_eq_true rfl) (i := 29) rfl (by first | decide | exact Nat.le_of_ble_eq_true rfl) (v := (.int (0 : Int32))) (one_ne (by omega)) d_jdk_2529_method_4_296 (pc' := 297) rfl ?_
      refine g_if_icmpge C d_jdk_2529_method_4_297 (by decide) (pcT := 320) rfl (pcF := 300) rfl (fun _ => ?_) (fun zz_ => absurd zz_ (by first | decide | exact Nat.le_of_ble_eq_true rfl))
      refine g_iload C d_jdk_2529_method_4_320 rfl (pc' := 322) rfl ?_
      refine g_aload_n C d_jdk_2529_method_4_322 rfl rfl (pc' := 323) rfl ?_
      refine g_iload C d_jdk_2529_method_4_323 rfl (pc' := 325) rfl ?_
      refine g_iaload C (A1) (by first | decide | exact Nat.le_of_ble_eq_true rfl) (i := 29) rfl (by first | decide | exact Nat.le_of_ble_eq_true rfl) (v := (.int (0 : Int32))) (one_ne (by omega)) d_jdk_2529_method_4_325 (pc' := 326) rfl ?_
      refine g_if_icmpge C d_jdk_2529_method_4_326 (by decide) (pcT := 380) rfl (pcF := 329) rfl (fun _ => ?_) (fun zz_ => absurd zz_ (by first | decide | exact Nat.le_of_ble_eq_true rfl))
      refine g_iload C d_jdk_2529_method_4_380 rfl (pc' := 382) rfl ?_
      refine g_aload_n C d_jdk_2529_method_4_382 rfl rfl (pc' := 383) rfl ?_
      refine g_iload C d_jdk_2529_method_4_383 rfl (pc' := 385) rfl ?_
      refine g_iaload C (A1) (by first | decide | exact Nat.le_of_ble_eq_true rfl) (i := 35) rfl (by first | decide | exact Nat.le_of_ble_eq_true rfl) (v := (.int (0 : Int32))) (one_ne (by omega)) d_jdk_2529_method_4_385 (pc' := 386) rfl ?_
      refine g_if_icmple C d_jdk_2529_method_4_386 (by decide) (pcT := 437) rfl (pcF := 389) rfl (fun _ => ?_) (fun zz_ => absurd zz_ (by first | decide | exact Nat.le_of_ble_eq_true rfl))
      exact H437 _ _ 38 _ (by first | exact One.u | exact One.val rfl | assumption) (by omega) (by omega) (by omega) (by omega) (by omega) (by omega) A1
    · refine g_iaload C (A1) (by first | decide | exact Nat.le_of_ble_eq_true rfl) (i := 32) rfl (by first | decide | exact Nat.le_of_ble_eq_true rfl) (v := (.int (0 : Int32))) (one_ne (by omega)) d_jdk_2529_method_4_162 (pc' := 163) rfl ?_
      refine g_istore C d_jdk_2529_method_4_163 (Ls' := #[.val .null, .val (.ref a), .val (.int (6 : Int32)), .val (.int (0 : Int32)), .val (.int (66 : Int32)), .val (.int (65 : Int32)), .val (.int (66 : Int32)), .val (.int (27 : Int32)), .val (.int (27 : Int32)), .val (.int (38 : Int32)), .val (.int (32 : Int32)), .val (.int (29 : Int32)), .val (.int (35 : Int32)), .val (.int (0 : Int32)), .unset, .unset, .unset, .unset, .unset, .unset, .unset]) rfl (pc' := 165) rfl ?_
      refine g_aload_n C d_jdk_2529_method_4_165 rfl rfl (pc' := 166) rfl ?_
      refine g_iload C d_jdk_2529_method_4_166 rfl (pc' := 168) rfl ?_
      refine g_iaload C (A1) (by first | decide | exact Nat.le_of_ble_eq_true rfl) (i := 38) rfl (by first | decide | exact Nat.le_of_ble_eq_true rfl) (v := (.int (0 : Int32))) (one_ne (by omega)) d_jdk_2529_method_4_168 (pc' := 169) rfl ?_
      refine g_aload_n C d_jdk_2529_method_4_169 rfl rfl (pc' := 170) rfl ?_
      refine g_iload C d_jdk_2529_method_4_170 rfl (pc' := 172) rfl ?_
      refine g_iaload C (A1) (by first | decide | exact Nat.le_of_ble_eq_true rfl) (i := 29) rfl (by first | decide | exact Nat.le_of_ble_eq_true rfl) (v := (.int (0 : Int32))) (one_ne (by omega)) d_jdk_2529_method_4_172 (pc' := 173) rfl ?_
      refine g_if_icmpge C d_jdk_2529_method_4_173 (by decide) (pcT := 196) rfl (pcF := 176) rfl (fun _ => ?_) (fun zz_ => absurd zz_ (by first | decide | exact Nat.le_of_ble_eq_true rfl))
      refine g_aload_n C d_jdk_2529_method_4_196 rfl rfl (pc' := 197) rfl ?_
      refine g_iload C d_jdk_2529_method_4_197 rfl (pc' := 199) rfl ?_
      refine g_iaload C (A1) (by first | decide | exact Nat.le_of_ble_eq_true rfl) (i := 35) rfl (by first | decide | exact Nat.le_of_ble_eq_true rfl) (v := (.int (0 : Int32))) (one_ne (by omega)) d_jdk_2529_method_4_199 (pc' := 200) rfl ?_
      refine g_aload_n C d_jdk_2529_method_4_200 rfl rfl (pc' := 201) rfl ?_
      refine g_iload C d_jdk_2529_method_4_201 rfl (pc' := 203) rfl ?_
      refine g_iaload C (A1) (by first | decide | exact Nat.le_of_ble_eq_true rfl) (i := 27) rfl (by first | decide | exact Nat.le_of_ble_eq_true rfl) (v := (.int (0 : Int32))) (one_ne (by omega)) d_jdk_2529_method_4_203 (pc' := 204) rfl ?_
      refine g_if_icmpge C d_jdk_2529_method_4_204 (by decide) (pcT := 227) rfl (pcF := 207) rfl (fun _ => ?_) (fun zz_ => absurd zz_ (by first | decide | exact Nat.le_of_ble_eq_true rfl))
      refine g_aload_n C d_jdk_2529_method_4_227 rfl rfl (pc' := 228) rfl ?_
      refine g_iload C d_jdk_2529_method_4_228 rfl (pc' := 230) rfl ?_
      refine g_iaload C (A1) (by first | decide | exact Nat.le_of_ble_eq_true rfl) (i := 38) rfl (by first | decide | exact Nat.le_of_ble_eq_true rfl) (v := (.int (0 : Int32))) (one_ne (by omega)) d_jdk_2529_method_4_230 (pc' := 231) rfl ?_
      refine g_aload_n C d_jdk_2529_method_4_231 rfl rfl (pc' := 232) rfl ?_
      refine g_iload C d_jdk_2529_method_4_232 rfl (pc' := 234) rfl ?_
      refine g_iaload C (A1) (by first | decide | exact Nat.le_of_ble_eq_true rfl) (i := 35) rfl (by first | decide | exact Nat.le_of_ble_eq_true rfl) (v := (.int (0 : Int32))) (one_ne (by omega)) d_jdk_2529_method_4_234 (pc' := 235) rfl ?_
      refine g_if_icmpge C d_jdk_2529_method_4_235 (by decide) (pcT := 258) rfl (pcF := 238) rfl (fun _ => ?_) (fun zz_ => absurd zz_ (by first | decide | exact Nat.le_of_ble_eq_true rfl))
      refine g_aload_n C d_jdk_2529_method_4_258 rfl rfl (pc' := 259) rfl ?_
      refine g_iload C d_jdk_2529_method_4_259 rfl (pc' := 261) rfl ?_
      refine g_iaload C (A1) (by first | decide | exact Nat.le_of_ble_eq_true rfl) (i := 29) rfl (by first | decide | exact Nat.le_of_ble_eq_true rfl) (v := (.int (0 : Int32))) (one_ne (by omega)) d_jdk_2529_method_4_261 (pc' := 262) rfl ?_
      refine g_aload_n C d_jdk_2529_method_4_262 rfl rfl (pc' := 263) rfl ?_
      refine g_iload C d_jdk_2529_method_4_263 rfl (pc' := 265) rfl ?_
      refine g_iaload C (A1) (by first | decide | exact Nat.le_of_ble_eq_true rfl) (i := 27) rfl (by first | decide | exact Nat.le_of_ble_eq_true rfl) (v := (.int (0 : Int32))) (one_ne (by omega)) d_jdk_2529_method_4_265 (pc' := 266) rfl ?_
      refine g_if_icmpge C d_jdk_2529_method_4_266 (by decide) (pcT := 289) rfl (pcF := 269) rfl (fun _ => ?_) (fun zz_ => absurd zz_ (by first | decide | exact Nat.le_of_ble_eq_true rfl))
      refine g_aload_n C d_jdk_2529_method_4_289 rfl rfl (pc' := 290) rfl ?_
      refine g_iload C d_jdk_2529_method_4_290 rfl (pc' := 292) rfl ?_
      refine g_iaload C (A1) (by first | decide | exact Nat.le_of_ble_eq_true rfl) (i := 35) rfl (by first | decide | exact Nat.le_of_ble_eq_true rfl) (v := (.int (0 : Int32))) (one_ne (by omega)) d_jdk_2529_method_4_292 (pc' := 293) rfl ?_
      refine g_aload_n C d_jdk_2529_method_4_293 rfl rfl (pc' := 294) rfl ?_
      refine g_iload C d_jdk_2529_method_4_294 rfl (pc' := 296) rfl ?_
      refine g_iaload C (A1) (by first | decide | exact Nat.le_of_ble_eq_true rfl) (i := 29) rfl (by first | decide | exact Nat.le_of_ble_eq_true rfl) (v := (.int (0 : Int32))) (one_ne (by omega)) d_jdk_2529_method_4_296 (pc' := 297) rfl ?_
      refine g_if_icmpge C d_jdk_2529_method_4_297 (by decide) (pcT := 320) rfl (pcF := 300) rfl (fun _ => ?_) (fun zz_ => absurd zz_ (by first | decide | exact Nat.le_of_ble_eq_true rfl))
      refine g_iload C d_jdk_2529_method_4_320 rfl (pc' := 322) rfl ?_
      refine g_aload_n C d_jdk_2529_method_4_322 rfl rfl (pc' := 323) rfl ?_
      refine g_iload C d_jdk_2529_method_4_323 rfl (pc' := 325) rfl ?_
      refine g_iaload C (A1) (by first | decide | exact Nat.le_of_ble_eq_true rfl) (i := 29) rfl (by first | decide | exact Nat.le_of_ble_eq_true rfl) (v := (.int (0 : Int32))) (one_ne (by omega)) d_jdk_2529_method_4_325 (pc' := 326) rfl ?_
      refine g_if_icmpge C d_jdk_2529_method_4_326 (by decide) (pcT := 380) rfl (pcF := 329) rfl (fun _ => ?_) (fun zz_ => absurd zz_ (by first | decide | exact Nat.le_of_ble_eq_true rfl))
      refine g_iload C d_jdk_2529_method_4_380 rfl (pc' := 382) rfl ?_
      refine g_aload_n C d_jdk_2529_method_4_382 rfl rfl (pc' := 383) rfl ?_
      refine g_iload C d_jdk_2529_method_4_383 rfl (pc' := 385) rfl ?_
      refine g_iaload C (A1) (by first | decide | exact Nat.le_of_ble_eq_true rfl) (i := 35) rfl (by first | decide | exact Nat.le_of_ble_eq_true rfl) (v := (.int (0 : Int32))) (one_ne (by omega)) d_jdk_2529_method_4_385 (pc' := 386) rfl ?_
      refine g_if_icmple C d_jdk_2529_method_4_386 (by decide) (pcT := 437) rfl (pcF := 389) rfl (fun _ => ?_) (fun zz_ => absurd zz_ (by first | decide | exact Nat.le_of_ble_eq_true rfl))
      exact H437 _ _ p _ (by first | exact One.u | exact One.val rfl | assumption) (by omega) (by omega) (by omega) (by omega) (by omega) (by omega) A1
  · obtain ⟨ny, ny0⟩ := neg_nn hy
    refine g_ifeq C d_jdk_2529_method_4_87 (by decide) (pcT := 91) rfl (pcF := 90) rfl (fun _ => ?_) (fun zz_ => absurd (rfl) zz_)
    refine g_iinc C d_jdk_2529_method_4_91 rfl (y := (6 : Int32)) (by first | decide | exact Nat.le_of_ble_eq_true rfl) (Ls' := #[.val .null, .val (.ref a), .val (.int (6 : Int32)), .val (.int (0 : Int32)), .val (.int (66 : Int32)), .val (.int (65 : Int32)), .val (.int (66 : Int32)), .unset, .unset, .unset, .unset, .unset, .unset, .unset, .unset, .unset, .unset, .unset, .unset, .unset, .unset]) rfl (pc' := 94) rfl ?_
    refine g_iload_n C d_jdk_2529_method_4_94 rfl (pc' := 95) rfl ?_
    refine g_sipush C d_jdk_2529_method_4_95 (x := (384 : Int32)) rfl (pc' := 98) rfl ?_
    refine g_if_icmple C d_jdk_2529_method_4_98 (by decide) (pcT := 109) rfl (pcF := 101) rfl (fun _ => ?_) (fun zz_ => absurd zz_ (by first | decide | exact Nat.le_of_ble_eq_true rfl))
    refine g_iload C d_jdk_2529_method_4_109 rfl (pc' := 111) rfl ?_
    refine g_iconst C d_jdk_2529_method_4_111 (x := (3 : Int32)) rfl (pc' := 112) rfl ?_
    refine g_ishr C d_jdk_2529_method_4_112 (pc' := 113) rfl ?_
    refine g_norm (cells' := 1) (slots' := 127) (st' := [(.int (8 : Int32))]) (Nat.le_refl _) (Nat.le_refl _) (congrArg (fun z : Int32 => (Value.int z :: [] : List Value)) (by first | decide | exact Nat.le_of_ble_eq_true rfl)) ?_
    refine g_iconst C d_jdk_2529_method_4_113 (x := (3 : Int32)) rfl (pc' := 114) rfl ?_
    refine g_imul C d_jdk_2529_method_4_114 (pc' := 115) rfl ?_
    refine g_norm (cells' := 1) (slots' := 127) (st' := [(.int (24 : Int32))]) (Nat.le_refl _) (Nat.le_refl _) (congrArg (fun z : Int32 => (Value.int z :: [] : List Value)) (by first | decide | exact Nat.le_of_ble_eq_true rfl)) ?_
    refine g_iconst C d_jdk_2529_method_4_115 (x := (3 : Int32)) rfl (pc' := 116) rfl ?_
    refine g_iadd C d_jdk_2529_method_4_116 (pc' := 117) rfl ?_
    refine g_norm (cells' := 1) (slots' := 127) (st' := [(.int (27 : Int32))]) (Nat.le_refl _) (Nat.le_refl _) (congrArg (fun z : Int32 => (Value.int z :: [] : List Value)) (by first | decide | exact Nat.le_of_ble_eq_true rfl)) ?_
    refine g_istore C d_jdk_2529_method_4_117 (Ls' := #[.val .null, .val (.ref a), .val (.int (6 : Int32)), .val (.int (0 : Int32)), .val (.int (66 : Int32)), .val (.int (65 : Int32)), .val (.int (66 : Int32)), .val (.int (27 : Int32)), .unset, .unset, .unset, .unset, .unset, .unset, .unset, .unset, .unset, .unset, .unset, .unset, .unset]) rfl (pc' := 119) rfl ?_
    refine g_iload_n C d_jdk_2529_method_4_119 rfl (pc' := 120) rfl ?_
    refine g_iload C d_jdk_2529_method_4_120 rfl (pc' := 122) rfl ?_
    refine g_iadd C d_jdk_2529_method_4_122 (pc' := 123) rfl ?_
    refine g_norm (cells' := 1) (slots' := 127) (st' := [(.int (27 : Int32))]) (Nat.le_refl _) (Nat.le_refl _) (congrArg (fun z : Int32 => (Value.int z :: [] : List Value)) (by first | decide | exact Nat.le_of_ble_eq_true rfl)) ?_
    refine g_istore C d_jdk_2529_method_4_123 (Ls' := #[.val .null, .val (.ref a), .val (.int (6 : Int32)), .val (.int (0 : Int32)), .val (.int (66 : Int32)), .val (.int (65 : Int32)), .val (.int (66 : Int32)), .val (.int (27 : Int32)), .val (.int (27 : Int32)), .unset, .unset, .unset, .unset, .unset, .unset, .unset, .unset, .unset, .unset, .unset, .unset]) rfl (pc' := 125) rfl ?_
    refine g_iload C d_jdk_2529_method_4_125 rfl (pc' := 127) rfl ?_
    refine g_iload C d_jdk_2529_method_4_127 rfl (pc' := 129) rfl ?_
    refine g_isub C d_jdk_2529_method_4_129 (pc' := 130) rfl ?_
    refine g_norm (cells' := 1) (slots' := 127) (st' := [(.int (38 : Int32))]) (Nat.le_refl _) (Nat.le_refl _) (congrArg (fun z : Int32 => (Value.int z :: [] : List Value)) (by first | decide | exact Nat.le_of_ble_eq_true rfl)) ?_
    refine g_istore C d_jdk_2529_method_4_130 (Ls' := #[.val .null, .val (.ref a), .val (.int (6 : Int32)), .val (.int (0 : Int32)), .val (.int (66 : Int32)), .val (.int (65 : Int32)), .val (.int (66 : Int32)), .val (.int (27 : Int32)), .val (.int (27 : Int32)), .val (.int (38 : Int32)), .unset, .unset, .unset, .unset, .unset, .unset, .unset, .unset, .unset, .unset, .unset]) rfl (pc' := 132) rfl ?_
    refine g_iload C d_jdk_2529_method_4_132 rfl (pc' := 134) rfl ?_
    refine g_iload C d_jdk_2529_method_4_134 rfl (pc' := 136) rfl ?_
    refine g_iadd C d_jdk_2529_method_4_136 (pc' := 137) rfl ?_
    refine g_norm (cells' := 1) (slots' := 127) (st' := [(.int (65 : Int32))]) (Nat.le_refl _) (Nat.le_refl _) (congrArg (fun z : Int32 => (Value.int z :: [] : List Value)) (by first | decide | exact Nat.le_of_ble_eq_true rfl)) ?_
    refine g_iconst C d_jdk_2529_method_4_137 (x := (1 : Int32)) rfl (pc' := 138) rfl ?_
    refine g_iushr C d_jdk_2529_method_4_138 (pc' := 139) rfl ?_
    refine g_norm (cells' := 1) (slots' := 127) (st' := [(.int (32 : Int32))]) (Nat.le_refl _) (Nat.le_refl _) (congrArg (fun z : Int32 => (Value.int z :: [] : List Value)) (by first | decide | exact Nat.le_of_ble_eq_true rfl)) ?_
    refine g_istore C d_jdk_2529_method_4_139 (Ls' := #[.val .null, .val (.ref a), .val (.int (6 : Int32)), .val (.int (0 : Int32)), .val (.int (66 : Int32)), .val (.int (65 : Int32)), .val (.int (66 : Int32)), .val (.int (27 : Int32)), .val (.int (27 : Int32)), .val (.int (38 : Int32)), .val (.int (32 : Int32)), .unset, .unset, .unset, .unset, .unset, .unset, .unset, .unset, .unset, .unset]) rfl (pc' := 141) rfl ?_
    refine g_iload C d_jdk_2529_method_4_141 rfl (pc' := 143) rfl ?_
    refine g_iload C d_jdk_2529_method_4_143 rfl (pc' := 145) rfl ?_
    refine g_iadd C d_jdk_2529_method_4_145 (pc' := 146) rfl ?_
    refine g_norm (cells' := 1) (slots' := 127) (st' := [(.int (59 : Int32))]) (Nat.le_refl _) (Nat.le_refl _) (congrArg (fun z : Int32 => (Value.int z :: [] : List Value)) (by first | decide | exact Nat.le_of_ble_eq_true rfl)) ?_
    refine g_iconst C d_jdk_2529_method_4_146 (x := (1 : Int32)) rfl (pc' := 147) rfl ?_
    refine g_iushr C d_jdk_2529_method_4_147 (pc' := 148) rfl ?_
    refine g_norm (cells' := 1) (slots' := 127) (st' := [(.int (29 : Int32))]) (Nat.le_refl _) (Nat.le_refl _) (congrArg (fun z : Int32 => (Value.int z :: [] : List Value)) (by first | decide | exact Nat.le_of_ble_eq_true rfl)) ?_
    refine g_istore C d_jdk_2529_method_4_148 (Ls' := #[.val .null, .val (.ref a), .val (.int (6 : Int32)), .val (.int (0 : Int32)), .val (.int (66 : Int32)), .val (.int (65 : Int32)), .val (.int (66 : Int32)), .val (.int (27 : Int32)), .val (.int (27 : Int32)), .val (.int (38 : Int32)), .val (.int (32 : Int32)), .val (.int (29 : Int32)), .unset, .unset, .unset, .unset, .unset, .unset, .unset, .unset, .unset]) rfl (pc' := 150) rfl ?_
    refine g_iload C d_jdk_2529_method_4_150 rfl (pc' := 152) rfl ?_
    refine g_iload C d_jdk_2529_method_4_152 rfl (pc' := 154) rfl ?_
    refine g_iadd C d_jdk_2529_method_4_154 (pc' := 155) rfl ?_
    refine g_norm (cells' := 1) (slots' := 127) (st' := [(.int (70 : Int32))]) (Nat.le_refl _) (Nat.le_refl _) (congrArg (fun z : Int32 => (Value.int z :: [] : List Value)) (by first | decide | exact Nat.le_of_ble_eq_true rfl)) ?_
    refine g_iconst C d_jdk_2529_method_4_155 (x := (1 : Int32)) rfl (pc' := 156) rfl ?_
    refine g_iushr C d_jdk_2529_method_4_156 (pc' := 157) rfl ?_
    refine g_norm (cells' := 1) (slots' := 127) (st' := [(.int (35 : Int32))]) (Nat.le_refl _) (Nat.le_refl _) (congrArg (fun z : Int32 => (Value.int z :: [] : List Value)) (by first | decide | exact Nat.le_of_ble_eq_true rfl)) ?_
    refine g_istore C d_jdk_2529_method_4_157 (Ls' := #[.val .null, .val (.ref a), .val (.int (6 : Int32)), .val (.int (0 : Int32)), .val (.int (66 : Int32)), .val (.int (65 : Int32)), .val (.int (66 : Int32)), .val (.int (27 : Int32)), .val (.int (27 : Int32)), .val (.int (38 : Int32)), .val (.int (32 : Int32)), .val (.int (29 : Int32)), .val (.int (35 : Int32)), .unset, .unset, .unset, .unset, .unset, .unset, .unset, .unset]) rfl (pc' := 159) rfl ?_
    refine g_aload_n C d_jdk_2529_method_4_159 rfl rfl (pc' := 160) rfl ?_
    refine g_iload C d_jdk_2529_method_4_160 rfl (pc' := 162) rfl ?_
    refine g_iaload C (A1) (by first | decide | exact Nat.le_of_ble_eq_true rfl) (i := 32) rfl (by first | decide | exact Nat.le_of_ble_eq_true rfl) (v := (.int (0 : Int32))) (one_ne (by omega)) d_jdk_2529_method_4_162 (pc' := 163) rfl ?_
    refine g_istore C d_jdk_2529_method_4_163 (Ls' := #[.val .null, .val (.ref a), .val (.int (6 : Int32)), .val (.int (0 : Int32)), .val (.int (66 : Int32)), .val (.int (65 : Int32)), .val (.int (66 : Int32)), .val (.int (27 : Int32)), .val (.int (27 : Int32)), .val (.int (38 : Int32)), .val (.int (32 : Int32)), .val (.int (29 : Int32)), .val (.int (35 : Int32)), .val (.int (0 : Int32)), .unset, .unset, .unset, .unset, .unset, .unset, .unset]) rfl (pc' := 165) rfl ?_
    refine g_aload_n C d_jdk_2529_method_4_165 rfl rfl (pc' := 166) rfl ?_
    refine g_iload C d_jdk_2529_method_4_166 rfl (pc' := 168) rfl ?_
    refine g_iaload C (A1) (by first | decide | exact Nat.le_of_ble_eq_true rfl) (i := 38) rfl (by first | decide | exact Nat.le_of_ble_eq_true rfl) (v := (.int (0 : Int32))) (one_ne (by omega)) d_jdk_2529_method_4_168 (pc' := 169) rfl ?_
    refine g_aload_n C d_jdk_2529_method_4_169 rfl rfl (pc' := 170) rfl ?_
    refine g_iload C d_jdk_2529_method_4_170 rfl (pc' := 172) rfl ?_
    refine g_iaload C (A1) (by first | decide | exact Nat.le_of_ble_eq_true rfl) (i := 29) rfl (by first | decide | exact Nat.le_of_ble_eq_true rfl) (v := (.int (0 : Int32))) (one_ne (by omega)) d_jdk_2529_method_4_172 (pc' := 173) rfl ?_
    refine g_if_icmpge C d_jdk_2529_method_4_173 (by decide) (pcT := 196) rfl (pcF := 176) rfl (fun _ => ?_) (fun zz_ => absurd zz_ (by first | decide | exact Nat.le_of_ble_eq_true rfl))
    refine g_aload_n C d_jdk_2529_method_4_196 rfl rfl (pc' := 197) rfl ?_
    refine g_iload C d_jdk_2529_method_4_197 rfl (pc' := 199) rfl ?_
    refine g_iaload C (A1) (by first | decide | exact Nat.le_of_ble_eq_true rfl) (i := 35) rfl (by first | decide | exact Nat.le_of_ble_eq_true rfl) (v := (.int (0 : Int32))) (one_ne (by omega)) d_jdk_2529_method_4_199 (pc' := 200) rfl ?_
    refine g_aload_n C d_jdk_2529_method_4_200 rfl rfl (pc' := 201) rfl ?_
    refine g_iload C d_jdk_2529_method_4_201 rfl (pc' := 203) rfl ?_
    refine g_iaload C (A1) (by first | decide | exact Nat.le_of_ble_eq_true rfl) (i := 27) rfl (by first | decide | exact Nat.le_of_ble_eq_true rfl) (v := (.int (0 : Int32))) (one_ne (by omega)) d_jdk_2529_method_4_203 (pc' := 204) rfl ?_
    refine g_if_icmpge C d_jdk_2529_method_4_204 (by decide) (pcT := 227) rfl (pcF := 207) rfl (fun _ => ?_) (fun zz_ => absurd zz_ (by first | decide | exact Nat.le_of_ble_eq_true rfl))
    refine g_aload_n C d_jdk_2529_method_4_227 rfl rfl (pc' := 228) rfl ?_
    refine g_iload C d_jdk_2529_method_4_228 rfl (pc' := 230) rfl ?_
    refine g_iaload C (A1) (by first | decide | exact Nat.le_of_ble_eq_true rfl) (i := 38) rfl (by first | decide | exact Nat.le_of_ble_eq_true rfl) (v := (.int (0 : Int32))) (one_ne (by omega)) d_jdk_2529_method_4_230 (pc' := 231) rfl ?_
    refine g_aload_n C d_jdk_2529_method_4_231 rfl rfl (pc' := 232) rfl ?_
    refine g_iload C d_jdk_2529_method_4_232 rfl (pc' := 234) rfl ?_
    refine g_iaload C (A1) (by first | decide | exact Nat.le_of_ble_eq_true rfl) (i := 35) rfl (by first | decide | exact Nat.le_of_ble_eq_true rfl) (v := (.int (0 : Int32))) (one_ne (by omega)) d_jdk_2529_method_4_234 (pc' := 235) rfl ?_
    refine g_if_icmpge C d_jdk_2529_method_4_235 (by decide) (pcT := 258) rfl (pcF := 238) rfl (fun _ => ?_) (fun zz_ => absurd zz_ (by first | decide | exact Nat.le_of_ble_eq_true rfl))
    refine g_aload_n C d_jdk_2529_method_4_258 rfl rfl (pc' := 259) rfl ?_
    refine g_iload C d_jdk_2529_method_4_259 rfl (pc' := 261) rfl ?_
    refine g_iaload C (A1) (by first | decide | exact Nat.le_of_ble_eq_true rfl) (i := 29) rfl (by first | decide | exact Nat.le_of_ble_eq_true rfl) (v := (.int (0 : Int32))) (one_ne (by omega)) d_jdk_2529_method_4_261 (pc' := 262) rfl ?_
    refine g_aload_n C d_jdk_2529_method_4_262 rfl rfl (pc' := 263) rfl ?_
    refine g_iload C d_jdk_2529_method_4_263 rfl (pc' := 265) rfl ?_
    refine g_iaload C (A1) (by first | decide | exact Nat.le_of_ble_eq_true rfl) (i := 27) rfl (by first | decide | exact Nat.le_of_ble_eq_true rfl) (v := (.int (0 : Int32))) (one_ne (by omega)) d_jdk_2529_method_4_265 (pc' := 266) rfl ?_
    refine g_if_icmpge C d_jdk_2529_method_4_266 (by decide) (pcT := 289) rfl (pcF := 269) rfl (fun _ => ?_) (fun zz_ => absurd zz_ (by first | decide | exact Nat.le_of_ble_eq_true rfl))
    refine g_aload_n C d_jdk_2529_method_4_289 rfl rfl (pc' := 290) rfl ?_
    refine g_iload C d_jdk_2529_method_4_290 rfl (pc' := 292) rfl ?_
    refine g_iaload C (A1) (by first | decide | exact Nat.le_of_ble_eq_true rfl) (i := 35) rfl (by first | decide | exact Nat.le_of_ble_eq_true rfl) (v := (.int (0 : Int32))) (one_ne (by omega)) d_jdk_2529_method_4_292 (pc' := 293) rfl ?_
    refine g_aload_n C d_jdk_2529_method_4_293 rfl rfl (pc' := 294) rfl ?_
    refine g_iload C d_jdk_2529_method_4_294 rfl (pc' := 296) rfl ?_
    refine g_iaload C (A1) (by first | decide | exact Nat.le_of_ble_eq_true rfl) (i := 29) rfl (by first | decide | exact Nat.le_of_ble_eq_true rfl) (v := (.int (0 : Int32))) (one_ne (by omega)) d_jdk_2529_method_4_296 (pc' := 297) rfl ?_
    refine g_if_icmpge C d_jdk_2529_method_4_297 (by decide) (pcT := 320) rfl (pcF := 300) rfl (fun _ => ?_) (fun zz_ => absurd zz_ (by first | decide | exact Nat.le_of_ble_eq_true rfl))
    refine g_iload C d_jdk_2529_method_4_320 rfl (pc' := 322) rfl ?_
    refine g_aload_n C d_jdk_2529_method_4_322 rfl rfl (pc' := 323) rfl ?_
    refine g_iload C d_jdk_2529_method_4_323 rfl (pc' := 325) rfl ?_
    refine g_iaload C (A1) (by first | decide | exact Nat.le_of_ble_eq_true rfl) (i := 29) rfl (by first | decide | exact Nat.le_of_ble_eq_true rfl) (v := (.int (0 : Int32))) (one_ne (by omega)) d_jdk_2529_method_4_325 (pc' := 326) rfl ?_
    refine g_if_icmpge C d_jdk_2529_method_4_326 (by decide) (pcT := 380) rfl (pcF := 329) rfl (fun _ => ?_) (fun zz_ => absurd zz_ (by first | decide | exact Nat.le_of_ble_eq_true rfl))
    refine g_iload C d_jdk_2529_method_4_380 rfl (pc' := 382) rfl ?_
    refine g_aload_n C d_jdk_2529_method_4_382 rfl rfl (pc' := 383) rfl ?_
    refine g_iload C d_jdk_2529_method_4_383 rfl (pc' := 385) rfl ?_
    refine g_iaload C (A1) (by first | decide | exact Nat.le_of_ble_eq_true rfl) (i := 35) rfl (by first | decide | exact Nat.le_of_ble_eq_true rfl) (v := (.int (0 : Int32))) (one_ne (by omega)) d_jdk_2529_method_4_385 (pc' := 386) rfl ?_
    refine g_if_icmple C d_jdk_2529_method_4_386 (by decide) (pcT := 437) rfl (pcF := 389) rfl (fun _ => ?_) (fun zz_ => absurd zz_ (by first | decide | exact Nat.le_of_ble_eq_true rfl))
    refine g_iload_n C d_jdk_2529_method_4_437 rfl (pc' := 438) rfl ?_
    refine g_istore C d_jdk_2529_method_4_438 (Ls' := #[.val .null, .val (.ref a), .val (.int (6 : Int32)), .val (.int (0 : Int32)), .val (.int (66 : Int32)), .val (.int (65 : Int32)), .val (.int (66 : Int32)), .val (.int (27 : Int32)), .val (.int (27 : Int32)), .val (.int (38 : Int32)), .val (.int (32 : Int32)), .val (.int (29 : Int32)), .val (.int (35 : Int32)), .val (.int (0 : Int32)), .val (.int (0 : Int32)), .unset, .unset, .unset, .unset, .unset, .unset]) rfl (pc' := 440) rfl ?_
    refine g_iload C d_jdk_2529_method_4_440 rfl (pc' := 442) rfl ?_
    refine g_istore C d_jdk_2529_method_4_442 (Ls' := #[.val .null, .val (.ref a), .val (.int (6 : Int32)), .val (.int (0 : Int32)), .val (.int (66 : Int32)), .val (.int (65 : Int32)), .val (.int (66 : Int32)), .val (.int (27 : Int32)), .val (.int (27 : Int32)), .val (.int (38 : Int32)), .val (.int (32 : Int32)), .val (.int (29 : Int32)), .val (.int (35 : Int32)), .val (.int (0 : Int32)), .val (.int (0 : Int32)), .val (.int (65 : Int32)), .unset, .unset, .unset, .unset, .unset]) rfl (pc' := 444) rfl ?_
    refine g_aload_n C d_jdk_2529_method_4_444 rfl rfl (pc' := 445) rfl ?_
    refine g_iload C d_jdk_2529_method_4_445 rfl (pc' := 447) rfl ?_
    refine g_iaload C (A1) (by first | decide | exact Nat.le_of_ble_eq_true rfl) (i := 27) rfl (by first | decide | exact Nat.le_of_ble_eq_true rfl) (v := (.int (0 : Int32))) (one_ne (by first | decide | exact Nat.le_of_ble_eq_true rfl)) d_jdk_2529_method_4_447 (pc' := 448) rfl ?_
    refine g_aload_n C d_jdk_2529_method_4_448 rfl rfl (pc' := 449) rfl ?_
    refine g_iload C d_jdk_2529_method_4_449 rfl (pc' := 451) rfl ?_
    refine g_iaload C (A1) (by first | decide | exact Nat.le_of_ble_eq_true rfl) (i := 29) rfl (by first | decide | exact Nat.le_of_ble_eq_true rfl) (v := (.int (0 : Int32))) (one_ne (by first | decide | exact Nat.le_of_ble_eq_true rfl)) d_jdk_2529_method_4_451 (pc' := 452) rfl ?_
    refine g_if_icmpge C d_jdk_2529_method_4_452 (by decide) (pcT := 776) rfl (pcF := 455) rfl (fun _ => ?_) (fun zz_ => absurd zz_ (by first | decide | exact Nat.le_of_ble_eq_true rfl))
    refine g_aload_n C d_jdk_2529_method_4_776 rfl rfl (pc' := 777) rfl ?_
    refine g_iload C d_jdk_2529_method_4_777 rfl (pc' := 779) rfl ?_
    refine g_iaload C (A1) (by first | decide | exact Nat.le_of_ble_eq_true rfl) (i := 32) rfl (by first | decide | exact Nat.le_of_ble_eq_true rfl) (v := (.int (0 : Int32))) (one_ne (by first | decide | exact Nat.le_of_ble_eq_true rfl)) d_jdk_2529_method_4_779 (pc' := 780) rfl ?_
    refine g_istore C d_jdk_2529_method_4_780 (Ls' := #[.val .null, .val (.ref a), .val (.int (6 : Int32)), .val (.int (0 : Int32)), .val (.int (66 : Int32)), .val (.int (65 : Int32)), .val (.int (66 : Int32)), .val (.int (27 : Int32)), .val (.int (27 : Int32)), .val (.int (38 : Int32)), .val (.int (32 : Int32)), .val (.int (29 : Int32)), .val (.int (35 : Int32)), .val (.int (0 : Int32)), .val (.int (0 : Int32)), .val (.int (65 : Int32)), .val (.int (0 : Int32)), .unset, .unset, .unset, .unset]) rfl (pc' := 782) rfl ?_
    refine g_aload_n C d_jdk_2529_method_4_782 rfl rfl (pc' := 783) rfl ?_
    refine g_iload C d_jdk_2529_method_4_783 rfl (pc' := 785) rfl ?_
    refine g_aload_n C d_jdk_2529_method_4_785 rfl rfl (pc' := 786) rfl ?_
    refine g_iload C d_jdk_2529_method_4_786 rfl (pc' := 788) rfl ?_
    refine g_iaload C (A1) (by first | decide | exact Nat.le_of_ble_eq_true rfl) (i := 0) rfl (by first | decide | exact Nat.le_of_ble_eq_true rfl) (v := (.int y)) (one_eq rfl) d_jdk_2529_method_4_788 (pc' := 789) rfl ?_
    refine g_iastore C (A1) (by first | decide | exact Nat.le_of_ble_eq_true rfl) (i := 32) rfl (by first | decide | exact Nat.le_of_ble_eq_true rfl) (Or.inl (List.mem_cons_self ..)) d_jdk_2529_method_4_789 (pc' := 790) rfl ?_
    intro k1 V1 B1
    refine g_iinc C d_jdk_2529_method_4_790 rfl (y := (66 : Int32)) (by first | decide | exact Nat.le_of_ble_eq_true rfl) (Ls' := #[.val .null, .val (.ref a), .val (.int (6 : Int32)), .val (.int (0 : Int32)), .val (.int (66 : Int32)), .val (.int (65 : Int32)), .val (.int (66 : Int32)), .val (.int (27 : Int32)), .val (.int (27 : Int32)), .val (.int (38 : Int32)), .val (.int (32 : Int32)), .val (.int (29 : Int32)), .val (.int (35 : Int32)), .val (.int (0 : Int32)), .val (.int (0 : Int32)), .val (.int (66 : Int32)), .val (.int (0 : Int32)), .unset, .unset, .unset, .unset]) rfl (pc' := 793) rfl ?_
    refine g_iload C d_jdk_2529_method_4_793 rfl (pc' := 795) rfl ?_
    refine g_istore C d_jdk_2529_method_4_795 (Ls' := #[.val .null, .val (.ref a), .val (.int (6 : Int32)), .val (.int (0 : Int32)), .val (.int (66 : Int32)), .val (.int (65 : Int32)), .val (.int (66 : Int32)), .val (.int (27 : Int32)), .val (.int (27 : Int32)), .val (.int (38 : Int32)), .val (.int (32 : Int32)), .val (.int (29 : Int32)), .val (.int (35 : Int32)), .val (.int (0 : Int32)), .val (.int (0 : Int32)), .val (.int (66 : Int32)), .val (.int (0 : Int32)), .val (.int (66 : Int32)), .unset, .unset, .unset]) rfl (pc' := 797) rfl ?_
    refine g_loop (α := Nat × Slot) (fun x => 32 + 1 ≤ x.1 ∧ x.1 ≤ 66 ∧ One x.2) (fun x => x.1) (fun x => #[.val .null, .val (.ref a), .val (.int (6 : Int32)), .val (.int (0 : Int32)), .val (.int (66 : Int32)), .val (.int (65 : Int32)), .val (.int (66 : Int32)), .val (.int (27 : Int32)), .val (.int (27 : Int32)), .val (.int (38 : Int32)), .val (.int (32 : Int32)), .val (.int (29 : Int32)), .val (.int (35 : Int32)), .val (.int (0 : Int32)), .val (.int (0 : Int32)), .val (.int (66 : Int32)), .val (.int (0 : Int32)), .val (.int (Int32.ofNat x.1)), x.2, .unset, .unset]) (66, .unset) ⟨show 32 + 1 ≤ 66 by omega, show 66 ≤ 66 by omega, (by first | exact One.u | exact One.val rfl | assumption)⟩ rfl ?_
    rintro ⟨k, o18⟩ ⟨hk1, hk2, ho18⟩ IH
    dsimp only at hk1 hk2 ho18 IH ⊢
    refine g_iinc C d_jdk_2529_method_4_797 rfl (y := (Int32.ofNat (k - 1))) (dec_n (by omega)) (Ls' := #[.val .null, .val (.ref a), .val (.int (6 : Int32)), .val (.int (0 : Int32)), .val (.int (66 : Int32)), .val (.int (65 : Int32)), .val (.int (66 : Int32)), .val (.int (27 : Int32)), .val (.int (27 : Int32)), .val (.int (38 : Int32)), .val (.int (32 : Int32)), .val (.int (29 : Int32)), .val (.int (35 : Int32)), .val (.int (0 : Int32)), .val (.int (0 : Int32)), .val (.int (66 : Int32)), .val (.int (0 : Int32)), .val (.int (Int32.ofNat (k - 1))), o18, .unset, .unset]) rfl (pc' := 800) rfl ?_
    rcases Nat.lt_or_ge (32) (k - 1) with hc | hc
    · refine g_iload C d_jdk_2529_method_4_800 rfl (pc' := 802) rfl ?_
      refine g_iload C d_jdk_2529_method_4_802 rfl (pc' := 804) rfl ?_
      refine g_if_icmple C d_jdk_2529_method_4_804 (by decide) (pcT := 889) rfl (pcF := 807) rfl (fun zz_ => absurd (by rw [show (0 : Int32) = Int32.ofNat 0 from rfl]; exact (lt_n (by omega) (by omega)).2 (by omega)) zz_) (fun _ => ?_)
      refine g_aload_n C d_jdk_2529_method_4_807 rfl rfl (pc' := 808) rfl ?_
      refine g_iload C d_jdk_2529_method_4_808 rfl (pc' := 810) rfl ?_
      refine g_iaload C (B1) (i32_nn (by omega)) (i := (k - 1)) (i32_clamp (by omega)) (by omega) (v := (.int (0 : Int32))) ((upd_other (by omega)).trans (one_ne (by omega))) d_jdk_2529_method_4_810 (pc' := 811) rfl ?_
      refine g_istore C d_jdk_2529_method_4_811 (Ls' := #[.val .null, .val (.ref a), .val (.int (6 : Int32)), .val (.int (0 : Int32)), .val (.int (66 : Int32)), .val (.int (65 : Int32)), .val (.int (66 : Int32)), .val (.int (27 : Int32)), .val (.int (27 : Int32)), .val (.int (38 : Int32)), .val (.int (32 : Int32)), .val (.int (29 : Int32)), .val (.int (35 : Int32)), .val (.int (0 : Int32)), .val (.int (0 : Int32)), .val (.int (66 : Int32)), .val (.int (0 : Int32)), .val (.int (Int32.ofNat (k - 1))), .val (.int (0 : Int32)), .unset, .unset]) (by rw [XS.store1 (o := o18) rfl ho18 rfl]; rfl) (pc' := 813) rfl ?_
      refine g_iload C d_jdk_2529_method_4_813 rfl (pc' := 815) rfl ?_
      refine g_iload C d_jdk_2529_method_4_815 rfl (pc' := 817) rfl ?_
      refine g_if_icmpeq C d_jdk_2529_method_4_817 (by decide) (pcT := 886) rfl (pcF := 820) rfl (fun _ => ?_) (fun zz_ => absurd (rfl) zz_)
      refine g_goto C d_jdk_2529_method_4_886 (by decide) (pc' := 797) rfl ?_
      exact IH (k - 1, .val (.int 0)) ⟨by omega, by omega, One.val rfl⟩ (by dsimp only; omega)
    · obtain hkT : k - 1 = 32 := by omega
      rw [hkT]
      refine g_iload C d_jdk_2529_method_4_800 rfl (pc' := 802) rfl ?_
      refine g_iload C d_jdk_2529_method_4_802 rfl (pc' := 804) rfl ?_
      refine g_if_icmple C d_jdk_2529_method_4_804 (by decide) (pcT := 889) rfl (pcF := 807) rfl (fun zz_ => absurd (by first | decide | exact Nat.le_of_ble_eq_true rfl) zz_) (fun _ => ?_)
      refine g_aload_n C d_jdk_2529_method_4_807 rfl rfl (pc' := 808) rfl ?_
      refine g_iload C d_jdk_2529_method_4_808 rfl (pc' := 810) rfl ?_
      refine g_iaload C (B1) (by first | decide | exact Nat.le_of_ble_eq_true rfl) (i := 32) rfl (by first | decide | exact Nat.le_of_ble_eq_true rfl) (v := (.int y)) (upd_same) d_jdk_2529_method_4_810 (pc' := 811) rfl ?_
      refine g_istore C d_jdk_2529_method_4_811 (Ls' := #[.val .null, .val (.ref a), .val (.int (6 : Int32)), .val (.int (0 : Int32)), .val (.int (66 : Int32)), .val (.int (65 : Int32)), .val (.int (66 : Int32)), .val (.int (27 : Int32)), .val (.int (27 : Int32)), .val (.int (38 : Int32)), .val (.int (32 : Int32)), .val (.int (29 : Int32)), .val (.int (35 : Int32)), .val (.int (0 : Int32)), .val (.int (0 : Int32)), .val (.int (66 : Int32)), .val (.int (0 : Int32)), .val (.int (Int32.ofNat 32)), .val (.int y), .unset, .unset]) (by rw [XS.store1 (o := o18) rfl ho18 rfl]; rfl) (pc' := 813) rfl ?_
      refine g_iload C d_jdk_2529_method_4_813 rfl (pc' := 815) rfl ?_
      refine g_iload C d_jdk_2529_method_4_815 rfl (pc' := 817) rfl ?_
      refine g_if_icmpeq C d_jdk_2529_method_4_817 (by decide) (pcT := 886) rfl (pcF := 820) rfl (fun zz_ => absurd zz_ (ny0)) (fun _ => ?_)
      refine g_aload_n C d_jdk_2529_method_4_820 rfl rfl (pc' := 821) rfl ?_
      refine g_iload C d_jdk_2529_method_4_821 rfl (pc' := 823) rfl ?_
      refine g_iload C d_jdk_2529_method_4_823 rfl (pc' := 825) rfl ?_
      refine g_iastore C (B1) (by first | decide | exact Nat.le_of_ble_eq_true rfl) (i := 32) rfl (by first | decide | exact Nat.le_of_ble_eq_true rfl) (Or.inl (List.mem_cons_self ..)) d_jdk_2529_method_4_825 (pc' := 826) rfl ?_
      intro k2 V2 B2
      refine g_iload C d_jdk_2529_method_4_826 rfl (pc' := 828) rfl ?_
      refine g_iload C d_jdk_2529_method_4_828 rfl (pc' := 830) rfl ?_
      refine g_if_icmpge C d_jdk_2529_method_4_830 (by decide) (pcT := 877) rfl (pcF := 833) rfl (fun zz_ => absurd (hy) zz_) (fun _ => ?_)
      refine g_aload_n C d_jdk_2529_method_4_833 rfl rfl (pc' := 834) rfl ?_
      refine g_iinc C d_jdk_2529_method_4_834 rfl (y := (1 : Int32)) (by first | decide | exact Nat.le_of_ble_eq_true rfl) (Ls' := #[.val .null, .val (.ref a), .val (.int (6 : Int32)), .val (.int (0 : Int32)), .val (.int (66 : Int32)), .val (.int (65 : Int32)), .val (.int (66 : Int32)), .val (.int (27 : Int32)), .val (.int (27 : Int32)), .val (.int (38 : Int32)), .val (.int (32 : Int32)), .val (.int (29 : Int32)), .val (.int (35 : Int32)), .val (.int (0 : Int32)), .val (.int (1 : Int32)), .val (.int (66 : Int32)), .val (.int (0 : Int32)), .val (.int (Int32.ofNat 32)), .val (.int y), .unset, .unset]) rfl (pc' := 837) rfl ?_
      refine g_iload C d_jdk_2529_method_4_837 rfl (pc' := 839) rfl ?_
      refine g_iaload C (B2) (by first | decide | exact Nat.le_of_ble_eq_true rfl) (i := 1) rfl (by first | decide | exact Nat.le_of_ble_eq_true rfl) (v := (.int (0 : Int32))) ((upd_other (by first | decide | exact Nat.le_of_ble_eq_true rfl)).trans ((upd_other (by first | decide | exact Nat.le_of_ble_eq_true rfl)).trans (one_ne (by first | decide | exact Nat.le_of_ble_eq_true rfl)))) d_jdk_2529_method_4_839 (pc' := 840) rfl ?_
      refine g_iload C d_jdk_2529_method_4_840 rfl (pc' := 842) rfl ?_
      refine g_if_icmpge C d_jdk_2529_method_4_842 (by decide) (pcT := 848) rfl (pcF := 845) rfl (fun _ => ?_) (fun zz_ => absurd zz_ (by first | decide | exact Nat.le_of_ble_eq_true rfl))
      refine g_aload_n C d_jdk_2529_method_4_848 rfl rfl (pc' := 849) rfl ?_
      refine g_iload C d_jdk_2529_method_4_849 rfl (pc' := 851) rfl ?_
      refine g_iaload C (B2) (by first | decide | exact Nat.le_of_ble_eq_true rfl) (i := 1) rfl (by first | decide | exact Nat.le_of_ble_eq_true rfl) (v := (.int (0 : Int32))) ((upd_other (by first | decide | exact Nat.le_of_ble_eq_true rfl)).trans ((upd_other (by first | decide | exact Nat.le_of_ble_eq_true rfl)).trans (one_ne (by first | decide | exact Nat.le_of_ble_eq_true rfl)))) d_jdk_2529_method_4_851 (pc' := 852) rfl ?_
      refine g_iload C d_jdk_2529_method_4_852 rfl (pc' := 854) rfl ?_
      refine g_if_icmple C d_jdk_2529_method_4_854 (by decide) (pcT := 868) rfl (pcF := 857) rfl (fun _ => ?_) (fun zz_ => absurd zz_ (by first | decide | exact Nat.le_of_ble_eq_true rfl))
      refine g_aload_n C d_jdk_2529_method_4_868 rfl rfl (pc' := 869) rfl ?_
      refine g_iload C d_jdk_2529_method_4_869 rfl (pc' := 871) rfl ?_
      refine g_iload C d_jdk_2529_method_4_871 rfl (pc' := 873) rfl ?_
      refine g_iastore C (B2) (by first | decide | exact Nat.le_of_ble_eq_true rfl) (i := 1) rfl (by first | decide | exact Nat.le_of_ble_eq_true rfl) (Or.inl (List.mem_cons_self ..)) d_jdk_2529_method_4_873 (pc' := 874) rfl ?_
      intro k3 V3 B3
      refine g_goto C d_jdk_2529_method_4_874 (by decide) (pc' := 886) rfl ?_
      refine g_goto C d_jdk_2529_method_4_886 (by decide) (pc' := 797) rfl ?_
      have C3 : Af Z k3 a .int 66 (upd (one 0 y) 1 (.int y)) := B3.to fun t ht => by
        by_cases z : t = 1
        · rw [z, upd_same, upd_same]
        · rw [upd_other z, upd_other z]
          by_cases z2 : t = 32
          · rw [z2, upd_same, one_ne (by first | decide | exact Nat.le_of_ble_eq_true rfl)]
          · rw [upd_other z2, upd_other z2]
      refine g_loop (α := Nat × Slot) (fun x => 1 + 1 ≤ x.1 ∧ x.1 ≤ 32 ∧ One x.2) (fun x => x.1) (fun x => #[.val .null, .val (.ref a), .val (.int (6 : Int32)), .val (.int (0 : Int32)), .val (.int (66 : Int32)), .val (.int (65 : Int32)), .val (.int (66 : Int32)), .val (.int (27 : Int32)), .val (.int (27 : Int32)), .val (.int (38 : Int32)), .val (.int (32 : Int32)), .val (.int (29 : Int32)), .val (.int (35 : Int32)), .val (.int (0 : Int32)), .val (.int (1 : Int32)), .val (.int (66 : Int32)), .val (.int (0 : Int32)), .val (.int (Int32.ofNat x.1)), x.2, .unset, .unset]) (32, .val (.int y)) ⟨show 1 + 1 ≤ 32 by omega, show 32 ≤ 32 by omega, (by first | exact One.u | exact One.val rfl | assumption)⟩ rfl ?_
      rintro ⟨k, o18⟩ ⟨hk1, hk2, ho18⟩ IH
      dsimp only at hk1 hk2 ho18 IH ⊢
      refine g_iinc C d_jdk_2529_method_4_797 rfl (y := (Int32.ofNat (k - 1))) (dec_n (by omega)) (Ls' := #[.val .null, .val (.ref a), .val (.int (6 : Int32)), .val (.int (0 : Int32)), .val (.int (66 : Int32)), .val (.int (65 : Int32)), .val (.int (66 : Int32)), .val (.int (27 : Int32)), .val (.int (27 : Int32)), .val (.int (38 : Int32)), .val (.int (32 : Int32)), .val (.int (29 : Int32)), .val (.int (35 : Int32)), .val (.int (0 : Int32)), .val (.int (1 : Int32)), .val (.int (66 : Int32)), .val (.int (0 : Int32)), .val (.int (Int32.ofNat (k - 1))), o18, .unset, .unset]) rfl (pc' := 800) rfl ?_
      rcases Nat.lt_or_ge (1) (k - 1) with hc | hc
      · refine g_iload C d_jdk_2529_method_4_800 rfl (pc' := 802) rfl ?_
        refine g_iload C d_jdk_2529_method_4_802 rfl (pc' := 804) rfl ?_
        refine g_if_icmple C d_jdk_2529_method_4_804 (by decide) (pcT := 889) rfl (pcF := 807) rfl (fun zz_ => absurd (by rw [show (1 : Int32) = Int32.ofNat 1 from rfl]; exact (lt_n (by omega) (by omega)).2 (by omega)) zz_) (fun _ => ?_)
        refine g_aload_n C d_jdk_2529_method_4_807 rfl rfl (pc' := 808) rfl ?_
        refine g_iload C d_jdk_2529_method_4_808 rfl (pc' := 810) rfl ?_
        refine g_iaload C (C3) (i32_nn (by omega)) (i := (k - 1)) (i32_clamp (by omega)) (by omega) (v := (.int (0 : Int32))) ((upd_other (by omega)).trans (one_ne (by omega))) d_jdk_2529_method_4_810 (pc' := 811) rfl ?_
        refine g_istore C d_jdk_2529_method_4_811 (Ls' := #[.val .null, .val (.ref a), .val (.int (6 : Int32)), .val (.int (0 : Int32)), .val (.int (66 : Int32)), .val (.int (65 : Int32)), .val (.int (66 : Int32)), .val (.int (27 : Int32)), .val (.int (27 : Int32)), .val (.int (38 : Int32)), .val (.int (32 : Int32)), .val (.int (29 : Int32)), .val (.int (35 : Int32)), .val (.int (0 : Int32)), .val (.int (1 : Int32)), .val (.int (66 : Int32)), .val (.int (0 : Int32)), .val (.int (Int32.ofNat (k - 1))), .val (.int (0 : Int32)), .unset, .unset]) (by rw [XS.store1 (o := o18) rfl ho18 rfl]; rfl) (pc' := 813) rfl ?_
        refine g_iload C d_jdk_2529_method_4_813 rfl (pc' := 815) rfl ?_
        refine g_iload C d_jdk_2529_method_4_815 rfl (pc' := 817) rfl ?_
        refine g_if_icmpeq C d_jdk_2529_method_4_817 (by decide) (pcT := 886) rfl (pcF := 820) rfl (fun _ => ?_) (fun zz_ => absurd (rfl) zz_)
        refine g_goto C d_jdk_2529_method_4_886 (by decide) (pc' := 797) rfl ?_
        exact IH (k - 1, .val (.int 0)) ⟨by omega, by omega, One.val rfl⟩ (by dsimp only; omega)
      · obtain hkT : k - 1 = 1 := by omega
        rw [hkT]
        refine g_iload C d_jdk_2529_method_4_800 rfl (pc' := 802) rfl ?_
        refine g_iload C d_jdk_2529_method_4_802 rfl (pc' := 804) rfl ?_
        refine g_if_icmple C d_jdk_2529_method_4_804 (by decide) (pcT := 889) rfl (pcF := 807) rfl (fun _ => ?_) (fun zz_ => absurd zz_ (by first | decide | exact Nat.le_of_ble_eq_true rfl))
        refine g_aload_n C d_jdk_2529_method_4_889 rfl rfl (pc' := 890) rfl ?_
        refine g_iload_n C d_jdk_2529_method_4_890 rfl (pc' := 891) rfl ?_
        refine g_aload_n C d_jdk_2529_method_4_891 rfl rfl (pc' := 892) rfl ?_
        refine g_iload C d_jdk_2529_method_4_892 rfl (pc' := 894) rfl ?_
        refine g_iaload C (C3) (by first | decide | exact Nat.le_of_ble_eq_true rfl) (i := 1) rfl (by first | decide | exact Nat.le_of_ble_eq_true rfl) (v := (.int y)) (upd_same) d_jdk_2529_method_4_894 (pc' := 895) rfl ?_
        refine g_iastore C (C3) (by first | decide | exact Nat.le_of_ble_eq_true rfl) (i := 0) rfl (by first | decide | exact Nat.le_of_ble_eq_true rfl) (Or.inl (List.mem_cons_self ..)) d_jdk_2529_method_4_895 (pc' := 896) rfl ?_
        intro k4 V4 B4
        refine g_aload_n C d_jdk_2529_method_4_896 rfl rfl (pc' := 897) rfl ?_
        refine g_iload C d_jdk_2529_method_4_897 rfl (pc' := 899) rfl ?_
        refine g_iload C d_jdk_2529_method_4_899 rfl (pc' := 901) rfl ?_
        refine g_iastore C (B4) (by first | decide | exact Nat.le_of_ble_eq_true rfl) (i := 1) rfl (by first | decide | exact Nat.le_of_ble_eq_true rfl) (Or.inl (List.mem_cons_self ..)) d_jdk_2529_method_4_901 (pc' := 902) rfl ?_
        intro k5 V5 B5
        have C5 : Af Z k5 a .int 66 (one 0 y) := B5.to fun t ht => by
          by_cases z : t = 1
          · rw [z, upd_same, one_ne (by first | decide | exact Nat.le_of_ble_eq_true rfl)]
          · rw [upd_other z]
            by_cases z2 : t = 0
            · rw [z2, upd_same, one_eq rfl]
            · rw [upd_other z2, upd_other z]
        refine g_iload C d_jdk_2529_method_4_902 rfl (pc' := 904) rfl ?_
        refine g_sipush C d_jdk_2529_method_4_904 (x := (4096 : Int32)) rfl (pc' := 907) rfl ?_
        refine g_if_icmple C d_jdk_2529_method_4_907 (by decide) (pcT := 928) rfl (pcF := 910) rfl (fun _ => ?_) (fun zz_ => absurd zz_ (by first | decide | exact Nat.le_of_ble_eq_true rfl))
        refine g_aload_n C d_jdk_2529_method_4_928 rfl rfl (pc' := 929) rfl ?_
        refine g_aload_n C d_jdk_2529_method_4_929 rfl rfl (pc' := 930) rfl ?_
        refine g_iload_n C d_jdk_2529_method_4_930 rfl (pc' := 931) rfl ?_
        refine g_iconst C d_jdk_2529_method_4_931 (x := (1 : Int32)) rfl (pc' := 932) rfl ?_
        refine g_ior C d_jdk_2529_method_4_932 (pc' := 933) rfl ?_
        refine g_norm (cells' := 1) (slots' := 127) (st' := [(.int (7 : Int32)), (.ref a), .null]) (Nat.le_refl _) (Nat.le_refl _) (congrArg (fun z : Int32 => (Value.int z :: [(.ref a), .null] : List Value)) (by first | decide | exact Nat.le_of_ble_eq_true rfl)) ?_
        refine g_iload C d_jdk_2529_method_4_933 rfl (pc' := 935) rfl ?_
        refine g_iload C d_jdk_2529_method_4_935 rfl (pc' := 937) rfl ?_
        refine g_staticC C (W := 0) (argsL := [.null, (.ref a), (.int (7 : Int32)), (.int (66 : Int32)), (.int (66 : Int32))]) (rest := []) (con_r66 l Z a0 hw k5 a) (Wx31 hw) (Wx32 hw) (Wx29 hw) (Wx33 hw) (by first | decide | exact Nat.le_of_ble_eq_true rfl) rfl (lenOf pd5 rfl) rfl (Nat.le_of_eq rfl) d_jdk_2529_method_4_937 (pc' := 940) rfl (by first | decide | exact Nat.le_of_ble_eq_true rfl) (by first | decide | exact Nat.le_of_ble_eq_true rfl) (fun _ q => nomatch q) (by first | decide | exact Nat.le_of_ble_eq_true rfl) (by first | decide | exact Nat.le_of_ble_eq_true rfl) ?_
        rintro _ hh ⟨rfl, eh_⟩ Kr
        subst hh
        refine g_norm (cells' := 1) (slots' := 127) (st' := []) (by first | decide | exact Nat.le_of_ble_eq_true rfl) (by first | decide | exact Nat.le_of_ble_eq_true rfl) rfl ?_
        refine g_iload C d_jdk_2529_method_4_940 rfl (pc' := 942) rfl ?_
        refine g_istore C d_jdk_2529_method_4_942 (Ls' := #[.val .null, .val (.ref a), .val (.int (6 : Int32)), .val (.int (0 : Int32)), .val (.int (1 : Int32)), .val (.int (65 : Int32)), .val (.int (66 : Int32)), .val (.int (27 : Int32)), .val (.int (27 : Int32)), .val (.int (38 : Int32)), .val (.int (32 : Int32)), .val (.int (29 : Int32)), .val (.int (35 : Int32)), .val (.int (0 : Int32)), .val (.int (1 : Int32)), .val (.int (66 : Int32)), .val (.int (0 : Int32)), .val (.int (Int32.ofNat 1)), o18, .unset, .unset]) rfl (pc' := 944) rfl ?_
        refine g_goto C d_jdk_2529_method_4_944 (by decide) (pc' := 0) rfl ?_
        refine g_iload C d_jdk_2529_method_4_0 rfl (pc' := 2) rfl ?_
        refine g_iconst C d_jdk_2529_method_4_2 (x := (1 : Int32)) rfl (pc' := 3) rfl ?_
        refine g_isub C d_jdk_2529_method_4_3 (pc' := 4) rfl ?_
        refine g_norm (cells' := 1) (slots' := 127) (st' := [(.int (0 : Int32))]) (Nat.le_refl _) (Nat.le_refl _) (congrArg (fun z : Int32 => (Value.int z :: [] : List Value)) (by first | decide | exact Nat.le_of_ble_eq_true rfl)) ?_
        refine g_istore C d_jdk_2529_method_4_4 (Ls' := #[.val .null, .val (.ref a), .val (.int (6 : Int32)), .val (.int (0 : Int32)), .val (.int (1 : Int32)), .val (.int (0 : Int32)), .val (.int (66 : Int32)), .val (.int (27 : Int32)), .val (.int (27 : Int32)), .val (.int (38 : Int32)), .val (.int (32 : Int32)), .val (.int (29 : Int32)), .val (.int (35 : Int32)), .val (.int (0 : Int32)), .val (.int (1 : Int32)), .val (.int (66 : Int32)), .val (.int (0 : Int32)), .val (.int (Int32.ofNat 1)), o18, .unset, .unset]) rfl (pc' := 6) rfl ?_
        refine g_iload C d_jdk_2529_method_4_6 rfl (pc' := 8) rfl ?_
        refine g_iload_n C d_jdk_2529_method_4_8 rfl (pc' := 9) rfl ?_
        refine g_isub C d_jdk_2529_method_4_9 (pc' := 10) rfl ?_
        refine g_norm (cells' := 1) (slots' := 127) (st' := [(.int (1 : Int32))]) (Nat.le_refl _) (Nat.le_refl _) (congrArg (fun z : Int32 => (Value.int z :: [] : List Value)) (by first | decide | exact Nat.le_of_ble_eq_true rfl)) ?_
        refine g_istore C d_jdk_2529_method_4_10 (Ls' := #[.val .null, .val (.ref a), .val (.int (6 : Int32)), .val (.int (0 : Int32)), .val (.int (1 : Int32)), .val (.int (0 : Int32)), .val (.int (1 : Int32)), .val (.int (27 : Int32)), .val (.int (27 : Int32)), .val (.int (38 : Int32)), .val (.int (32 : Int32)), .val (.int (29 : Int32)), .val (.int (35 : Int32)), .val (.int (0 : Int32)), .val (.int (1 : Int32)), .val (.int (66 : Int32)), .val (.int (0 : Int32)), .val (.int (Int32.ofNat 1)), o18, .unset, .unset]) rfl (pc' := 12) rfl ?_
        refine g_iload C d_jdk_2529_method_4_12 rfl (pc' := 14) rfl ?_
        refine g_bipush C d_jdk_2529_method_4_14 (x := (65 : Int32)) rfl (pc' := 16) rfl ?_
        refine g_iload_n C d_jdk_2529_method_4_16 rfl (pc' := 17) rfl ?_
        refine g_iadd C d_jdk_2529_method_4_17 (pc' := 18) rfl ?_
        refine g_norm (cells' := 1) (slots' := 127) (st' := [(.int (71 : Int32)), (.int (1 : Int32))]) (Nat.le_refl _) (Nat.le_refl _) (congrArg (fun z : Int32 => (Value.int z :: [(.int (1 : Int32))] : List Value)) (by first | decide | exact Nat.le_of_ble_eq_true rfl)) ?_
        refine g_if_icmpge C d_jdk_2529_method_4_18 (by decide) (pcT := 46) rfl (pcF := 21) rfl (fun zz_ => absurd (by first | decide | exact Nat.le_of_ble_eq_true rfl) zz_) (fun _ => ?_)
        refine g_iload_n C d_jdk_2529_method_4_21 rfl (pc' := 22) rfl ?_
        refine g_iconst C d_jdk_2529_method_4_22 (x := (1 : Int32)) rfl (pc' := 23) rfl ?_
        refine g_iand C d_jdk_2529_method_4_23 (pc' := 24) rfl ?_
        refine g_norm (cells' := 1) (slots' := 127) (st' := [(.int (0 : Int32))]) (Nat.le_refl _) (Nat.le_refl _) (congrArg (fun z : Int32 => (Value.int z :: [] : List Value)) (by first | decide | exact Nat.le_of_ble_eq_true rfl)) ?_
        refine g_ifle C d_jdk_2529_method_4_24 (by decide) (pcT := 46) rfl (pcF := 27) rfl (fun _ => ?_) (fun zz_ => absurd zz_ (by first | decide | exact Nat.le_of_ble_eq_true rfl))
        refine g_iload C d_jdk_2529_method_4_46 rfl (pc' := 48) rfl ?_
        refine g_bipush C d_jdk_2529_method_4_48 (x := (44 : Int32)) rfl (pc' := 50) rfl ?_
        refine g_if_icmpge C d_jdk_2529_method_4_50 (by decide) (pcT := 61) rfl (pcF := 53) rfl (fun zz_ => absurd (by first | decide | exact Nat.le_of_ble_eq_true rfl) zz_) (fun _ => ?_)
        refine g_aload_n C d_jdk_2529_method_4_53 rfl rfl (pc' := 54) rfl ?_
        refine g_iload_n C d_jdk_2529_method_4_54 rfl (pc' := 55) rfl ?_
        refine g_iload C d_jdk_2529_method_4_55 rfl (pc' := 57) rfl ?_
        refine g_staticC C (W := 0) (argsL := [(.ref a), (.int (0 : Int32)), (.int (1 : Int32))]) (rest := []) (con_ins l Z a0 hw k5 a (1 : Int32) (by first | decide | exact Nat.le_of_ble_eq_true rfl)) (Wx40 hw) (Wx41 hw) (Wx29 hw) (Wx42 hw) (by first | decide | exact Nat.le_of_ble_eq_true rfl) rfl (lenOf pd6 rfl) rfl (Nat.le_of_eq rfl) d_jdk_2529_method_4_57 (pc' := 60) rfl (by first | decide | exact Nat.le_of_ble_eq_true rfl) (by first | decide | exact Nat.le_of_ble_eq_true rfl) (fun _ q => nomatch q) (by first | decide | exact Nat.le_of_ble_eq_true rfl) (by first | decide | exact Nat.le_of_ble_eq_true rfl) ?_
        rintro _ hh ⟨rfl, eh_⟩ Ki
        subst hh
        refine g_norm (cells' := 1) (slots' := 127) (st' := []) (by first | decide | exact Nat.le_of_ble_eq_true rfl) (by first | decide | exact Nat.le_of_ble_eq_true rfl) rfl ?_
        exact g_return C d_jdk_2529_method_4_60 (⟨rfl, by rw [show tgt y = 0 from if_neg ny]; exact C5⟩) (by first | decide | exact Nat.le_of_ble_eq_true rfl) (by first | decide | exact Nat.le_of_ble_eq_true rfl)
set_option maxRecDepth 65536 in
set_option maxHeartbeats 40000000 in
theorem con_d4 (l : Launch) (Z : State) (a0 : Array Value) (hw : ∀ d ∈ tables_1, d.before a0 Z = true)  (h : Heap) (a : Addr) (p : Nat) (hp : p < 66) (y : Int32) (A : Af Z h a .int 66 (one p y)) : Con l Z [a] (⟨"java/util/DualPivotQuicksort", "sort", "([IIII)V"⟩ : MethodName) jdk_2529_method_3_code 7 (none) ({ frames := 3, cells := 1, slots := 127, locals := 83 } : Room) #[(.ref a), (.int (0 : Int32)), (.int (0 : Int32)), (.int (66 : Int32))] h [] (fun v h' => v = none ∧ Af Z h' a .int 66 (one (tgt y) y)) := by
  refine Con.of (plainFor_of_name pn0) (Ls := #[.val (.ref a), .val (.int (0 : Int32)), .val (.int (0 : Int32)), .val (.int (66 : Int32)), .unset, .unset, .unset]) (fun m => by first | (simp [entryFrame, mkF, argsToLocals, Value.category]; done) | rfl) ?_
  intro p_ e_ s_ m_ bel_ mt_ cd_ C
  refine g_iload_n C d_jdk_2529_method_3_0 rfl (pc' := 1) rfl ?_
  refine g_iload_n C d_jdk_2529_method_3_1 rfl (pc' := 2) rfl ?_
  refine g_isub C d_jdk_2529_method_3_2 (pc' := 3) rfl ?_
  refine g_norm (cells' := 0) (slots' := 0) (st' := [(.int (66 : Int32))]) (Nat.le_refl _) (Nat.le_refl _) (congrArg (fun z : Int32 => (Value.int z :: [] : List Value)) (by first | decide | exact Nat.le_of_ble_eq_true rfl)) ?_
  refine g_istore C d_jdk_2529_method_3_3 (Ls' := #[.val (.ref a), .val (.int (0 : Int32)), .val (.int (0 : Int32)), .val (.int (66 : Int32)), .val (.int (66 : Int32)), .unset, .unset]) rfl (pc' := 5) rfl ?_
  refine g_iload_n C d_jdk_2529_method_3_5 rfl (pc' := 6) rfl ?_
  refine g_iconst C d_jdk_2529_method_3_6 (x := (1 : Int32)) rfl (pc' := 7) rfl ?_
  refine g_if_icmple C d_jdk_2529_method_3_7 (by decide) (pcT := 68) rfl (pcF := 10) rfl (fun _ => ?_) (fun zz_ => absurd zz_ (by first | decide | exact Nat.le_of_ble_eq_true rfl))
  refine g_aconst_null C d_jdk_2529_method_3_68 (pc' := 69) rfl ?_
  refine g_aload_n C d_jdk_2529_method_3_69 rfl rfl (pc' := 70) rfl ?_
  refine g_iconst C d_jdk_2529_method_3_70 (x := (0 : Int32)) rfl (pc' := 71) rfl ?_
  refine g_iload_n C d_jdk_2529_method_3_71 rfl (pc' := 72) rfl ?_
  refine g_iload_n C d_jdk_2529_method_3_72 rfl (pc' := 73) rfl ?_
  refine g_staticC C (W := 0) (argsL := [.null, (.ref a), (.int (0 : Int32)), (.int (0 : Int32)), (.int (66 : Int32))]) (rest := []) (con_d5 l Z a0 hw h a p hp y A) (Wx31 hw) (Wx32 hw) (Wx29 hw) (Wx33 hw) (by first | decide | exact Nat.le_of_ble_eq_true rfl) rfl (lenOf pd5 rfl) rfl (Nat.le_of_eq rfl) d_jdk_2529_method_3_73 (pc' := 76) rfl (by first | decide | exact Nat.le_of_ble_eq_true rfl) (by first | decide | exact Nat.le_of_ble_eq_true rfl) (fun _ q => Or.inl q) (by first | decide | exact Nat.le_of_ble_eq_true rfl) (by first | decide | exact Nat.le_of_ble_eq_true rfl) ?_
  rintro _ h1 ⟨rfl, A1⟩ K
  refine g_norm (cells' := 1) (slots' := 127) (st' := []) (by first | decide | exact Nat.le_of_ble_eq_true rfl) (by first | decide | exact Nat.le_of_ble_eq_true rfl) rfl ?_
  exact g_return C d_jdk_2529_method_3_76 (⟨rfl, A1⟩) (by first | decide | exact Nat.le_of_ble_eq_true rfl) (by first | decide | exact Nat.le_of_ble_eq_true rfl)
set_option maxRecDepth 65536 in
set_option maxHeartbeats 40000000 in
theorem con_as (l : Launch) (Z : State) (a0 : Array Value) (hw : ∀ d ∈ tables_1, d.before a0 Z = true)  (h : Heap) (a : Addr) (p : Nat) (hp : p < 66) (y : Int32) (A : Af Z h a .int 66 (one p y)) : Con l Z [a] (⟨"java/util/Arrays", "sort", "([I)V"⟩ : MethodName) jdk_65_method_2_code 1 (none) ({ frames := 4, cells := 1, slots := 127, locals := 101 } : Room) #[(.ref a)] h [] (fun v h' => v = none ∧ Af Z h' a .int 66 (one (tgt y) y)) := by
  refine Con.of (plainFor_of_name pn2) (Ls := #[.val (.ref a)]) (fun m => by first | (simp [entryFrame, mkF, argsToLocals, Value.category]; done) | rfl) ?_
  intro p_ e_ s_ m_ bel_ mt_ cd_ C
  refine g_aload_n C d_jdk_65_method_2_0 rfl rfl (pc' := 1) rfl ?_
  refine g_iconst C d_jdk_65_method_2_1 (x := (0 : Int32)) rfl (pc' := 2) rfl ?_
  refine g_iconst C d_jdk_65_method_2_2 (x := (0 : Int32)) rfl (pc' := 3) rfl ?_
  refine g_aload_n C d_jdk_65_method_2_3 rfl rfl (pc' := 4) rfl ?_
  refine g_arraylength C (A) (z := (66 : Int32)) rfl d_jdk_65_method_2_4 (pc' := 5) rfl ?_
  refine g_staticC C (W := 0) (argsL := [(.ref a), (.int (0 : Int32)), (.int (0 : Int32)), (.int (66 : Int32))]) (rest := []) (con_d4 l Z a0 hw h a p hp y A) (Wx27 hw) (Wx28 hw) (Wx29 hw) (Wx30 hw) (by first | decide | exact Nat.le_of_ble_eq_true rfl) rfl (lenOf pd3 rfl) rfl (Nat.le_of_eq rfl) d_jdk_65_method_2_5 (pc' := 8) rfl (by first | decide | exact Nat.le_of_ble_eq_true rfl) (by first | decide | exact Nat.le_of_ble_eq_true rfl) (fun _ q => Or.inl q) (by first | decide | exact Nat.le_of_ble_eq_true rfl) (by first | decide | exact Nat.le_of_ble_eq_true rfl) ?_
  rintro _ h1 ⟨rfl, A1⟩ K
  refine g_norm (cells' := 1) (slots' := 127) (st' := []) (by first | decide | exact Nat.le_of_ble_eq_true rfl) (by first | decide | exact Nat.le_of_ble_eq_true rfl) rfl ?_
  exact g_return C d_jdk_65_method_2_8 (⟨rfl, A1⟩) (by first | decide | exact Nat.le_of_ble_eq_true rfl) (by first | decide | exact Nat.le_of_ble_eq_true rfl)
set_option maxRecDepth 65536 in
set_option maxHeartbeats 40000000 in
theorem con_flip (l : Launch) (Z : State) (a0 : Array Value) (hw : ∀ d ∈ tables_1, d.before a0 Z = true)  (h : Heap) (o st pl li : Addr) (n iy k0 p : Nat) (hp : p < 66) (hk0 : k0 < 66) (hiy : iy + 1 < n) (hn : n ≤ 3) (g f : Nat → Value) (X0 X1 : Int64) (Fs : (Fld Z h o "com/example/corpusmith/corpusmith/ocr/EditRows" "starts" "[I" (.ref st))) (Fp : (Fld Z h o "com/example/corpusmith/corpusmith/ocr/EditRows" "places" "[I" (.ref pl))) (Fl : (Fld Z h o "com/example/corpusmith/corpusmith/ocr/EditRows" "listed" "[J" (.ref li))) (As : Af Z h st .int n g) (hg0 : g iy = .int (Int32.ofNat k0)) (hg1 : g (iy + 1) = .int (Int32.ofNat (k0 + 1))) (Ap : Af Z h pl .int 66 f) (hf : f k0 = .int (Int32.ofNat p)) (Al : Af Z h li .long 2 (two X0 X1)) (n1 : o ≠ li) (n2 : st ≠ li) (n3' : pl ≠ li) : Con l Z [li] (⟨"com/example/corpusmith/corpusmith/ocr/EditRows", "flip", "(I)V"⟩ : MethodName) prog_102_method_8_code 3 (none) ({ frames := 0, cells := 0, slots := 0, locals := 0 } : Room) #[(.ref o), (.int (Int32.ofNat iy))] h [] (fun v h' => v = none ∧ Af Z h' li .long 2 (two (if p / 64 = 0 then (if p / 64 = 0 then X0 else X1) ^^^ bit1 p else X0) (if p / 64 = 0 then X1 else (if p / 64 = 0 then X0 else X1) ^^^ bit1 p))) := by
  refine Con.of (plainFor_of_name pn1) (Ls := #[.val (.ref o), .val (.int (Int32.ofNat iy)), .unset]) (fun m => by first | (simp [entryFrame, mkF, argsToLocals, Value.category]; done) | rfl) ?_
  intro p_ e_ s_ m_ bel_ mt_ cd_ C
  refine g_aload_n C d_prog_102_method_8_0 rfl rfl (pc' := 1) rfl ?_
  refine g_getfield C (Wx45 hw) Via.refl (Fs) d_prog_102_method_8_1 (pc' := 4) rfl ?_
  refine g_iload_n C d_prog_102_method_8_4 rfl (pc' := 5) rfl ?_
  refine g_iaload C (As) (i32_nn (by omega)) (i := iy) (i32_clamp (by omega)) (by omega) (v := (.int (Int32.ofNat k0))) (hg0) d_prog_102_method_8_5 (pc' := 6) rfl ?_
  refine g_istore_n C d_prog_102_method_8_6 (Ls' := #[.val (.ref o), .val (.int (Int32.ofNat iy)), .val (.int (Int32.ofNat k0))]) rfl (pc' := 7) rfl ?_
  refine g_iload_n C d_prog_102_method_8_7 rfl (pc' := 8) rfl ?_
  refine g_aload_n C d_prog_102_method_8_8 rfl rfl (pc' := 9) rfl ?_
  refine g_getfield C (Wx45 hw) Via.refl (Fs) d_prog_102_method_8_9 (pc' := 12) rfl ?_
  refine g_iload_n C d_prog_102_method_8_12 rfl (pc' := 13) rfl ?_
  refine g_iconst C d_prog_102_method_8_13 (x := (1 : Int32)) rfl (pc' := 14) rfl ?_
  refine g_iadd C d_prog_102_method_8_14 (pc' := 15) rfl ?_
  refine g_norm (cells' := 0) (slots' := 0) (st' := [(.int (Int32.ofNat (iy + 1))), (.ref st), (.int (Int32.ofNat k0))]) (Nat.le_refl _) (Nat.le_refl _) (congrArg (fun z : Int32 => (Value.int z :: [(.ref st), (.int (Int32.ofNat k0))] : List Value)) (i32_succ)) ?_
  refine g_iaload C (As) (i32_nn (by omega)) (i := (iy + 1)) (i32_clamp (by omega)) (by omega) (v := (.int (Int32.ofNat (k0 + 1)))) (hg1) d_prog_102_method_8_15 (pc' := 16) rfl ?_
  refine g_if_icmpge C d_prog_102_method_8_16 (by decide) (pcT := 50) rfl (pcF := 19) rfl (fun zz_ => absurd ((lt_n (by omega) (by omega)).2 (by omega)) zz_) (fun _ => ?_)
  refine g_aload_n C d_prog_102_method_8_19 rfl rfl (pc' := 20) rfl ?_
  refine g_getfield C (Wx80 hw) Via.refl (Fl) d_prog_102_method_8_20 (pc' := 23) rfl ?_
  refine g_aload_n C d_prog_102_method_8_23 rfl rfl (pc' := 24) rfl ?_
  refine g_getfield C (Wx47 hw) Via.refl (Fp) d_prog_102_method_8_24 (pc' := 27) rfl ?_
  refine g_iload_n C d_prog_102_method_8_27 rfl (pc' := 28) rfl ?_
  refine g_iaload C (Ap) (i32_nn (by omega)) (i := k0) (i32_clamp (by omega)) (by omega) (v := (.int (Int32.ofNat p))) (hf) d_prog_102_method_8_28 (pc' := 29) rfl ?_
  refine g_bipush C d_prog_102_method_8_29 (x := (6 : Int32)) rfl (pc' := 31) rfl ?_
  refine g_iushr C d_prog_102_method_8_31 (pc' := 32) rfl ?_
  refine g_norm (cells' := 0) (slots' := 0) (st' := [(.int (Int32.ofNat (p / 64))), (.ref li)]) (Nat.le_refl _) (Nat.le_refl _) (congrArg (fun z : Int32 => (Value.int z :: [(.ref li)] : List Value)) (ush6 _ (by omega))) ?_
  refine g_dup2 C d_prog_102_method_8_32 rfl rfl (pc' := 33) rfl ?_
  refine g_laload C (Al) (i32_nn (by omega)) (i := (p / 64)) (i32_clamp (by omega)) (by omega) (v := (.long (if p / 64 = 0 then X0 else X1))) (two_at) d_prog_102_method_8_33 (pc' := 34) rfl ?_
  refine g_lconst C d_prog_102_method_8_34 (x := (1 : Int64)) rfl (pc' := 35) rfl ?_
  refine g_aload_n C d_prog_102_method_8_35 rfl rfl (pc' := 36) rfl ?_
  refine g_getfield C (Wx47 hw) Via.refl (Fp) d_prog_102_method_8_36 (pc' := 39) rfl ?_
  refine g_iload_n C d_prog_102_method_8_39 rfl (pc' := 40) rfl ?_
  refine g_iaload C (Ap) (i32_nn (by omega)) (i := k0) (i32_clamp (by omega)) (by omega) (v := (.int (Int32.ofNat p))) (hf) d_prog_102_method_8_40 (pc' := 41) rfl ?_
  refine g_lshl C d_prog_102_method_8_41 (pc' := 42) rfl ?_
  refine g_lxor C d_prog_102_method_8_42 (pc' := 43) rfl ?_
  refine g_lastore C (Al) (i32_nn (by omega)) (i := (p / 64)) (i32_clamp (by omega)) (by omega) (Or.inl (List.mem_cons_self ..)) d_prog_102_method_8_43 (pc' := 44) rfl ?_
  intro h1 W1 A1
  refine g_iinc C d_prog_102_method_8_44 rfl (y := (Int32.ofNat (k0 + 1))) (i32_succ) (Ls' := #[.val (.ref o), .val (.int (Int32.ofNat iy)), .val (.int (Int32.ofNat (k0 + 1)))]) rfl (pc' := 47) rfl ?_
  refine g_goto C d_prog_102_method_8_47 (by decide) (pc' := 7) rfl ?_
  refine g_iload_n C d_prog_102_method_8_7 rfl (pc' := 8) rfl ?_
  refine g_aload_n C d_prog_102_method_8_8 rfl rfl (pc' := 9) rfl ?_
  refine g_getfield C (Wx45 hw) Via.refl (Fs.other W1 (Or.inl n1)) d_prog_102_method_8_9 (pc' := 12) rfl ?_
  refine g_iload_n C d_prog_102_method_8_12 rfl (pc' := 13) rfl ?_
  refine g_iconst C d_prog_102_method_8_13 (x := (1 : Int32)) rfl (pc' := 14) rfl ?_
  refine g_iadd C d_prog_102_method_8_14 (pc' := 15) rfl ?_
  refine g_norm (cells' := 0) (slots' := 0) (st' := [(.int (Int32.ofNat (iy + 1))), (.ref st), (.int (Int32.ofNat (k0 + 1)))]) (Nat.le_refl _) (Nat.le_refl _) (congrArg (fun z : Int32 => (Value.int z :: [(.ref st), (.int (Int32.ofNat (k0 + 1)))] : List Value)) (i32_succ)) ?_
  refine g_iaload C (As.other W1 n2) (i32_nn (by omega)) (i := (iy + 1)) (i32_clamp (by omega)) (by omega) (v := (.int (Int32.ofNat (k0 + 1)))) (hg1) d_prog_102_method_8_15 (pc' := 16) rfl ?_
  refine g_if_icmpge C d_prog_102_method_8_16 (by decide) (pcT := 50) rfl (pcF := 19) rfl (fun _ => ?_) (fun zz_ => absurd zz_ (fun q => absurd ((lt_n (by omega) (by omega)).1 q) (by omega)))
  exact g_return C d_prog_102_method_8_50 (⟨rfl, A1.congr fun j hj => (upd_two hj (by omega)).symm⟩) (by first | decide | exact Nat.le_of_ble_eq_true rfl) (by first | decide | exact Nat.le_of_ble_eq_true rfl)
set_option maxRecDepth 65536 in
set_option maxHeartbeats 40000000 in
theorem con_step (l : Launch) (Z : State) (a0 : Array Value) (hw : ∀ d ∈ tables_1, d.before a0 Z = true)  (h : Heap) (o sa pu mi : Addr) (s0 s1 : Int64) (Fu : (Fld Z h o "com/example/corpusmith/corpusmith/ocr/EditRows" "plus" "[J" (.ref pu))) (Fn : (Fld Z h o "com/example/corpusmith/corpusmith/ocr/EditRows" "minus" "[J" (.ref mi))) (As : Af Z h sa .long 2 (two s0 s1)) (Au : Af Z h pu .long 2 (two (-1) (-1))) (An : Af Z h mi .long 2 (two 0 0)) (n1 : o ≠ pu) (n2 : o ≠ mi) (n3' : sa ≠ pu) (n4 : sa ≠ mi) (n5 : pu ≠ mi) : Con l Z [pu, mi] (⟨"com/example/corpusmith/corpusmith/ocr/EditRows", "step", "([J)V"⟩ : MethodName) prog_102_method_7_code 19 (none) ({ frames := 0, cells := 0, slots := 0, locals := 0 } : Room) #[(.ref o), (.ref sa)] h [] (fun v h' => v = none ∧ Af Z h' pu .long 2 (two (rw2 s0 s1).1 (rw2 s0 s1).2.1) ∧ Af Z h' mi .long 2 (two (rw2 s0 s1).2.2.1 (rw2 s0 s1).2.2.2)) := by
  refine Con.of (plainFor_of_name pn1) (Ls := #[.val (.ref o), .val (.ref sa), .unset, .unset, .unset, .unset, .unset, .unset, .unset, .unset, .unset, .unset, .unset, .unset, .unset, .unset, .unset, .unset, .unset]) (fun m => by first | (simp [entryFrame, mkF, argsToLocals, Value.category]; done) | rfl) ?_
  intro p_ e_ s_ m_ bel_ mt_ cd_ C
  refine g_iconst C d_prog_102_method_7_0 (x := (1 : Int32)) rfl (pc' := 1) rfl ?_
  refine g_istore_n C d_prog_102_method_7_1 (Ls' := #[.val (.ref o), .val (.ref sa), .val (.int (1 : Int32)), .unset, .unset, .unset, .unset, .unset, .unset, .unset, .unset, .unset, .unset, .unset, .unset, .unset, .unset, .unset, .unset]) rfl (pc' := 2) rfl ?_
  refine g_iconst C d_prog_102_method_7_2 (x := (0 : Int32)) rfl (pc' := 3) rfl ?_
  refine g_istore_n C d_prog_102_method_7_3 (Ls' := #[.val (.ref o), .val (.ref sa), .val (.int (1 : Int32)), .val (.int (0 : Int32)), .unset, .unset, .unset, .unset, .unset, .unset, .unset, .unset, .unset, .unset, .unset, .unset, .unset, .unset, .unset]) rfl (pc' := 4) rfl ?_
  refine g_iload_n C d_prog_102_method_7_4 rfl (pc' := 5) rfl ?_
  refine g_aload_n C d_prog_102_method_7_5 rfl rfl (pc' := 6) rfl ?_
  refine g_getfield C (Wx82 hw) Via.refl (Fu) d_prog_102_method_7_6 (pc' := 9) rfl ?_
  refine g_arraylength C (Au) (z := (2 : Int32)) rfl d_prog_102_method_7_9 (pc' := 10) rfl ?_
  refine g_if_icmpge C d_prog_102_method_7_10 (by decide) (pcT := 175) rfl (pcF := 13) rfl (fun zz_ => absurd (by first | decide | exact Nat.le_of_ble_eq_true rfl) zz_) (fun _ => ?_)
  have hc0 : (0 : Int32) < 1 := by decide
  have hc1 : ¬ (1 : Int32) < 0 := by decide
  refine g_aload_n C d_prog_102_method_7_13 rfl rfl (pc' := 14) rfl ?_
  refine g_getfield C (Wx82 hw) Via.refl (Fu) d_prog_102_method_7_14 (pc' := 17) rfl ?_
  refine g_iload_n C d_prog_102_method_7_17 rfl (pc' := 18) rfl ?_
  refine g_laload C (Au) (by first | decide | exact Nat.le_of_ble_eq_true rfl) (i := 0) rfl (by first | decide | exact Nat.le_of_ble_eq_true rfl) (v := (.long (-1 : Int64))) (rfl) d_prog_102_method_7_18 (pc' := 19) rfl ?_
  refine g_lstore C d_prog_102_method_7_19 (Ls' := #[.val (.ref o), .val (.ref sa), .val (.int (1 : Int32)), .val (.int (0 : Int32)), .val (.long (-1 : Int64)), .second, .unset, .unset, .unset, .unset, .unset, .unset, .unset, .unset, .unset, .unset, .unset, .unset, .unset]) rfl (pc' := 21) rfl ?_
  refine g_aload_n C d_prog_102_method_7_21 rfl rfl (pc' := 22) rfl ?_
  refine g_getfield C (Wx84 hw) Via.refl (Fn) d_prog_102_method_7_22 (pc' := 25) rfl ?_
  refine g_iload_n C d_prog_102_method_7_25 rfl (pc' := 26) rfl ?_
  refine g_laload C (An) (by first | decide | exact Nat.le_of_ble_eq_true rfl) (i := 0) rfl (by first | decide | exact Nat.le_of_ble_eq_true rfl) (v := (.long (0 : Int64))) (rfl) d_prog_102_method_7_26 (pc' := 27) rfl ?_
  refine g_lstore C d_prog_102_method_7_27 (Ls' := #[.val (.ref o), .val (.ref sa), .val (.int (1 : Int32)), .val (.int (0 : Int32)), .val (.long (-1 : Int64)), .second, .val (.long (0 : Int64)), .second, .unset, .unset, .unset, .unset, .unset, .unset, .unset, .unset, .unset, .unset, .unset]) rfl (pc' := 29) rfl ?_
  refine g_aload_n C d_prog_102_method_7_29 rfl rfl (pc' := 30) rfl ?_
  refine g_iload_n C d_prog_102_method_7_30 rfl (pc' := 31) rfl ?_
  refine g_laload C (As) (by first | decide | exact Nat.le_of_ble_eq_true rfl) (i := 0) rfl (by first | decide | exact Nat.le_of_ble_eq_true rfl) (v := (.long s0)) (rfl) d_prog_102_method_7_31 (pc' := 32) rfl ?_
  refine g_lstore C d_prog_102_method_7_32 (Ls' := #[.val (.ref o), .val (.ref sa), .val (.int (1 : Int32)), .val (.int (0 : Int32)), .val (.long (-1 : Int64)), .second, .val (.long (0 : Int64)), .second, .val (.long s0), .second, .unset, .unset, .unset, .unset, .unset, .unset, .unset, .unset, .unset]) rfl (pc' := 34) rfl ?_
  refine g_lload C d_prog_102_method_7_34 rfl (pc' := 36) rfl ?_
  refine g_lload C d_prog_102_method_7_36 rfl (pc' := 38) rfl ?_
  refine g_lor C d_prog_102_method_7_38 (pc' := 39) rfl ?_
  refine g_lstore C d_prog_102_method_7_39 (Ls' := #[.val (.ref o), .val (.ref sa), .val (.int (1 : Int32)), .val (.int (0 : Int32)), .val (.long (-1 : Int64)), .second, .val (.long (0 : Int64)), .second, .val (.long s0), .second, .val (.long (s0 ||| (0 : Int64))), .second, .unset, .unset, .unset, .unset, .unset, .unset, .unset]) rfl (pc' := 41) rfl ?_
  refine g_iload_n C d_prog_102_method_7_41 rfl (pc' := 42) rfl ?_
  refine g_ifge C d_prog_102_method_7_42 (by decide) (pcT := 51) rfl (pcF := 45) rfl (fun _ => ?_) (fun zz_ => absurd zz_ (hc1))
  refine g_lload C d_prog_102_method_7_51 rfl (pc' := 53) rfl ?_
  refine g_lload C d_prog_102_method_7_53 rfl (pc' := 55) rfl ?_
  refine g_land C d_prog_102_method_7_55 (pc' := 56) rfl ?_
  refine g_lload C d_prog_102_method_7_56 rfl (pc' := 58) rfl ?_
  refine g_ladd C d_prog_102_method_7_58 (pc' := 59) rfl ?_
  refine g_lload C d_prog_102_method_7_59 rfl (pc' := 61) rfl ?_
  refine g_lxor C d_prog_102_method_7_61 (pc' := 62) rfl ?_
  refine g_lload C d_prog_102_method_7_62 rfl (pc' := 64) rfl ?_
  refine g_lor C d_prog_102_method_7_64 (pc' := 65) rfl ?_
  refine g_lstore C d_prog_102_method_7_65 (Ls' := #[.val (.ref o), .val (.ref sa), .val (.int (1 : Int32)), .val (.int (0 : Int32)), .val (.long (-1 : Int64)), .second, .val (.long (0 : Int64)), .second, .val (.long s0), .second, .val (.long (s0 ||| (0 : Int64))), .second, .val (.long ((((s0 &&& (-1 : Int64)) + (-1 : Int64)) ^^^ (-1 : Int64)) ||| s0)), .second, .unset, .unset, .unset, .unset, .unset]) rfl (pc' := 67) rfl ?_
  refine g_lload C d_prog_102_method_7_67 rfl (pc' := 69) rfl ?_
  refine g_lload C d_prog_102_method_7_69 rfl (pc' := 71) rfl ?_
  refine g_lload C d_prog_102_method_7_71 rfl (pc' := 73) rfl ?_
  refine g_lor C d_prog_102_method_7_73 (pc' := 74) rfl ?_
  refine g_ldc2Long C (Wx86 hw) d_prog_102_method_7_74 (pc' := 77) rfl ?_
  refine g_lxor C d_prog_102_method_7_77 (pc' := 78) rfl ?_
  refine g_lor C d_prog_102_method_7_78 (pc' := 79) rfl ?_
  refine g_lstore C d_prog_102_method_7_79 (Ls' := #[.val (.ref o), .val (.ref sa), .val (.int (1 : Int32)), .val (.int (0 : Int32)), .val (.long (-1 : Int64)), .second, .val (.long (0 : Int64)), .second, .val (.long s0), .second, .val (.long (s0 ||| (0 : Int64))), .second, .val (.long ((((s0 &&& (-1 : Int64)) + (-1 : Int64)) ^^^ (-1 : Int64)) ||| s0)), .second, .val (.long ((0 : Int64) ||| ((((((s0 &&& (-1 : Int64)) + (-1 : Int64)) ^^^ (-1 : Int64)) ||| s0) ||| (-1 : Int64)) ^^^ (-1 : Int64)))), .second, .unset, .unset, .unset]) rfl (pc' := 81) rfl ?_
  refine g_lload C d_prog_102_method_7_81 rfl (pc' := 83) rfl ?_
  refine g_lload C d_prog_102_method_7_83 rfl (pc' := 85) rfl ?_
  refine g_land C d_prog_102_method_7_85 (pc' := 86) rfl ?_
  refine g_lstore C d_prog_102_method_7_86 (Ls' := #[.val (.ref o), .val (.ref sa), .val (.int (1 : Int32)), .val (.int (0 : Int32)), .val (.long (-1 : Int64)), .second, .val (.long (0 : Int64)), .second, .val (.long s0), .second, .val (.long (s0 ||| (0 : Int64))), .second, .val (.long ((((s0 &&& (-1 : Int64)) + (-1 : Int64)) ^^^ (-1 : Int64)) ||| s0)), .second, .val (.long ((0 : Int64) ||| ((((((s0 &&& (-1 : Int64)) + (-1 : Int64)) ^^^ (-1 : Int64)) ||| s0) ||| (-1 : Int64)) ^^^ (-1 : Int64)))), .second, .val (.long ((-1 : Int64) &&& ((((s0 &&& (-1 : Int64)) + (-1 : Int64)) ^^^ (-1 : Int64)) ||| s0))), .second, .unset]) rfl (pc' := 88) rfl ?_
  refine g_lload C d_prog_102_method_7_88 rfl (pc' := 90) rfl ?_
  refine g_bipush C d_prog_102_method_7_90 (x := (63 : Int32)) rfl (pc' := 92) rfl ?_
  refine g_lushr C d_prog_102_method_7_92 (pc' := 93) rfl ?_
  refine g_l2i C d_prog_102_method_7_93 (pc' := 94) rfl ?_
  refine g_lload C d_prog_102_method_7_94 rfl (pc' := 96) rfl ?_
  refine g_bipush C d_prog_102_method_7_96 (x := (63 : Int32)) rfl (pc' := 98) rfl ?_
  refine g_lushr C d_prog_102_method_7_98 (pc' := 99) rfl ?_
  refine g_l2i C d_prog_102_method_7_99 (pc' := 100) rfl ?_
  refine g_isub C d_prog_102_method_7_100 (pc' := 101) rfl ?_
  refine g_istore C d_prog_102_method_7_101 (Ls' := #[.val (.ref o), .val (.ref sa), .val (.int (1 : Int32)), .val (.int (0 : Int32)), .val (.long (-1 : Int64)), .second, .val (.long (0 : Int64)), .second, .val (.long s0), .second, .val (.long (s0 ||| (0 : Int64))), .second, .val (.long ((((s0 &&& (-1 : Int64)) + (-1 : Int64)) ^^^ (-1 : Int64)) ||| s0)), .second, .val (.long ((0 : Int64) ||| ((((((s0 &&& (-1 : Int64)) + (-1 : Int64)) ^^^ (-1 : Int64)) ||| s0) ||| (-1 : Int64)) ^^^ (-1 : Int64)))), .second, .val (.long ((-1 : Int64) &&& ((((s0 &&& (-1 : Int64)) + (-1 : Int64)) ^^^ (-1 : Int64)) ||| s0))), .second, .val (.int ((ushrL ((0 : Int64) ||| ((((((s0 &&& (-1 : Int64)) + (-1 : Int64)) ^^^ (-1 : Int64)) ||| s0) ||| (-1 : Int64)) ^^^ (-1 : Int64))) (63 : Int32)).toInt32 - (ushrL ((-1 : Int64) &&& ((((s0 &&& (-1 : Int64)) + (-1 : Int64)) ^^^ (-1 : Int64)) ||| s0)) (63 : Int32)).toInt32))]) rfl (pc' := 103) rfl ?_
  refine g_lload C d_prog_102_method_7_103 rfl (pc' := 105) rfl ?_
  refine g_iconst C d_prog_102_method_7_105 (x := (1 : Int32)) rfl (pc' := 106) rfl ?_
  refine g_lshl C d_prog_102_method_7_106 (pc' := 107) rfl ?_
  refine g_iload_n C d_prog_102_method_7_107 rfl (pc' := 108) rfl ?_
  refine g_ifle C d_prog_102_method_7_108 (by decide) (pcT := 115) rfl (pcF := 111) rfl (fun zz_ => absurd (hc0) zz_) (fun _ => ?_)
  refine g_iconst C d_prog_102_method_7_111 (x := (1 : Int32)) rfl (pc' := 112) rfl ?_
  refine g_goto C d_prog_102_method_7_112 (by decide) (pc' := 116) rfl ?_
  refine g_i2l C d_prog_102_method_7_116 (pc' := 117) rfl ?_
  refine g_lor C d_prog_102_method_7_117 (pc' := 118) rfl ?_
  refine g_lstore C d_prog_102_method_7_118 (Ls' := #[.val (.ref o), .val (.ref sa), .val (.int (1 : Int32)), .val (.int (0 : Int32)), .val (.long (-1 : Int64)), .second, .val (.long (0 : Int64)), .second, .val (.long s0), .second, .val (.long (s0 ||| (0 : Int64))), .second, .val (.long ((((s0 &&& (-1 : Int64)) + (-1 : Int64)) ^^^ (-1 : Int64)) ||| s0)), .second, .val (.long ((((0 : Int64) ||| ((((((s0 &&& (-1 : Int64)) + (-1 : Int64)) ^^^ (-1 : Int64)) ||| s0) ||| (-1 : Int64)) ^^^ (-1 : Int64))) <<< ((1 : Int32) &&& 63).toInt64) ||| (1 : Int32).toInt64)), .second, .val (.long ((-1 : Int64) &&& ((((s0 &&& (-1 : Int64)) + (-1 : Int64)) ^^^ (-1 : Int64)) ||| s0))), .second, .val (.int ((ushrL ((0 : Int64) ||| ((((((s0 &&& (-1 : Int64)) + (-1 : Int64)) ^^^ (-1 : Int64)) ||| s0) ||| (-1 : Int64)) ^^^ (-1 : Int64))) (63 : Int32)).toInt32 - (ushrL ((-1 : Int64) &&& ((((s0 &&& (-1 : Int64)) + (-1 : Int64)) ^^^ (-1 : Int64)) ||| s0)) (63 : Int32)).toInt32))]) rfl (pc' := 120) rfl ?_
  refine g_lload C d_prog_102_method_7_120 rfl (pc' := 122) rfl ?_
  refine g_iconst C d_prog_102_method_7_122 (x := (1 : Int32)) rfl (pc' := 123) rfl ?_
  refine g_lshl C d_prog_102_method_7_123 (pc' := 124) rfl ?_
  refine g_iload_n C d_prog_102_method_7_124 rfl (pc' := 125) rfl ?_
  refine g_ifge C d_prog_102_method_7_125 (by decide) (pcT := 132) rfl (pcF := 128) rfl (fun _ => ?_) (fun zz_ => absurd zz_ (hc1))
  refine g_iconst C d_prog_102_method_7_132 (x := (0 : Int32)) rfl (pc' := 133) rfl ?_
  refine g_i2l C d_prog_102_method_7_133 (pc' := 134) rfl ?_
  refine g_lor C d_prog_102_method_7_134 (pc' := 135) rfl ?_
  refine g_lstore C d_prog_102_method_7_135 (Ls' := #[.val (.ref o), .val (.ref sa), .val (.int (1 : Int32)), .val (.int (0 : Int32)), .val (.long (-1 : Int64)), .second, .val (.long (0 : Int64)), .second, .val (.long s0), .second, .val (.long (s0 ||| (0 : Int64))), .second, .val (.long ((((s0 &&& (-1 : Int64)) + (-1 : Int64)) ^^^ (-1 : Int64)) ||| s0)), .second, .val (.long ((((0 : Int64) ||| ((((((s0 &&& (-1 : Int64)) + (-1 : Int64)) ^^^ (-1 : Int64)) ||| s0) ||| (-1 : Int64)) ^^^ (-1 : Int64))) <<< ((1 : Int32) &&& 63).toInt64) ||| (1 : Int32).toInt64)), .second, .val (.long ((((-1 : Int64) &&& ((((s0 &&& (-1 : Int64)) + (-1 : Int64)) ^^^ (-1 : Int64)) ||| s0)) <<< ((1 : Int32) &&& 63).toInt64) ||| (0 : Int32).toInt64)), .second, .val (.int ((ushrL ((0 : Int64) ||| ((((((s0 &&& (-1 : Int64)) + (-1 : Int64)) ^^^ (-1 : Int64)) ||| s0) ||| (-1 : Int64)) ^^^ (-1 : Int64))) (63 : Int32)).toInt32 - (ushrL ((-1 : Int64) &&& ((((s0 &&& (-1 : Int64)) + (-1 : Int64)) ^^^ (-1 : Int64)) ||| s0)) (63 : Int32)).toInt32))]) rfl (pc' := 137) rfl ?_
  refine g_aload_n C d_prog_102_method_7_137 rfl rfl (pc' := 138) rfl ?_
  refine g_getfield C (Wx82 hw) Via.refl (Fu) d_prog_102_method_7_138 (pc' := 141) rfl ?_
  refine g_iload_n C d_prog_102_method_7_141 rfl (pc' := 142) rfl ?_
  refine g_lload C d_prog_102_method_7_142 rfl (pc' := 144) rfl ?_
  refine g_lload C d_prog_102_method_7_144 rfl (pc' := 146) rfl ?_
  refine g_lload C d_prog_102_method_7_146 rfl (pc' := 148) rfl ?_
  refine g_lor C d_prog_102_method_7_148 (pc' := 149) rfl ?_
  refine g_ldc2Long C (Wx86 hw) d_prog_102_method_7_149 (pc' := 152) rfl ?_
  refine g_lxor C d_prog_102_method_7_152 (pc' := 153) rfl ?_
  refine g_lor C d_prog_102_method_7_153 (pc' := 154) rfl ?_
  refine g_lastore C (Au) (by first | decide | exact Nat.le_of_ble_eq_true rfl) (i := 0) rfl (by first | decide | exact Nat.le_of_ble_eq_true rfl) (Or.inl (List.mem_cons_self ..)) d_prog_102_method_7_154 (pc' := 155) rfl ?_
  intro p0 W0 AU0
  refine g_aload_n C d_prog_102_method_7_155 rfl rfl (pc' := 156) rfl ?_
  refine g_getfield C (Wx84 hw) Via.refl ((Fn).other W0 (Or.inl n1)) d_prog_102_method_7_156 (pc' := 159) rfl ?_
  refine g_iload_n C d_prog_102_method_7_159 rfl (pc' := 160) rfl ?_
  refine g_lload C d_prog_102_method_7_160 rfl (pc' := 162) rfl ?_
  refine g_lload C d_prog_102_method_7_162 rfl (pc' := 164) rfl ?_
  refine g_land C d_prog_102_method_7_164 (pc' := 165) rfl ?_
  have AN0 := An.other W0 n5.symm
  refine g_lastore C (AN0) (by first | decide | exact Nat.le_of_ble_eq_true rfl) (i := 0) rfl (by first | decide | exact Nat.le_of_ble_eq_true rfl) (Or.inl (List.mem_cons_of_mem _ (List.mem_cons_self ..))) d_prog_102_method_7_165 (pc' := 166) rfl ?_
  intro m0 V0 AM0
  have AV0 := AU0.other V0 n5
  refine g_iload C d_prog_102_method_7_166 rfl (pc' := 168) rfl ?_
  refine g_istore_n C d_prog_102_method_7_168 (Ls' := #[.val (.ref o), .val (.ref sa), .val (.int ((ushrL ((0 : Int64) ||| ((((((s0 &&& (-1 : Int64)) + (-1 : Int64)) ^^^ (-1 : Int64)) ||| s0) ||| (-1 : Int64)) ^^^ (-1 : Int64))) (63 : Int32)).toInt32 - (ushrL ((-1 : Int64) &&& ((((s0 &&& (-1 : Int64)) + (-1 : Int64)) ^^^ (-1 : Int64)) ||| s0)) (63 : Int32)).toInt32)), .val (.int (0 : Int32)), .val (.long (-1 : Int64)), .second, .val (.long (0 : Int64)), .second, .val (.long s0), .second, .val (.long (s0 ||| (0 : Int64))), .second, .val (.long ((((s0 &&& (-1 : Int64)) + (-1 : Int64)) ^^^ (-1 : Int64)) ||| s0)), .second, .val (.long ((((0 : Int64) ||| ((((((s0 &&& (-1 : Int64)) + (-1 : Int64)) ^^^ (-1 : Int64)) ||| s0) ||| (-1 : Int64)) ^^^ (-1 : Int64))) <<< ((1 : Int32) &&& 63).toInt64) ||| (1 : Int32).toInt64)), .second, .val (.long ((((-1 : Int64) &&& ((((s0 &&& (-1 : Int64)) + (-1 : Int64)) ^^^ (-1 : Int64)) ||| s0)) <<< ((1 : Int32) &&& 63).toInt64) ||| (0 : Int32).toInt64)), .second, .val (.int ((ushrL ((0 : Int64) ||| ((((((s0 &&& (-1 : Int64)) + (-1 : Int64)) ^^^ (-1 : Int64)) ||| s0) ||| (-1 : Int64)) ^^^ (-1 : Int64))) (63 : Int32)).toInt32 - (ushrL ((-1 : Int64) &&& ((((s0 &&& (-1 : Int64)) + (-1 : Int64)) ^^^ (-1 : Int64)) ||| s0)) (63 : Int32)).toInt32))]) rfl (pc' := 169) rfl ?_
  refine g_iinc C d_prog_102_method_7_169 rfl (y := (1 : Int32)) (by first | decide | exact Nat.le_of_ble_eq_true rfl) (Ls' := #[.val (.ref o), .val (.ref sa), .val (.int ((ushrL ((0 : Int64) ||| ((((((s0 &&& (-1 : Int64)) + (-1 : Int64)) ^^^ (-1 : Int64)) ||| s0) ||| (-1 : Int64)) ^^^ (-1 : Int64))) (63 : Int32)).toInt32 - (ushrL ((-1 : Int64) &&& ((((s0 &&& (-1 : Int64)) + (-1 : Int64)) ^^^ (-1 : Int64)) ||| s0)) (63 : Int32)).toInt32)), .val (.int (1 : Int32)), .val (.long (-1 : Int64)), .second, .val (.long (0 : Int64)), .second, .val (.long s0), .second, .val (.long (s0 ||| (0 : Int64))), .second, .val (.long ((((s0 &&& (-1 : Int64)) + (-1 : Int64)) ^^^ (-1 : Int64)) ||| s0)), .second, .val (.long ((((0 : Int64) ||| ((((((s0 &&& (-1 : Int64)) + (-1 : Int64)) ^^^ (-1 : Int64)) ||| s0) ||| (-1 : Int64)) ^^^ (-1 : Int64))) <<< ((1 : Int32) &&& 63).toInt64) ||| (1 : Int32).toInt64)), .second, .val (.long ((((-1 : Int64) &&& ((((s0 &&& (-1 : Int64)) + (-1 : Int64)) ^^^ (-1 : Int64)) ||| s0)) <<< ((1 : Int32) &&& 63).toInt64) ||| (0 : Int32).toInt64)), .second, .val (.int ((ushrL ((0 : Int64) ||| ((((((s0 &&& (-1 : Int64)) + (-1 : Int64)) ^^^ (-1 : Int64)) ||| s0) ||| (-1 : Int64)) ^^^ (-1 : Int64))) (63 : Int32)).toInt32 - (ushrL ((-1 : Int64) &&& ((((s0 &&& (-1 : Int64)) + (-1 : Int64)) ^^^ (-1 : Int64)) ||| s0)) (63 : Int32)).toInt32))]) rfl (pc' := 172) rfl ?_
  refine g_goto C d_prog_102_method_7_172 (by decide) (pc' := 4) rfl ?_
  refine g_iload_n C d_prog_102_method_7_4 rfl (pc' := 5) rfl ?_
  refine g_aload_n C d_prog_102_method_7_5 rfl rfl (pc' := 6) rfl ?_
  refine g_getfield C (Wx82 hw) Via.refl ((((Fu).other W0 (Or.inl n1)).other V0 (Or.inl n2))) d_prog_102_method_7_6 (pc' := 9) rfl ?_
  refine g_arraylength C (AV0) (z := (2 : Int32)) rfl d_prog_102_method_7_9 (pc' := 10) rfl ?_
  refine g_if_icmpge C d_prog_102_method_7_10 (by decide) (pcT := 175) rfl (pcF := 13) rfl (fun zz_ => absurd (by first | decide | exact Nat.le_of_ble_eq_true rfl) zz_) (fun _ => ?_)
  obtain ⟨c1, h_c1⟩ : ∃ z : Int32, z = ((ushrL ((0 : Int64) ||| ((((((s0 &&& (-1 : Int64)) + (-1 : Int64)) ^^^ (-1 : Int64)) ||| s0) ||| (-1 : Int64)) ^^^ (-1 : Int64))) (63 : Int32)).toInt32 - (ushrL ((-1 : Int64) &&& ((((s0 &&& (-1 : Int64)) + (-1 : Int64)) ^^^ (-1 : Int64)) ||| s0)) (63 : Int32)).toInt32) := ⟨_, rfl⟩
  rw [← h_c1]
  rcases sgn c1 with hc | hc | hc
  · have hc0 : ¬ (0 : Int32) < c1 := by rw [hc]; decide
    have hc1 : ¬ c1 < (0 : Int32) := by rw [hc]; decide
    refine g_aload_n C d_prog_102_method_7_13 rfl rfl (pc' := 14) rfl ?_
    refine g_getfield C (Wx82 hw) Via.refl ((((Fu).other W0 (Or.inl n1)).other V0 (Or.inl n2))) d_prog_102_method_7_14 (pc' := 17) rfl ?_
    refine g_iload_n C d_prog_102_method_7_17 rfl (pc' := 18) rfl ?_
    refine g_laload C (AV0) (by first | decide | exact Nat.le_of_ble_eq_true rfl) (i := 1) rfl (by first | decide | exact Nat.le_of_ble_eq_true rfl) (v := (.long (-1 : Int64))) (rfl) d_prog_102_method_7_18 (pc' := 19) rfl ?_
    refine g_lstore C d_prog_102_method_7_19 (Ls' := #[.val (.ref o), .val (.ref sa), .val (.int c1), .val (.int (1 : Int32)), .val (.long (-1 : Int64)), .second, .val (.long (0 : Int64)), .second, .val (.long s0), .second, .val (.long (s0 ||| (0 : Int64))), .second, .val (.long ((((s0 &&& (-1 : Int64)) + (-1 : Int64)) ^^^ (-1 : Int64)) ||| s0)), .second, .val (.long ((((0 : Int64) ||| ((((((s0 &&& (-1 : Int64)) + (-1 : Int64)) ^^^ (-1 : Int64)) ||| s0) ||| (-1 : Int64)) ^^^ (-1 : Int64))) <<< ((1 : Int32) &&& 63).toInt64) ||| (1 : Int32).toInt64)), .second, .val (.long ((((-1 : Int64) &&& ((((s0 &&& (-1 : Int64)) + (-1 : Int64)) ^^^ (-1 : Int64)) ||| s0)) <<< ((1 : Int32) &&& 63).toInt64) ||| (0 : Int32).toInt64)), .second, .val (.int c1)]) rfl (pc' := 21) rfl ?_
    refine g_aload_n C d_prog_102_method_7_21 rfl rfl (pc' := 22) rfl ?_
    refine g_getfield C (Wx84 hw) Via.refl ((((Fn).other W0 (Or.inl n1)).other V0 (Or.inl n2))) d_prog_102_method_7_22 (pc' := 25) rfl ?_
    refine g_iload_n C d_prog_102_method_7_25 rfl (pc' := 26) rfl ?_
    refine g_laload C (AM0) (by first | decide | exact Nat.le_of_ble_eq_true rfl) (i := 1) rfl (by first | decide | exact Nat.le_of_ble_eq_true rfl) (v := (.long (0 : Int64))) (rfl) d_prog_102_method_7_26 (pc' := 27) rfl ?_
    refine g_lstore C d_prog_102_method_7_27 (Ls' := #[.val (.ref o), .val (.ref sa), .val (.int c1), .val (.int (1 : Int32)), .val (.long (-1 : Int64)), .second, .val (.long (0 : Int64)), .second, .val (.long s0), .second, .val (.long (s0 ||| (0 : Int64))), .second, .val (.long ((((s0 &&& (-1 : Int64)) + (-1 : Int64)) ^^^ (-1 : Int64)) ||| s0)), .second, .val (.long ((((0 : Int64) ||| ((((((s0 &&& (-1 : Int64)) + (-1 : Int64)) ^^^ (-1 : Int64)) ||| s0) ||| (-1 : Int64)) ^^^ (-1 : Int64))) <<< ((1 : Int32) &&& 63).toInt64) ||| (1 : Int32).toInt64)), .second, .val (.long ((((-1 : Int64) &&& ((((s0 &&& (-1 : Int64)) + (-1 : Int64)) ^^^ (-1 : Int64)) ||| s0)) <<< ((1 : Int32) &&& 63).toInt64) ||| (0 : Int32).toInt64)), .second, .val (.int c1)]) rfl (pc' := 29) rfl ?_
    refine g_aload_n C d_prog_102_method_7_29 rfl rfl (pc' := 30) rfl ?_
    refine g_iload_n C d_prog_102_method_7_30 rfl (pc' := 31) rfl ?_
    refine g_laload C ((((As).other W0 (n3')).other V0 (n4))) (by first | decide | exact Nat.le_of_ble_eq_true rfl) (i := 1) rfl (by first | decide | exact Nat.le_of_ble_eq_true rfl) (v := (.long s1)) (rfl) d_prog_102_method_7_31 (pc' := 32) rfl ?_
    refine g_lstore C d_prog_102_method_7_32 (Ls' := #[.val (.ref o), .val (.ref sa), .val (.int c1), .val (.int (1 : Int32)), .val (.long (-1 : Int64)), .second, .val (.long (0 : Int64)), .second, .val (.long s1), .second, .val (.long (s0 ||| (0 : Int64))), .second, .val (.long ((((s0 &&& (-1 : Int64)) + (-1 : Int64)) ^^^ (-1 : Int64)) ||| s0)), .second, .val (.long ((((0 : Int64) ||| ((((((s0 &&& (-1 : Int64)) + (-1 : Int64)) ^^^ (-1 : Int64)) ||| s0) ||| (-1 : Int64)) ^^^ (-1 : Int64))) <<< ((1 : Int32) &&& 63).toInt64) ||| (1 : Int32).toInt64)), .second, .val (.long ((((-1 : Int64) &&& ((((s0 &&& (-1 : Int64)) + (-1 : Int64)) ^^^ (-1 : Int64)) ||| s0)) <<< ((1 : Int32) &&& 63).toInt64) ||| (0 : Int32).toInt64)), .second, .val (.int c1)]) rfl (pc' := 34) rfl ?_
    refine g_lload C d_prog_102_method_7_34 rfl (pc' := 36) rfl ?_
    refine g_lload C d_prog_102_method_7_36 rfl (pc' := 38) rfl ?_
    refine g_lor C d_prog_102_method_7_38 (pc' := 39) rfl ?_
    refine g_lstore C d_prog_102_method_7_39 (Ls' := #[.val (.ref o), .val (.ref sa), .val (.int c1), .val (.int (1 : Int32)), .val (.long (-1 : Int64)), .second, .val (.long (0 : Int64)), .second, .val (.long s1), .second, .val (.long (s1 ||| (0 : Int64))), .second, .val (.long ((((s0 &&& (-1 : Int64)) + (-1 : Int64)) ^^^ (-1 : Int64)) ||| s0)), .second, .val (.long ((((0 : Int64) ||| ((((((s0 &&& (-1 : Int64)) + (-1 : Int64)) ^^^ (-1 : Int64)) ||| s0) ||| (-1 : Int64)) ^^^ (-1 : Int64))) <<< ((1 : Int32) &&& 63).toInt64) ||| (1 : Int32).toInt64)), .second, .val (.long ((((-1 : Int64) &&& ((((s0 &&& (-1 : Int64)) + (-1 : Int64)) ^^^ (-1 : Int64)) ||| s0)) <<< ((1 : Int32) &&& 63).toInt64) ||| (0 : Int32).toInt64)), .second, .val (.int c1)]) rfl (pc' := 41) rfl ?_
    refine g_iload_n C d_prog_102_method_7_41 rfl (pc' := 42) rfl ?_
    refine g_ifge C d_prog_102_method_7_42 (by decide) (pcT := 51) rfl (pcF := 45) rfl (fun _ => ?_) (fun zz_ => absurd zz_ (hc1))
    refine g_lload C d_prog_102_method_7_51 rfl (pc' := 53) rfl ?_
    refine g_lload C d_prog_102_method_7_53 rfl (pc' := 55) rfl ?_
    refine g_land C d_prog_102_method_7_55 (pc' := 56) rfl ?_
    refine g_lload C d_prog_102_method_7_56 rfl (pc' := 58) rfl ?_
    refine g_ladd C d_prog_102_method_7_58 (pc' := 59) rfl ?_
    refine g_lload C d_prog_102_method_7_59 rfl (pc' := 61) rfl ?_
    refine g_lxor C d_prog_102_method_7_61 (pc' := 62) rfl ?_
    refine g_lload C d_prog_102_method_7_62 rfl (pc' := 64) rfl ?_
    refine g_lor C d_prog_102_method_7_64 (pc' := 65) rfl ?_
    refine g_lstore C d_prog_102_method_7_65 (Ls' := #[.val (.ref o), .val (.ref sa), .val (.int c1), .val (.int (1 : Int32)), .val (.long (-1 : Int64)), .second, .val (.long (0 : Int64)), .second, .val (.long s1), .second, .val (.long (s1 ||| (0 : Int64))), .second, .val (.long ((((s1 &&& (-1 : Int64)) + (-1 : Int64)) ^^^ (-1 : Int64)) ||| s1)), .second, .val (.long ((((0 : Int64) ||| ((((((s0 &&& (-1 : Int64)) + (-1 : Int64)) ^^^ (-1 : Int64)) ||| s0) ||| (-1 : Int64)) ^^^ (-1 : Int64))) <<< ((1 : Int32) &&& 63).toInt64) ||| (1 : Int32).toInt64)), .second, .val (.long ((((-1 : Int64) &&& ((((s0 &&& (-1 : Int64)) + (-1 : Int64)) ^^^ (-1 : Int64)) ||| s0)) <<< ((1 : Int32) &&& 63).toInt64) ||| (0 : Int32).toInt64)), .second, .val (.int c1)]) rfl (pc' := 67) rfl ?_
    refine g_lload C d_prog_102_method_7_67 rfl (pc' := 69) rfl ?_
    refine g_lload C d_prog_102_method_7_69 rfl (pc' := 71) rfl ?_
    refine g_lload C d_prog_102_method_7_71 rfl (pc' := 73) rfl ?_
    refine g_lor C d_prog_102_method_7_73 (pc' := 74) rfl ?_
    refine g_ldc2Long C (Wx86 hw) d_prog_102_method_7_74 (pc' := 77) rfl ?_
    refine g_lxor C d_prog_102_method_7_77 (pc' := 78) rfl ?_
    refine g_lor C d_prog_102_method_7_78 (pc' := 79) rfl ?_
    refine g_lstore C d_prog_102_method_7_79 (Ls' := #[.val (.ref o), .val (.ref sa), .val (.int c1), .val (.int (1 : Int32)), .val (.long (-1 : Int64)), .second, .val (.long (0 : Int64)), .second, .val (.long s1), .second, .val (.long (s1 ||| (0 : Int64))), .second, .val (.long ((((s1 &&& (-1 : Int64)) + (-1 : Int64)) ^^^ (-1 : Int64)) ||| s1)), .second, .val (.long ((0 : Int64) ||| ((((((s1 &&& (-1 : Int64)) + (-1 : Int64)) ^^^ (-1 : Int64)) ||| s1) ||| (-1 : Int64)) ^^^ (-1 : Int64)))), .second, .val (.long ((((-1 : Int64) &&& ((((s0 &&& (-1 : Int64)) + (-1 : Int64)) ^^^ (-1 : Int64)) ||| s0)) <<< ((1 : Int32) &&& 63).toInt64) ||| (0 : Int32).toInt64)), .second, .val (.int c1)]) rfl (pc' := 81) rfl ?_
    refine g_lload C d_prog_102_method_7_81 rfl (pc' := 83) rfl ?_
    refine g_lload C d_prog_102_method_7_83 rfl (pc' := 85) rfl ?_
    refine g_land C d_prog_102_method_7_85 (pc' := 86) rfl ?_
    refine g_lstore C d_prog_102_method_7_86 (Ls' := #[.val (.ref o), .val (.ref sa), .val (.int c1), .val (.int (1 : Int32)), .val (.long (-1 : Int64)), .second, .val (.long (0 : Int64)), .second, .val (.long s1), .second, .val (.long (s1 ||| (0 : Int64))), .second, .val (.long ((((s1 &&& (-1 : Int64)) + (-1 : Int64)) ^^^ (-1 : Int64)) ||| s1)), .second, .val (.long ((0 : Int64) ||| ((((((s1 &&& (-1 : Int64)) + (-1 : Int64)) ^^^ (-1 : Int64)) ||| s1) ||| (-1 : Int64)) ^^^ (-1 : Int64)))), .second, .val (.long ((-1 : Int64) &&& ((((s1 &&& (-1 : Int64)) + (-1 : Int64)) ^^^ (-1 : Int64)) ||| s1))), .second, .val (.int c1)]) rfl (pc' := 88) rfl ?_
    refine g_lload C d_prog_102_method_7_88 rfl (pc' := 90) rfl ?_
    refine g_bipush C d_prog_102_method_7_90 (x := (63 : Int32)) rfl (pc' := 92) rfl ?_
    refine g_lushr C d_prog_102_method_7_92 (pc' := 93) rfl ?_
    refine g_l2i C d_prog_102_method_7_93 (pc' := 94) rfl ?_
    refine g_lload C d_prog_102_method_7_94 rfl (pc' := 96) rfl ?_
    refine g_bipush C d_prog_102_method_7_96 (x := (63 : Int32)) rfl (pc' := 98) rfl ?_
    refine g_lushr C d_prog_102_method_7_98 (pc' := 99) rfl ?_
    refine g_l2i C d_prog_102_method_7_99 (pc' := 100) rfl ?_
    refine g_isub C d_prog_102_method_7_100 (pc' := 101) rfl ?_
    refine g_istore C d_prog_102_method_7_101 (Ls' := #[.val (.ref o), .val (.ref sa), .val (.int c1), .val (.int (1 : Int32)), .val (.long (-1 : Int64)), .second, .val (.long (0 : Int64)), .second, .val (.long s1), .second, .val (.long (s1 ||| (0 : Int64))), .second, .val (.long ((((s1 &&& (-1 : Int64)) + (-1 : Int64)) ^^^ (-1 : Int64)) ||| s1)), .second, .val (.long ((0 : Int64) ||| ((((((s1 &&& (-1 : Int64)) + (-1 : Int64)) ^^^ (-1 : Int64)) ||| s1) ||| (-1 : Int64)) ^^^ (-1 : Int64)))), .second, .val (.long ((-1 : Int64) &&& ((((s1 &&& (-1 : Int64)) + (-1 : Int64)) ^^^ (-1 : Int64)) ||| s1))), .second, .val (.int ((ushrL ((0 : Int64) ||| ((((((s1 &&& (-1 : Int64)) + (-1 : Int64)) ^^^ (-1 : Int64)) ||| s1) ||| (-1 : Int64)) ^^^ (-1 : Int64))) (63 : Int32)).toInt32 - (ushrL ((-1 : Int64) &&& ((((s1 &&& (-1 : Int64)) + (-1 : Int64)) ^^^ (-1 : Int64)) ||| s1)) (63 : Int32)).toInt32))]) rfl (pc' := 103) rfl ?_
    refine g_lload C d_prog_102_method_7_103 rfl (pc' := 105) rfl ?_
    refine g_iconst C d_prog_102_method_7_105 (x := (1 : Int32)) rfl (pc' := 106) rfl ?_
    refine g_lshl C d_prog_102_method_7_106 (pc' := 107) rfl ?_
    refine g_iload_n C d_prog_102_method_7_107 rfl (pc' := 108) rfl ?_
    refine g_ifle C d_prog_102_method_7_108 (by decide) (pcT := 115) rfl (pcF := 111) rfl (fun _ => ?_) (fun zz_ => absurd zz_ (hc0))
    refine g_iconst C d_prog_102_method_7_115 (x := (0 : Int32)) rfl (pc' := 116) rfl ?_
    refine g_i2l C d_prog_102_method_7_116 (pc' := 117) rfl ?_
    refine g_lor C d_prog_102_method_7_117 (pc' := 118) rfl ?_
    refine g_lstore C d_prog_102_method_7_118 (Ls' := #[.val (.ref o), .val (.ref sa), .val (.int c1), .val (.int (1 : Int32)), .val (.long (-1 : Int64)), .second, .val (.long (0 : Int64)), .second, .val (.long s1), .second, .val (.long (s1 ||| (0 : Int64))), .second, .val (.long ((((s1 &&& (-1 : Int64)) + (-1 : Int64)) ^^^ (-1 : Int64)) ||| s1)), .second, .val (.long ((((0 : Int64) ||| ((((((s1 &&& (-1 : Int64)) + (-1 : Int64)) ^^^ (-1 : Int64)) ||| s1) ||| (-1 : Int64)) ^^^ (-1 : Int64))) <<< ((1 : Int32) &&& 63).toInt64) ||| (0 : Int32).toInt64)), .second, .val (.long ((-1 : Int64) &&& ((((s1 &&& (-1 : Int64)) + (-1 : Int64)) ^^^ (-1 : Int64)) ||| s1))), .second, .val (.int ((ushrL ((0 : Int64) ||| ((((((s1 &&& (-1 : Int64)) + (-1 : Int64)) ^^^ (-1 : Int64)) ||| s1) ||| (-1 : Int64)) ^^^ (-1 : Int64))) (63 : Int32)).toInt32 - (ushrL ((-1 : Int64) &&& ((((s1 &&& (-1 : Int64)) + (-1 : Int64)) ^^^ (-1 : Int64)) ||| s1)) (63 : Int32)).toInt32))]) rfl (pc' := 120) rfl ?_
    refine g_lload C d_prog_102_method_7_120 rfl (pc' := 122) rfl ?_
    refine g_iconst C d_prog_102_method_7_122 (x := (1 : Int32)) rfl (pc' := 123) rfl ?_
    refine g_lshl C d_prog_102_method_7_123 (pc' := 124) rfl ?_
    refine g_iload_n C d_prog_102_method_7_124 rfl (pc' := 125) rfl ?_
    refine g_ifge C d_prog_102_method_7_125 (by decide) (pcT := 132) rfl (pcF := 128) rfl (fun _ => ?_) (fun zz_ => absurd zz_ (hc1))
    refine g_iconst C d_prog_102_method_7_132 (x := (0 : Int32)) rfl (pc' := 133) rfl ?_
    refine g_i2l C d_prog_102_method_7_133 (pc' := 134) rfl ?_
    refine g_lor C d_prog_102_method_7_134 (pc' := 135) rfl ?_
    refine g_lstore C d_prog_102_method_7_135 (Ls' := #[.val (.ref o), .val (.ref sa), .val (.int c1), .val (.int (1 : Int32)), .val (.long (-1 : Int64)), .second, .val (.long (0 : Int64)), .second, .val (.long s1), .second, .val (.long (s1 ||| (0 : Int64))), .second, .val (.long ((((s1 &&& (-1 : Int64)) + (-1 : Int64)) ^^^ (-1 : Int64)) ||| s1)), .second, .val (.long ((((0 : Int64) ||| ((((((s1 &&& (-1 : Int64)) + (-1 : Int64)) ^^^ (-1 : Int64)) ||| s1) ||| (-1 : Int64)) ^^^ (-1 : Int64))) <<< ((1 : Int32) &&& 63).toInt64) ||| (0 : Int32).toInt64)), .second, .val (.long ((((-1 : Int64) &&& ((((s1 &&& (-1 : Int64)) + (-1 : Int64)) ^^^ (-1 : Int64)) ||| s1)) <<< ((1 : Int32) &&& 63).toInt64) ||| (0 : Int32).toInt64)), .second, .val (.int ((ushrL ((0 : Int64) ||| ((((((s1 &&& (-1 : Int64)) + (-1 : Int64)) ^^^ (-1 : Int64)) ||| s1) ||| (-1 : Int64)) ^^^ (-1 : Int64))) (63 : Int32)).toInt32 - (ushrL ((-1 : Int64) &&& ((((s1 &&& (-1 : Int64)) + (-1 : Int64)) ^^^ (-1 : Int64)) ||| s1)) (63 : Int32)).toInt32))]) rfl (pc' := 137) rfl ?_
    refine g_aload_n C d_prog_102_method_7_137 rfl rfl (pc' := 138) rfl ?_
    refine g_getfield C (Wx82 hw) Via.refl ((((Fu).other W0 (Or.inl n1)).other V0 (Or.inl n2))) d_prog_102_method_7_138 (pc' := 141) rfl ?_
    refine g_iload_n C d_prog_102_method_7_141 rfl (pc' := 142) rfl ?_
    refine g_lload C d_prog_102_method_7_142 rfl (pc' := 144) rfl ?_
    refine g_lload C d_prog_102_method_7_144 rfl (pc' := 146) rfl ?_
    refine g_lload C d_prog_102_method_7_146 rfl (pc' := 148) rfl ?_
    refine g_lor C d_prog_102_method_7_148 (pc' := 149) rfl ?_
    refine g_ldc2Long C (Wx86 hw) d_prog_102_method_7_149 (pc' := 152) rfl ?_
    refine g_lxor C d_prog_102_method_7_152 (pc' := 153) rfl ?_
    refine g_lor C d_prog_102_method_7_153 (pc' := 154) rfl ?_
    refine g_lastore C (AV0) (by first | decide | exact Nat.le_of_ble_eq_true rfl) (i := 1) rfl (by first | decide | exact Nat.le_of_ble_eq_true rfl) (Or.inl (List.mem_cons_self ..)) d_prog_102_method_7_154 (pc' := 155) rfl ?_
    intro p1 W1 AU1
    refine g_aload_n C d_prog_102_method_7_155 rfl rfl (pc' := 156) rfl ?_
    refine g_getfield C (Wx84 hw) Via.refl (((((Fn).other W0 (Or.inl n1)).other V0 (Or.inl n2))).other W1 (Or.inl n1)) d_prog_102_method_7_156 (pc' := 159) rfl ?_
    refine g_iload_n C d_prog_102_method_7_159 rfl (pc' := 160) rfl ?_
    refine g_lload C d_prog_102_method_7_160 rfl (pc' := 162) rfl ?_
    refine g_lload C d_prog_102_method_7_162 rfl (pc' := 164) rfl ?_
    refine g_land C d_prog_102_method_7_164 (pc' := 165) rfl ?_
    have AN1 := AM0.other W1 n5.symm
    refine g_lastore C (AN1) (by first | decide | exact Nat.le_of_ble_eq_true rfl) (i := 1) rfl (by first | decide | exact Nat.le_of_ble_eq_true rfl) (Or.inl (List.mem_cons_of_mem _ (List.mem_cons_self ..))) d_prog_102_method_7_165 (pc' := 166) rfl ?_
    intro m1 V1 AM1
    have AV1 := AU1.other V1 n5
    refine g_iload C d_prog_102_method_7_166 rfl (pc' := 168) rfl ?_
    refine g_istore_n C d_prog_102_method_7_168 (Ls' := #[.val (.ref o), .val (.ref sa), .val (.int ((ushrL ((0 : Int64) ||| ((((((s1 &&& (-1 : Int64)) + (-1 : Int64)) ^^^ (-1 : Int64)) ||| s1) ||| (-1 : Int64)) ^^^ (-1 : Int64))) (63 : Int32)).toInt32 - (ushrL ((-1 : Int64) &&& ((((s1 &&& (-1 : Int64)) + (-1 : Int64)) ^^^ (-1 : Int64)) ||| s1)) (63 : Int32)).toInt32)), .val (.int (1 : Int32)), .val (.long (-1 : Int64)), .second, .val (.long (0 : Int64)), .second, .val (.long s1), .second, .val (.long (s1 ||| (0 : Int64))), .second, .val (.long ((((s1 &&& (-1 : Int64)) + (-1 : Int64)) ^^^ (-1 : Int64)) ||| s1)), .second, .val (.long ((((0 : Int64) ||| ((((((s1 &&& (-1 : Int64)) + (-1 : Int64)) ^^^ (-1 : Int64)) ||| s1) ||| (-1 : Int64)) ^^^ (-1 : Int64))) <<< ((1 : Int32) &&& 63).toInt64) ||| (0 : Int32).toInt64)), .second, .val (.long ((((-1 : Int64) &&& ((((s1 &&& (-1 : Int64)) + (-1 : Int64)) ^^^ (-1 : Int64)) ||| s1)) <<< ((1 : Int32) &&& 63).toInt64) ||| (0 : Int32).toInt64)), .second, .val (.int ((ushrL ((0 : Int64) ||| ((((((s1 &&& (-1 : Int64)) + (-1 : Int64)) ^^^ (-1 : Int64)) ||| s1) ||| (-1 : Int64)) ^^^ (-1 : Int64))) (63 : Int32)).toInt32 - (ushrL ((-1 : Int64) &&& ((((s1 &&& (-1 : Int64)) + (-1 : Int64)) ^^^ (-1 : Int64)) ||| s1)) (63 : Int32)).toInt32))]) rfl (pc' := 169) rfl ?_
    refine g_iinc C d_prog_102_method_7_169 rfl (y := (2 : Int32)) (by first | decide | exact Nat.le_of_ble_eq_true rfl) (Ls' := #[.val (.ref o), .val (.ref sa), .val (.int ((ushrL ((0 : Int64) ||| ((((((s1 &&& (-1 : Int64)) + (-1 : Int64)) ^^^ (-1 : Int64)) ||| s1) ||| (-1 : Int64)) ^^^ (-1 : Int64))) (63 : Int32)).toInt32 - (ushrL ((-1 : Int64) &&& ((((s1 &&& (-1 : Int64)) + (-1 : Int64)) ^^^ (-1 : Int64)) ||| s1)) (63 : Int32)).toInt32)), .val (.int (2 : Int32)), .val (.long (-1 : Int64)), .second, .val (.long (0 : Int64)), .second, .val (.long s1), .second, .val (.long (s1 ||| (0 : Int64))), .second, .val (.long ((((s1 &&& (-1 : Int64)) + (-1 : Int64)) ^^^ (-1 : Int64)) ||| s1)), .second, .val (.long ((((0 : Int64) ||| ((((((s1 &&& (-1 : Int64)) + (-1 : Int64)) ^^^ (-1 : Int64)) ||| s1) ||| (-1 : Int64)) ^^^ (-1 : Int64))) <<< ((1 : Int32) &&& 63).toInt64) ||| (0 : Int32).toInt64)), .second, .val (.long ((((-1 : Int64) &&& ((((s1 &&& (-1 : Int64)) + (-1 : Int64)) ^^^ (-1 : Int64)) ||| s1)) <<< ((1 : Int32) &&& 63).toInt64) ||| (0 : Int32).toInt64)), .second, .val (.int ((ushrL ((0 : Int64) ||| ((((((s1 &&& (-1 : Int64)) + (-1 : Int64)) ^^^ (-1 : Int64)) ||| s1) ||| (-1 : Int64)) ^^^ (-1 : Int64))) (63 : Int32)).toInt32 - (ushrL ((-1 : Int64) &&& ((((s1 &&& (-1 : Int64)) + (-1 : Int64)) ^^^ (-1 : Int64)) ||| s1)) (63 : Int32)).toInt32))]) rfl (pc' := 172) rfl ?_
    refine g_goto C d_prog_102_method_7_172 (by decide) (pc' := 4) rfl ?_
    refine g_iload_n C d_prog_102_method_7_4 rfl (pc' := 5) rfl ?_
    refine g_aload_n C d_prog_102_method_7_5 rfl rfl (pc' := 6) rfl ?_
    refine g_getfield C (Wx82 hw) Via.refl (((((((Fu).other W0 (Or.inl n1)).other V0 (Or.inl n2))).other W1 (Or.inl n1)).other V1 (Or.inl n2))) d_prog_102_method_7_6 (pc' := 9) rfl ?_
    refine g_arraylength C (AV1) (z := (2 : Int32)) rfl d_prog_102_method_7_9 (pc' := 10) rfl ?_
    refine g_if_icmpge C d_prog_102_method_7_10 (by decide) (pcT := 175) rfl (pcF := 13) rfl (fun _ => ?_) (fun zz_ => absurd zz_ (by first | decide | exact Nat.le_of_ble_eq_true rfl))
    have e1 : c1 = (stp 1 (-1) 0 s0).2.2 := by rw [stp_p (by first | decide | exact Nat.le_of_ble_eq_true rfl) (by first | decide | exact Nat.le_of_ble_eq_true rfl)]; exact h_c1
    have R1 : Af Z m1 pu .long 2 (two (rw2 s0 s1).1 (rw2 s0 s1).2.1) := AV1.congr fun j hj => by
      rcases (show j = 0 ∨ j = 1 by omega) with rfl | rfl
      · show Value.long (stp 1 (-1) 0 s0).1 = _; rw [stp_p (by first | decide | exact Nat.le_of_ble_eq_true rfl) (by first | decide | exact Nat.le_of_ble_eq_true rfl)]; rfl
      · show Value.long (stp (stp 1 (-1) 0 s0).2.2 (-1) 0 s1).1 = _; rw [← e1]; rw [stp_0 hc0 hc1]; rfl
    have R2 : Af Z m1 mi .long 2 (two (rw2 s0 s1).2.2.1 (rw2 s0 s1).2.2.2) := AM1.congr fun j hj => by
      rcases (show j = 0 ∨ j = 1 by omega) with rfl | rfl
      · show Value.long (stp 1 (-1) 0 s0).2.1 = _; rw [stp_p (by first | decide | exact Nat.le_of_ble_eq_true rfl) (by first | decide | exact Nat.le_of_ble_eq_true rfl)]; rfl
      · show Value.long (stp (stp 1 (-1) 0 s0).2.2 (-1) 0 s1).2.1 = _; rw [← e1]; rw [stp_0 hc0 hc1]; rfl
    exact g_return C d_prog_102_method_7_175 (⟨rfl, R1, R2⟩) (by first | decide | exact Nat.le_of_ble_eq_true rfl) (by first | decide | exact Nat.le_of_ble_eq_true rfl)
  · have hc0 := hc
    have hc1 := (pos_nn hc).1
    refine g_aload_n C d_prog_102_method_7_13 rfl rfl (pc' := 14) rfl ?_
    refine g_getfield C (Wx82 hw) Via.refl ((((Fu).other W0 (Or.inl n1)).other V0 (Or.inl n2))) d_prog_102_method_7_14 (pc' := 17) rfl ?_
    refine g_iload_n C d_prog_102_method_7_17 rfl (pc' := 18) rfl ?_
    refine g_laload C (AV0) (by first | decide | exact Nat.le_of_ble_eq_true rfl) (i := 1) rfl (by first | decide | exact Nat.le_of_ble_eq_true rfl) (v := (.long (-1 : Int64))) (rfl) d_prog_102_method_7_18 (pc' := 19) rfl ?_
    refine g_lstore C d_prog_102_method_7_19 (Ls' := #[.val (.ref o), .val (.ref sa), .val (.int c1), .val (.int (1 : Int32)), .val (.long (-1 : Int64)), .second, .val (.long (0 : Int64)), .second, .val (.long s0), .second, .val (.long (s0 ||| (0 : Int64))), .second, .val (.long ((((s0 &&& (-1 : Int64)) + (-1 : Int64)) ^^^ (-1 : Int64)) ||| s0)), .second, .val (.long ((((0 : Int64) ||| ((((((s0 &&& (-1 : Int64)) + (-1 : Int64)) ^^^ (-1 : Int64)) ||| s0) ||| (-1 : Int64)) ^^^ (-1 : Int64))) <<< ((1 : Int32) &&& 63).toInt64) ||| (1 : Int32).toInt64)), .second, .val (.long ((((-1 : Int64) &&& ((((s0 &&& (-1 : Int64)) + (-1 : Int64)) ^^^ (-1 : Int64)) ||| s0)) <<< ((1 : Int32) &&& 63).toInt64) ||| (0 : Int32).toInt64)), .second, .val (.int c1)]) rfl (pc' := 21) rfl ?_
    refine g_aload_n C d_prog_102_method_7_21 rfl rfl (pc' := 22) rfl ?_
    refine g_getfield C (Wx84 hw) Via.refl ((((Fn).other W0 (Or.inl n1)).other V0 (Or.inl n2))) d_prog_102_method_7_22 (pc' := 25) rfl ?_
    refine g_iload_n C d_prog_102_method_7_25 rfl (pc' := 26) rfl ?_
    refine g_laload C (AM0) (by first | decide | exact Nat.le_of_ble_eq_true rfl) (i := 1) rfl (by first | decide | exact Nat.le_of_ble_eq_true rfl) (v := (.long (0 : Int64))) (rfl) d_prog_102_method_7_26 (pc' := 27) rfl ?_
    refine g_lstore C d_prog_102_method_7_27 (Ls' := #[.val (.ref o), .val (.ref sa), .val (.int c1), .val (.int (1 : Int32)), .val (.long (-1 : Int64)), .second, .val (.long (0 : Int64)), .second, .val (.long s0), .second, .val (.long (s0 ||| (0 : Int64))), .second, .val (.long ((((s0 &&& (-1 : Int64)) + (-1 : Int64)) ^^^ (-1 : Int64)) ||| s0)), .second, .val (.long ((((0 : Int64) ||| ((((((s0 &&& (-1 : Int64)) + (-1 : Int64)) ^^^ (-1 : Int64)) ||| s0) ||| (-1 : Int64)) ^^^ (-1 : Int64))) <<< ((1 : Int32) &&& 63).toInt64) ||| (1 : Int32).toInt64)), .second, .val (.long ((((-1 : Int64) &&& ((((s0 &&& (-1 : Int64)) + (-1 : Int64)) ^^^ (-1 : Int64)) ||| s0)) <<< ((1 : Int32) &&& 63).toInt64) ||| (0 : Int32).toInt64)), .second, .val (.int c1)]) rfl (pc' := 29) rfl ?_
    refine g_aload_n C d_prog_102_method_7_29 rfl rfl (pc' := 30) rfl ?_
    refine g_iload_n C d_prog_102_method_7_30 rfl (pc' := 31) rfl ?_
    refine g_laload C ((((As).other W0 (n3')).other V0 (n4))) (by first | decide | exact Nat.le_of_ble_eq_true rfl) (i := 1) rfl (by first | decide | exact Nat.le_of_ble_eq_true rfl) (v := (.long s1)) (rfl) d_prog_102_method_7_31 (pc' := 32) rfl ?_
    refine g_lstore C d_prog_102_method_7_32 (Ls' := #[.val (.ref o), .val (.ref sa), .val (.int c1), .val (.int (1 : Int32)), .val (.long (-1 : Int64)), .second, .val (.long (0 : Int64)), .second, .val (.long s1), .second, .val (.long (s0 ||| (0 : Int64))), .second, .val (.long ((((s0 &&& (-1 : Int64)) + (-1 : Int64)) ^^^ (-1 : Int64)) ||| s0)), .second, .val (.long ((((0 : Int64) ||| ((((((s0 &&& (-1 : Int64)) + (-1 : Int64)) ^^^ (-1 : Int64)) ||| s0) ||| (-1 : Int64)) ^^^ (-1 : Int64))) <<< ((1 : Int32) &&& 63).toInt64) ||| (1 : Int32).toInt64)), .second, .val (.long ((((-1 : Int64) &&& ((((s0 &&& (-1 : Int64)) + (-1 : Int64)) ^^^ (-1 : Int64)) ||| s0)) <<< ((1 : Int32) &&& 63).toInt64) ||| (0 : Int32).toInt64)), .second, .val (.int c1)]) rfl (pc' := 34) rfl ?_
    refine g_lload C d_prog_102_method_7_34 rfl (pc' := 36) rfl ?_
    refine g_lload C d_prog_102_method_7_36 rfl (pc' := 38) rfl ?_
    refine g_lor C d_prog_102_method_7_38 (pc' := 39) rfl ?_
    refine g_lstore C d_prog_102_method_7_39 (Ls' := #[.val (.ref o), .val (.ref sa), .val (.int c1), .val (.int (1 : Int32)), .val (.long (-1 : Int64)), .second, .val (.long (0 : Int64)), .second, .val (.long s1), .second, .val (.long (s1 ||| (0 : Int64))), .second, .val (.long ((((s0 &&& (-1 : Int64)) + (-1 : Int64)) ^^^ (-1 : Int64)) ||| s0)), .second, .val (.long ((((0 : Int64) ||| ((((((s0 &&& (-1 : Int64)) + (-1 : Int64)) ^^^ (-1 : Int64)) ||| s0) ||| (-1 : Int64)) ^^^ (-1 : Int64))) <<< ((1 : Int32) &&& 63).toInt64) ||| (1 : Int32).toInt64)), .second, .val (.long ((((-1 : Int64) &&& ((((s0 &&& (-1 : Int64)) + (-1 : Int64)) ^^^ (-1 : Int64)) ||| s0)) <<< ((1 : Int32) &&& 63).toInt64) ||| (0 : Int32).toInt64)), .second, .val (.int c1)]) rfl (pc' := 41) rfl ?_
    refine g_iload_n C d_prog_102_method_7_41 rfl (pc' := 42) rfl ?_
    refine g_ifge C d_prog_102_method_7_42 (by decide) (pcT := 51) rfl (pcF := 45) rfl (fun _ => ?_) (fun zz_ => absurd zz_ (hc1))
    refine g_lload C d_prog_102_method_7_51 rfl (pc' := 53) rfl ?_
    refine g_lload C d_prog_102_method_7_53 rfl (pc' := 55) rfl ?_
    refine g_land C d_prog_102_method_7_55 (pc' := 56) rfl ?_
    refine g_lload C d_prog_102_method_7_56 rfl (pc' := 58) rfl ?_
    refine g_ladd C d_prog_102_method_7_58 (pc' := 59) rfl ?_
    refine g_lload C d_prog_102_method_7_59 rfl (pc' := 61) rfl ?_
    refine g_lxor C d_prog_102_method_7_61 (pc' := 62) rfl ?_
    refine g_lload C d_prog_102_method_7_62 rfl (pc' := 64) rfl ?_
    refine g_lor C d_prog_102_method_7_64 (pc' := 65) rfl ?_
    refine g_lstore C d_prog_102_method_7_65 (Ls' := #[.val (.ref o), .val (.ref sa), .val (.int c1), .val (.int (1 : Int32)), .val (.long (-1 : Int64)), .second, .val (.long (0 : Int64)), .second, .val (.long s1), .second, .val (.long (s1 ||| (0 : Int64))), .second, .val (.long ((((s1 &&& (-1 : Int64)) + (-1 : Int64)) ^^^ (-1 : Int64)) ||| s1)), .second, .val (.long ((((0 : Int64) ||| ((((((s0 &&& (-1 : Int64)) + (-1 : Int64)) ^^^ (-1 : Int64)) ||| s0) ||| (-1 : Int64)) ^^^ (-1 : Int64))) <<< ((1 : Int32) &&& 63).toInt64) ||| (1 : Int32).toInt64)), .second, .val (.long ((((-1 : Int64) &&& ((((s0 &&& (-1 : Int64)) + (-1 : Int64)) ^^^ (-1 : Int64)) ||| s0)) <<< ((1 : Int32) &&& 63).toInt64) ||| (0 : Int32).toInt64)), .second, .val (.int c1)]) rfl (pc' := 67) rfl ?_
    refine g_lload C d_prog_102_method_7_67 rfl (pc' := 69) rfl ?_
    refine g_lload C d_prog_102_method_7_69 rfl (pc' := 71) rfl ?_
    refine g_lload C d_prog_102_method_7_71 rfl (pc' := 73) rfl ?_
    refine g_lor C d_prog_102_method_7_73 (pc' := 74) rfl ?_
    refine g_ldc2Long C (Wx86 hw) d_prog_102_method_7_74 (pc' := 77) rfl ?_
    refine g_lxor C d_prog_102_method_7_77 (pc' := 78) rfl ?_
    refine g_lor C d_prog_102_method_7_78 (pc' := 79) rfl ?_
    refine g_lstore C d_prog_102_method_7_79 (Ls' := #[.val (.ref o), .val (.ref sa), .val (.int c1), .val (.int (1 : Int32)), .val (.long (-1 : Int64)), .second, .val (.long (0 : Int64)), .second, .val (.long s1), .second, .val (.long (s1 ||| (0 : Int64))), .second, .val (.long ((((s1 &&& (-1 : Int64)) + (-1 : Int64)) ^^^ (-1 : Int64)) ||| s1)), .second, .val (.long ((0 : Int64) ||| ((((((s1 &&& (-1 : Int64)) + (-1 : Int64)) ^^^ (-1 : Int64)) ||| s1) ||| (-1 : Int64)) ^^^ (-1 : Int64)))), .second, .val (.long ((((-1 : Int64) &&& ((((s0 &&& (-1 : Int64)) + (-1 : Int64)) ^^^ (-1 : Int64)) ||| s0)) <<< ((1 : Int32) &&& 63).toInt64) ||| (0 : Int32).toInt64)), .second, .val (.int c1)]) rfl (pc' := 81) rfl ?_
    refine g_lload C d_prog_102_method_7_81 rfl (pc' := 83) rfl ?_
    refine g_lload C d_prog_102_method_7_83 rfl (pc' := 85) rfl ?_
    refine g_land C d_prog_102_method_7_85 (pc' := 86) rfl ?_
    refine g_lstore C d_prog_102_method_7_86 (Ls' := #[.val (.ref o), .val (.ref sa), .val (.int c1), .val (.int (1 : Int32)), .val (.long (-1 : Int64)), .second, .val (.long (0 : Int64)), .second, .val (.long s1), .second, .val (.long (s1 ||| (0 : Int64))), .second, .val (.long ((((s1 &&& (-1 : Int64)) + (-1 : Int64)) ^^^ (-1 : Int64)) ||| s1)), .second, .val (.long ((0 : Int64) ||| ((((((s1 &&& (-1 : Int64)) + (-1 : Int64)) ^^^ (-1 : Int64)) ||| s1) ||| (-1 : Int64)) ^^^ (-1 : Int64)))), .second, .val (.long ((-1 : Int64) &&& ((((s1 &&& (-1 : Int64)) + (-1 : Int64)) ^^^ (-1 : Int64)) ||| s1))), .second, .val (.int c1)]) rfl (pc' := 88) rfl ?_
    refine g_lload C d_prog_102_method_7_88 rfl (pc' := 90) rfl ?_
    refine g_bipush C d_prog_102_method_7_90 (x := (63 : Int32)) rfl (pc' := 92) rfl ?_
    refine g_lushr C d_prog_102_method_7_92 (pc' := 93) rfl ?_
    refine g_l2i C d_prog_102_method_7_93 (pc' := 94) rfl ?_
    refine g_lload C d_prog_102_method_7_94 rfl (pc' := 96) rfl ?_
    refine g_bipush C d_prog_102_method_7_96 (x := (63 : Int32)) rfl (pc' := 98) rfl ?_
    refine g_lushr C d_prog_102_method_7_98 (pc' := 99) rfl ?_
    refine g_l2i C d_prog_102_method_7_99 (pc' := 100) rfl ?_
    refine g_isub C d_prog_102_method_7_100 (pc' := 101) rfl ?_
    refine g_istore C d_prog_102_method_7_101 (Ls' := #[.val (.ref o), .val (.ref sa), .val (.int c1), .val (.int (1 : Int32)), .val (.long (-1 : Int64)), .second, .val (.long (0 : Int64)), .second, .val (.long s1), .second, .val (.long (s1 ||| (0 : Int64))), .second, .val (.long ((((s1 &&& (-1 : Int64)) + (-1 : Int64)) ^^^ (-1 : Int64)) ||| s1)), .second, .val (.long ((0 : Int64) ||| ((((((s1 &&& (-1 : Int64)) + (-1 : Int64)) ^^^ (-1 : Int64)) ||| s1) ||| (-1 : Int64)) ^^^ (-1 : Int64)))), .second, .val (.long ((-1 : Int64) &&& ((((s1 &&& (-1 : Int64)) + (-1 : Int64)) ^^^ (-1 : Int64)) ||| s1))), .second, .val (.int ((ushrL ((0 : Int64) ||| ((((((s1 &&& (-1 : Int64)) + (-1 : Int64)) ^^^ (-1 : Int64)) ||| s1) ||| (-1 : Int64)) ^^^ (-1 : Int64))) (63 : Int32)).toInt32 - (ushrL ((-1 : Int64) &&& ((((s1 &&& (-1 : Int64)) + (-1 : Int64)) ^^^ (-1 : Int64)) ||| s1)) (63 : Int32)).toInt32))]) rfl (pc' := 103) rfl ?_
    refine g_lload C d_prog_102_method_7_103 rfl (pc' := 105) rfl ?_
    refine g_iconst C d_prog_102_method_7_105 (x := (1 : Int32)) rfl (pc' := 106) rfl ?_
    refine g_lshl C d_prog_102_method_7_106 (pc' := 107) rfl ?_
    refine g_iload_n C d_prog_102_method_7_107 rfl (pc' := 108) rfl ?_
    refine g_ifle C d_prog_102_method_7_108 (by decide) (pcT := 115) rfl (pcF := 111) rfl (fun zz_ => absurd (hc0) zz_) (fun _ => ?_)
    refine g_iconst C d_prog_102_method_7_111 (x := (1 : Int32)) rfl (pc' := 112) rfl ?_
    refine g_goto C d_prog_102_method_7_112 (by decide) (pc' := 116) rfl ?_
    refine g_i2l C d_prog_102_method_7_116 (pc' := 117) rfl ?_
    refine g_lor C d_prog_102_method_7_117 (pc' := 118) rfl ?_
    refine g_lstore C d_prog_102_method_7_118 (Ls' := #[.val (.ref o), .val (.ref sa), .val (.int c1), .val (.int (1 : Int32)), .val (.long (-1 : Int64)), .second, .val (.long (0 : Int64)), .second, .val (.long s1), .second, .val (.long (s1 ||| (0 : Int64))), .second, .val (.long ((((s1 &&& (-1 : Int64)) + (-1 : Int64)) ^^^ (-1 : Int64)) ||| s1)), .second, .val (.long ((((0 : Int64) ||| ((((((s1 &&& (-1 : Int64)) + (-1 : Int64)) ^^^ (-1 : Int64)) ||| s1) ||| (-1 : Int64)) ^^^ (-1 : Int64))) <<< ((1 : Int32) &&& 63).toInt64) ||| (1 : Int32).toInt64)), .second, .val (.long ((-1 : Int64) &&& ((((s1 &&& (-1 : Int64)) + (-1 : Int64)) ^^^ (-1 : Int64)) ||| s1))), .second, .val (.int ((ushrL ((0 : Int64) ||| ((((((s1 &&& (-1 : Int64)) + (-1 : Int64)) ^^^ (-1 : Int64)) ||| s1) ||| (-1 : Int64)) ^^^ (-1 : Int64))) (63 : Int32)).toInt32 - (ushrL ((-1 : Int64) &&& ((((s1 &&& (-1 : Int64)) + (-1 : Int64)) ^^^ (-1 : Int64)) ||| s1)) (63 : Int32)).toInt32))]) rfl (pc' := 120) rfl ?_
    refine g_lload C d_prog_102_method_7_120 rfl (pc' := 122) rfl ?_
    refine g_iconst C d_prog_102_method_7_122 (x := (1 : Int32)) rfl (pc' := 123) rfl ?_
    refine g_lshl C d_prog_102_method_7_123 (pc' := 124) rfl ?_
    refine g_iload_n C d_prog_102_method_7_124 rfl (pc' := 125) rfl ?_
    refine g_ifge C d_prog_102_method_7_125 (by decide) (pcT := 132) rfl (pcF := 128) rfl (fun _ => ?_) (fun zz_ => absurd zz_ (hc1))
    refine g_iconst C d_prog_102_method_7_132 (x := (0 : Int32)) rfl (pc' := 133) rfl ?_
    refine g_i2l C d_prog_102_method_7_133 (pc' := 134) rfl ?_
    refine g_lor C d_prog_102_method_7_134 (pc' := 135) rfl ?_
    refine g_lstore C d_prog_102_method_7_135 (Ls' := #[.val (.ref o), .val (.ref sa), .val (.int c1), .val (.int (1 : Int32)), .val (.long (-1 : Int64)), .second, .val (.long (0 : Int64)), .second, .val (.long s1), .second, .val (.long (s1 ||| (0 : Int64))), .second, .val (.long ((((s1 &&& (-1 : Int64)) + (-1 : Int64)) ^^^ (-1 : Int64)) ||| s1)), .second, .val (.long ((((0 : Int64) ||| ((((((s1 &&& (-1 : Int64)) + (-1 : Int64)) ^^^ (-1 : Int64)) ||| s1) ||| (-1 : Int64)) ^^^ (-1 : Int64))) <<< ((1 : Int32) &&& 63).toInt64) ||| (1 : Int32).toInt64)), .second, .val (.long ((((-1 : Int64) &&& ((((s1 &&& (-1 : Int64)) + (-1 : Int64)) ^^^ (-1 : Int64)) ||| s1)) <<< ((1 : Int32) &&& 63).toInt64) ||| (0 : Int32).toInt64)), .second, .val (.int ((ushrL ((0 : Int64) ||| ((((((s1 &&& (-1 : Int64)) + (-1 : Int64)) ^^^ (-1 : Int64)) ||| s1) ||| (-1 : Int64)) ^^^ (-1 : Int64))) (63 : Int32)).toInt32 - (ushrL ((-1 : Int64) &&& ((((s1 &&& (-1 : Int64)) + (-1 : Int64)) ^^^ (-1 : Int64)) ||| s1)) (63 : Int32)).toInt32))]) rfl (pc' := 137) rfl ?_
    refine g_aload_n C d_prog_102_method_7_137 rfl rfl (pc' := 138) rfl ?_
    refine g_getfield C (Wx82 hw) Via.refl ((((Fu).other W0 (Or.inl n1)).other V0 (Or.inl n2))) d_prog_102_method_7_138 (pc' := 141) rfl ?_
    refine g_iload_n C d_prog_102_method_7_141 rfl (pc' := 142) rfl ?_
    refine g_lload C d_prog_102_method_7_142 rfl (pc' := 144) rfl ?_
    refine g_lload C d_prog_102_method_7_144 rfl (pc' := 146) rfl ?_
    refine g_lload C d_prog_102_method_7_146 rfl (pc' := 148) rfl ?_
    refine g_lor C d_prog_102_method_7_148 (pc' := 149) rfl ?_
    refine g_ldc2Long C (Wx86 hw) d_prog_102_method_7_149 (pc' := 152) rfl ?_
    refine g_lxor C d_prog_102_method_7_152 (pc' := 153) rfl ?_
    refine g_lor C d_prog_102_method_7_153 (pc' := 154) rfl ?_
    refine g_lastore C (AV0) (by first | decide | exact Nat.le_of_ble_eq_true rfl) (i := 1) rfl (by first | decide | exact Nat.le_of_ble_eq_true rfl) (Or.inl (List.mem_cons_self ..)) d_prog_102_method_7_154 (pc' := 155) rfl ?_
    intro p1 W1 AU1
    refine g_aload_n C d_prog_102_method_7_155 rfl rfl (pc' := 156) rfl ?_
    refine g_getfield C (Wx84 hw) Via.refl (((((Fn).other W0 (Or.inl n1)).other V0 (Or.inl n2))).other W1 (Or.inl n1)) d_prog_102_method_7_156 (pc' := 159) rfl ?_
    refine g_iload_n C d_prog_102_method_7_159 rfl (pc' := 160) rfl ?_
    refine g_lload C d_prog_102_method_7_160 rfl (pc' := 162) rfl ?_
    refine g_lload C d_prog_102_method_7_162 rfl (pc' := 164) rfl ?_
    refine g_land C d_prog_102_method_7_164 (pc' := 165) rfl ?_
    have AN1 := AM0.other W1 n5.symm
    refine g_lastore C (AN1) (by first | decide | exact Nat.le_of_ble_eq_true rfl) (i := 1) rfl (by first | decide | exact Nat.le_of_ble_eq_true rfl) (Or.inl (List.mem_cons_of_mem _ (List.mem_cons_self ..))) d_prog_102_method_7_165 (pc' := 166) rfl ?_
    intro m1 V1 AM1
    have AV1 := AU1.other V1 n5
    refine g_iload C d_prog_102_method_7_166 rfl (pc' := 168) rfl ?_
    refine g_istore_n C d_prog_102_method_7_168 (Ls' := #[.val (.ref o), .val (.ref sa), .val (.int ((ushrL ((0 : Int64) ||| ((((((s1 &&& (-1 : Int64)) + (-1 : Int64)) ^^^ (-1 : Int64)) ||| s1) ||| (-1 : Int64)) ^^^ (-1 : Int64))) (63 : Int32)).toInt32 - (ushrL ((-1 : Int64) &&& ((((s1 &&& (-1 : Int64)) + (-1 : Int64)) ^^^ (-1 : Int64)) ||| s1)) (63 : Int32)).toInt32)), .val (.int (1 : Int32)), .val (.long (-1 : Int64)), .second, .val (.long (0 : Int64)), .second, .val (.long s1), .second, .val (.long (s1 ||| (0 : Int64))), .second, .val (.long ((((s1 &&& (-1 : Int64)) + (-1 : Int64)) ^^^ (-1 : Int64)) ||| s1)), .second, .val (.long ((((0 : Int64) ||| ((((((s1 &&& (-1 : Int64)) + (-1 : Int64)) ^^^ (-1 : Int64)) ||| s1) ||| (-1 : Int64)) ^^^ (-1 : Int64))) <<< ((1 : Int32) &&& 63).toInt64) ||| (1 : Int32).toInt64)), .second, .val (.long ((((-1 : Int64) &&& ((((s1 &&& (-1 : Int64)) + (-1 : Int64)) ^^^ (-1 : Int64)) ||| s1)) <<< ((1 : Int32) &&& 63).toInt64) ||| (0 : Int32).toInt64)), .second, .val (.int ((ushrL ((0 : Int64) ||| ((((((s1 &&& (-1 : Int64)) + (-1 : Int64)) ^^^ (-1 : Int64)) ||| s1) ||| (-1 : Int64)) ^^^ (-1 : Int64))) (63 : Int32)).toInt32 - (ushrL ((-1 : Int64) &&& ((((s1 &&& (-1 : Int64)) + (-1 : Int64)) ^^^ (-1 : Int64)) ||| s1)) (63 : Int32)).toInt32))]) rfl (pc' := 169) rfl ?_
    refine g_iinc C d_prog_102_method_7_169 rfl (y := (2 : Int32)) (by first | decide | exact Nat.le_of_ble_eq_true rfl) (Ls' := #[.val (.ref o), .val (.ref sa), .val (.int ((ushrL ((0 : Int64) ||| ((((((s1 &&& (-1 : Int64)) + (-1 : Int64)) ^^^ (-1 : Int64)) ||| s1) ||| (-1 : Int64)) ^^^ (-1 : Int64))) (63 : Int32)).toInt32 - (ushrL ((-1 : Int64) &&& ((((s1 &&& (-1 : Int64)) + (-1 : Int64)) ^^^ (-1 : Int64)) ||| s1)) (63 : Int32)).toInt32)), .val (.int (2 : Int32)), .val (.long (-1 : Int64)), .second, .val (.long (0 : Int64)), .second, .val (.long s1), .second, .val (.long (s1 ||| (0 : Int64))), .second, .val (.long ((((s1 &&& (-1 : Int64)) + (-1 : Int64)) ^^^ (-1 : Int64)) ||| s1)), .second, .val (.long ((((0 : Int64) ||| ((((((s1 &&& (-1 : Int64)) + (-1 : Int64)) ^^^ (-1 : Int64)) ||| s1) ||| (-1 : Int64)) ^^^ (-1 : Int64))) <<< ((1 : Int32) &&& 63).toInt64) ||| (1 : Int32).toInt64)), .second, .val (.long ((((-1 : Int64) &&& ((((s1 &&& (-1 : Int64)) + (-1 : Int64)) ^^^ (-1 : Int64)) ||| s1)) <<< ((1 : Int32) &&& 63).toInt64) ||| (0 : Int32).toInt64)), .second, .val (.int ((ushrL ((0 : Int64) ||| ((((((s1 &&& (-1 : Int64)) + (-1 : Int64)) ^^^ (-1 : Int64)) ||| s1) ||| (-1 : Int64)) ^^^ (-1 : Int64))) (63 : Int32)).toInt32 - (ushrL ((-1 : Int64) &&& ((((s1 &&& (-1 : Int64)) + (-1 : Int64)) ^^^ (-1 : Int64)) ||| s1)) (63 : Int32)).toInt32))]) rfl (pc' := 172) rfl ?_
    refine g_goto C d_prog_102_method_7_172 (by decide) (pc' := 4) rfl ?_
    refine g_iload_n C d_prog_102_method_7_4 rfl (pc' := 5) rfl ?_
    refine g_aload_n C d_prog_102_method_7_5 rfl rfl (pc' := 6) rfl ?_
    refine g_getfield C (Wx82 hw) Via.refl (((((((Fu).other W0 (Or.inl n1)).other V0 (Or.inl n2))).other W1 (Or.inl n1)).other V1 (Or.inl n2))) d_prog_102_method_7_6 (pc' := 9) rfl ?_
    refine g_arraylength C (AV1) (z := (2 : Int32)) rfl d_prog_102_method_7_9 (pc' := 10) rfl ?_
    refine g_if_icmpge C d_prog_102_method_7_10 (by decide) (pcT := 175) rfl (pcF := 13) rfl (fun _ => ?_) (fun zz_ => absurd zz_ (by first | decide | exact Nat.le_of_ble_eq_true rfl))
    have e1 : c1 = (stp 1 (-1) 0 s0).2.2 := by rw [stp_p (by first | decide | exact Nat.le_of_ble_eq_true rfl) (by first | decide | exact Nat.le_of_ble_eq_true rfl)]; exact h_c1
    have R1 : Af Z m1 pu .long 2 (two (rw2 s0 s1).1 (rw2 s0 s1).2.1) := AV1.congr fun j hj => by
      rcases (show j = 0 ∨ j = 1 by omega) with rfl | rfl
      · show Value.long (stp 1 (-1) 0 s0).1 = _; rw [stp_p (by first | decide | exact Nat.le_of_ble_eq_true rfl) (by first | decide | exact Nat.le_of_ble_eq_true rfl)]; rfl
      · show Value.long (stp (stp 1 (-1) 0 s0).2.2 (-1) 0 s1).1 = _; rw [← e1]; rw [stp_p hc0 hc1]; rfl
    have R2 : Af Z m1 mi .long 2 (two (rw2 s0 s1).2.2.1 (rw2 s0 s1).2.2.2) := AM1.congr fun j hj => by
      rcases (show j = 0 ∨ j = 1 by omega) with rfl | rfl
      · show Value.long (stp 1 (-1) 0 s0).2.1 = _; rw [stp_p (by first | decide | exact Nat.le_of_ble_eq_true rfl) (by first | decide | exact Nat.le_of_ble_eq_true rfl)]; rfl
      · show Value.long (stp (stp 1 (-1) 0 s0).2.2 (-1) 0 s1).2.1 = _; rw [← e1]; rw [stp_p hc0 hc1]; rfl
    exact g_return C d_prog_102_method_7_175 (⟨rfl, R1, R2⟩) (by first | decide | exact Nat.le_of_ble_eq_true rfl) (by first | decide | exact Nat.le_of_ble_eq_true rfl)
  · have hc0 := hc
    have hc2 := (neg_nn hc).1
    refine g_aload_n C d_prog_102_method_7_13 rfl rfl (pc' := 14) rfl ?_
    refine g_getfield C (Wx82 hw) Via.refl ((((Fu).other W0 (Or.inl n1)).other V0 (Or.inl n2))) d_prog_102_method_7_14 (pc' := 17) rfl ?_
    refine g_iload_n C d_prog_102_method_7_17 rfl (pc' := 18) rfl ?_
    refine g_laload C (AV0) (by first | decide | exact Nat.le_of_ble_eq_true rfl) (i := 1) rfl (by first | decide | exact Nat.le_of_ble_eq_true rfl) (v := (.long (-1 : Int64))) (rfl) d_prog_102_method_7_18 (pc' := 19) rfl ?_
    refine g_lstore C d_prog_102_method_7_19 (Ls' := #[.val (.ref o), .val (.ref sa), .val (.int c1), .val (.int (1 : Int32)), .val (.long (-1 : Int64)), .second, .val (.long (0 : Int64)), .second, .val (.long s0), .second, .val (.long (s0 ||| (0 : Int64))), .second, .val (.long ((((s0 &&& (-1 : Int64)) + (-1 : Int64)) ^^^ (-1 : Int64)) ||| s0)), .second, .val (.long ((((0 : Int64) ||| ((((((s0 &&& (-1 : Int64)) + (-1 : Int64)) ^^^ (-1 : Int64)) ||| s0) ||| (-1 : Int64)) ^^^ (-1 : Int64))) <<< ((1 : Int32) &&& 63).toInt64) ||| (1 : Int32).toInt64)), .second, .val (.long ((((-1 : Int64) &&& ((((s0 &&& (-1 : Int64)) + (-1 : Int64)) ^^^ (-1 : Int64)) ||| s0)) <<< ((1 : Int32) &&& 63).toInt64) ||| (0 : Int32).toInt64)), .second, .val (.int c1)]) rfl (pc' := 21) rfl ?_
    refine g_aload_n C d_prog_102_method_7_21 rfl rfl (pc' := 22) rfl ?_
    refine g_getfield C (Wx84 hw) Via.refl ((((Fn).other W0 (Or.inl n1)).other V0 (Or.inl n2))) d_prog_102_method_7_22 (pc' := 25) rfl ?_
    refine g_iload_n C d_prog_102_method_7_25 rfl (pc' := 26) rfl ?_
    refine g_laload C (AM0) (by first | decide | exact Nat.le_of_ble_eq_true rfl) (i := 1) rfl (by first | decide | exact Nat.le_of_ble_eq_true rfl) (v := (.long (0 : Int64))) (rfl) d_prog_102_method_7_26 (pc' := 27) rfl ?_
    refine g_lstore C d_prog_102_method_7_27 (Ls' := #[.val (.ref o), .val (.ref sa), .val (.int c1), .val (.int (1 : Int32)), .val (.long (-1 : Int64)), .second, .val (.long (0 : Int64)), .second, .val (.long s0), .second, .val (.long (s0 ||| (0 : Int64))), .second, .val (.long ((((s0 &&& (-1 : Int64)) + (-1 : Int64)) ^^^ (-1 : Int64)) ||| s0)), .second, .val (.long ((((0 : Int64) ||| ((((((s0 &&& (-1 : Int64)) + (-1 : Int64)) ^^^ (-1 : Int64)) ||| s0) ||| (-1 : Int64)) ^^^ (-1 : Int64))) <<< ((1 : Int32) &&& 63).toInt64) ||| (1 : Int32).toInt64)), .second, .val (.long ((((-1 : Int64) &&& ((((s0 &&& (-1 : Int64)) + (-1 : Int64)) ^^^ (-1 : Int64)) ||| s0)) <<< ((1 : Int32) &&& 63).toInt64) ||| (0 : Int32).toInt64)), .second, .val (.int c1)]) rfl (pc' := 29) rfl ?_
    refine g_aload_n C d_prog_102_method_7_29 rfl rfl (pc' := 30) rfl ?_
    refine g_iload_n C d_prog_102_method_7_30 rfl (pc' := 31) rfl ?_
    refine g_laload C ((((As).other W0 (n3')).other V0 (n4))) (by first | decide | exact Nat.le_of_ble_eq_true rfl) (i := 1) rfl (by first | decide | exact Nat.le_of_ble_eq_true rfl) (v := (.long s1)) (rfl) d_prog_102_method_7_31 (pc' := 32) rfl ?_
    refine g_lstore C d_prog_102_method_7_32 (Ls' := #[.val (.ref o), .val (.ref sa), .val (.int c1), .val (.int (1 : Int32)), .val (.long (-1 : Int64)), .second, .val (.long (0 : Int64)), .second, .val (.long s1), .second, .val (.long (s0 ||| (0 : Int64))), .second, .val (.long ((((s0 &&& (-1 : Int64)) + (-1 : Int64)) ^^^ (-1 : Int64)) ||| s0)), .second, .val (.long ((((0 : Int64) ||| ((((((s0 &&& (-1 : Int64)) + (-1 : Int64)) ^^^ (-1 : Int64)) ||| s0) ||| (-1 : Int64)) ^^^ (-1 : Int64))) <<< ((1 : Int32) &&& 63).toInt64) ||| (1 : Int32).toInt64)), .second, .val (.long ((((-1 : Int64) &&& ((((s0 &&& (-1 : Int64)) + (-1 : Int64)) ^^^ (-1 : Int64)) ||| s0)) <<< ((1 : Int32) &&& 63).toInt64) ||| (0 : Int32).toInt64)), .second, .val (.int c1)]) rfl (pc' := 34) rfl ?_
    refine g_lload C d_prog_102_method_7_34 rfl (pc' := 36) rfl ?_
    refine g_lload C d_prog_102_method_7_36 rfl (pc' := 38) rfl ?_
    refine g_lor C d_prog_102_method_7_38 (pc' := 39) rfl ?_
    refine g_lstore C d_prog_102_method_7_39 (Ls' := #[.val (.ref o), .val (.ref sa), .val (.int c1), .val (.int (1 : Int32)), .val (.long (-1 : Int64)), .second, .val (.long (0 : Int64)), .second, .val (.long s1), .second, .val (.long (s1 ||| (0 : Int64))), .second, .val (.long ((((s0 &&& (-1 : Int64)) + (-1 : Int64)) ^^^ (-1 : Int64)) ||| s0)), .second, .val (.long ((((0 : Int64) ||| ((((((s0 &&& (-1 : Int64)) + (-1 : Int64)) ^^^ (-1 : Int64)) ||| s0) ||| (-1 : Int64)) ^^^ (-1 : Int64))) <<< ((1 : Int32) &&& 63).toInt64) ||| (1 : Int32).toInt64)), .second, .val (.long ((((-1 : Int64) &&& ((((s0 &&& (-1 : Int64)) + (-1 : Int64)) ^^^ (-1 : Int64)) ||| s0)) <<< ((1 : Int32) &&& 63).toInt64) ||| (0 : Int32).toInt64)), .second, .val (.int c1)]) rfl (pc' := 41) rfl ?_
    refine g_iload_n C d_prog_102_method_7_41 rfl (pc' := 42) rfl ?_
    refine g_ifge C d_prog_102_method_7_42 (by decide) (pcT := 51) rfl (pcF := 45) rfl (fun zz_ => absurd (hc0) zz_) (fun _ => ?_)
    refine g_lload C d_prog_102_method_7_45 rfl (pc' := 47) rfl ?_
    refine g_lconst C d_prog_102_method_7_47 (x := (1 : Int64)) rfl (pc' := 48) rfl ?_
    refine g_lor C d_prog_102_method_7_48 (pc' := 49) rfl ?_
    refine g_lstore C d_prog_102_method_7_49 (Ls' := #[.val (.ref o), .val (.ref sa), .val (.int c1), .val (.int (1 : Int32)), .val (.long (-1 : Int64)), .second, .val (.long (0 : Int64)), .second, .val (.long (s1 ||| (1 : Int64))), .second, .val (.long (s1 ||| (0 : Int64))), .second, .val (.long ((((s0 &&& (-1 : Int64)) + (-1 : Int64)) ^^^ (-1 : Int64)) ||| s0)), .second, .val (.long ((((0 : Int64) ||| ((((((s0 &&& (-1 : Int64)) + (-1 : Int64)) ^^^ (-1 : Int64)) ||| s0) ||| (-1 : Int64)) ^^^ (-1 : Int64))) <<< ((1 : Int32) &&& 63).toInt64) ||| (1 : Int32).toInt64)), .second, .val (.long ((((-1 : Int64) &&& ((((s0 &&& (-1 : Int64)) + (-1 : Int64)) ^^^ (-1 : Int64)) ||| s0)) <<< ((1 : Int32) &&& 63).toInt64) ||| (0 : Int32).toInt64)), .second, .val (.int c1)]) rfl (pc' := 51) rfl ?_
    refine g_lload C d_prog_102_method_7_51 rfl (pc' := 53) rfl ?_
    refine g_lload C d_prog_102_method_7_53 rfl (pc' := 55) rfl ?_
    refine g_land C d_prog_102_method_7_55 (pc' := 56) rfl ?_
    refine g_lload C d_prog_102_method_7_56 rfl (pc' := 58) rfl ?_
    refine g_ladd C d_prog_102_method_7_58 (pc' := 59) rfl ?_
    refine g_lload C d_prog_102_method_7_59 rfl (pc' := 61) rfl ?_
    refine g_lxor C d_prog_102_method_7_61 (pc' := 62) rfl ?_
    refine g_lload C d_prog_102_method_7_62 rfl (pc' := 64) rfl ?_
    refine g_lor C d_prog_102_method_7_64 (pc' := 65) rfl ?_
    refine g_lstore C d_prog_102_method_7_65 (Ls' := #[.val (.ref o), .val (.ref sa), .val (.int c1), .val (.int (1 : Int32)), .val (.long (-1 : Int64)), .second, .val (.long (0 : Int64)), .second, .val (.long (s1 ||| (1 : Int64))), .second, .val (.long (s1 ||| (0 : Int64))), .second, .val (.long (((((s1 ||| (1 : Int64)) &&& (-1 : Int64)) + (-1 : Int64)) ^^^ (-1 : Int64)) ||| (s1 ||| (1 : Int64)))), .second, .val (.long ((((0 : Int64) ||| ((((((s0 &&& (-1 : Int64)) + (-1 : Int64)) ^^^ (-1 : Int64)) ||| s0) ||| (-1 : Int64)) ^^^ (-1 : Int64))) <<< ((1 : Int32) &&& 63).toInt64) ||| (1 : Int32).toInt64)), .second, .val (.long ((((-1 : Int64) &&& ((((s0 &&& (-1 : Int64)) + (-1 : Int64)) ^^^ (-1 : Int64)) ||| s0)) <<< ((1 : Int32) &&& 63).toInt64) ||| (0 : Int32).toInt64)), .second, .val (.int c1)]) rfl (pc' := 67) rfl ?_
    refine g_lload C d_prog_102_method_7_67 rfl (pc' := 69) rfl ?_
    refine g_lload C d_prog_102_method_7_69 rfl (pc' := 71) rfl ?_
    refine g_lload C d_prog_102_method_7_71 rfl (pc' := 73) rfl ?_
    refine g_lor C d_prog_102_method_7_73 (pc' := 74) rfl ?_
    refine g_ldc2Long C (Wx86 hw) d_prog_102_method_7_74 (pc' := 77) rfl ?_
    refine g_lxor C d_prog_102_method_7_77 (pc' := 78) rfl ?_
    refine g_lor C d_prog_102_method_7_78 (pc' := 79) rfl ?_
    refine g_lstore C d_prog_102_method_7_79 (Ls' := #[.val (.ref o), .val (.ref sa), .val (.int c1), .val (.int (1 : Int32)), .val (.long (-1 : Int64)), .second, .val (.long (0 : Int64)), .second, .val (.long (s1 ||| (1 : Int64))), .second, .val (.long (s1 ||| (0 : Int64))), .second, .val (.long (((((s1 ||| (1 : Int64)) &&& (-1 : Int64)) + (-1 : Int64)) ^^^ (-1 : Int64)) ||| (s1 ||| (1 : Int64)))), .second, .val (.long ((0 : Int64) ||| (((((((s1 ||| (1 : Int64)) &&& (-1 : Int64)) + (-1 : Int64)) ^^^ (-1 : Int64)) ||| (s1 ||| (1 : Int64))) ||| (-1 : Int64)) ^^^ (-1 : Int64)))), .second, .val (.long ((((-1 : Int64) &&& ((((s0 &&& (-1 : Int64)) + (-1 : Int64)) ^^^ (-1 : Int64)) ||| s0)) <<< ((1 : Int32) &&& 63).toInt64) ||| (0 : Int32).toInt64)), .second, .val (.int c1)]) rfl (pc' := 81) rfl ?_
    refine g_lload C d_prog_102_method_7_81 rfl (pc' := 83) rfl ?_
    refine g_lload C d_prog_102_method_7_83 rfl (pc' := 85) rfl ?_
    refine g_land C d_prog_102_method_7_85 (pc' := 86) rfl ?_
    refine g_lstore C d_prog_102_method_7_86 (Ls' := #[.val (.ref o), .val (.ref sa), .val (.int c1), .val (.int (1 : Int32)), .val (.long (-1 : Int64)), .second, .val (.long (0 : Int64)), .second, .val (.long (s1 ||| (1 : Int64))), .second, .val (.long (s1 ||| (0 : Int64))), .second, .val (.long (((((s1 ||| (1 : Int64)) &&& (-1 : Int64)) + (-1 : Int64)) ^^^ (-1 : Int64)) ||| (s1 ||| (1 : Int64)))), .second, .val (.long ((0 : Int64) ||| (((((((s1 ||| (1 : Int64)) &&& (-1 : Int64)) + (-1 : Int64)) ^^^ (-1 : Int64)) ||| (s1 ||| (1 : Int64))) ||| (-1 : Int64)) ^^^ (-1 : Int64)))), .second, .val (.long ((-1 : Int64) &&& (((((s1 ||| (1 : Int64)) &&& (-1 : Int64)) + (-1 : Int64)) ^^^ (-1 : Int64)) ||| (s1 ||| (1 : Int64))))), .second, .val (.int c1)]) rfl (pc' := 88) rfl ?_
    refine g_lload C d_prog_102_method_7_88 rfl (pc' := 90) rfl ?_
    refine g_bipush C d_prog_102_method_7_90 (x := (63 : Int32)) rfl (pc' := 92) rfl ?_
    refine g_lushr C d_prog_102_method_7_92 (pc' := 93) rfl ?_
    refine g_l2i C d_prog_102_method_7_93 (pc' := 94) rfl ?_
    refine g_lload C d_prog_102_method_7_94 rfl (pc' := 96) rfl ?_
    refine g_bipush C d_prog_102_method_7_96 (x := (63 : Int32)) rfl (pc' := 98) rfl ?_
    refine g_lushr C d_prog_102_method_7_98 (pc' := 99) rfl ?_
    refine g_l2i C d_prog_102_method_7_99 (pc' := 100) rfl ?_
    refine g_isub C d_prog_102_method_7_100 (pc' := 101) rfl ?_
    refine g_istore C d_prog_102_method_7_101 (Ls' := #[.val (.ref o), .val (.ref sa), .val (.int c1), .val (.int (1 : Int32)), .val (.long (-1 : Int64)), .second, .val (.long (0 : Int64)), .second, .val (.long (s1 ||| (1 : Int64))), .second, .val (.long (s1 ||| (0 : Int64))), .second, .val (.long (((((s1 ||| (1 : Int64)) &&& (-1 : Int64)) + (-1 : Int64)) ^^^ (-1 : Int64)) ||| (s1 ||| (1 : Int64)))), .second, .val (.long ((0 : Int64) ||| (((((((s1 ||| (1 : Int64)) &&& (-1 : Int64)) + (-1 : Int64)) ^^^ (-1 : Int64)) ||| (s1 ||| (1 : Int64))) ||| (-1 : Int64)) ^^^ (-1 : Int64)))), .second, .val (.long ((-1 : Int64) &&& (((((s1 ||| (1 : Int64)) &&& (-1 : Int64)) + (-1 : Int64)) ^^^ (-1 : Int64)) ||| (s1 ||| (1 : Int64))))), .second, .val (.int ((ushrL ((0 : Int64) ||| (((((((s1 ||| (1 : Int64)) &&& (-1 : Int64)) + (-1 : Int64)) ^^^ (-1 : Int64)) ||| (s1 ||| (1 : Int64))) ||| (-1 : Int64)) ^^^ (-1 : Int64))) (63 : Int32)).toInt32 - (ushrL ((-1 : Int64) &&& (((((s1 ||| (1 : Int64)) &&& (-1 : Int64)) + (-1 : Int64)) ^^^ (-1 : Int64)) ||| (s1 ||| (1 : Int64)))) (63 : Int32)).toInt32))]) rfl (pc' := 103) rfl ?_
    refine g_lload C d_prog_102_method_7_103 rfl (pc' := 105) rfl ?_
    refine g_iconst C d_prog_102_method_7_105 (x := (1 : Int32)) rfl (pc' := 106) rfl ?_
    refine g_lshl C d_prog_102_method_7_106 (pc' := 107) rfl ?_
    refine g_iload_n C d_prog_102_method_7_107 rfl (pc' := 108) rfl ?_
    refine g_ifle C d_prog_102_method_7_108 (by decide) (pcT := 115) rfl (pcF := 111) rfl (fun _ => ?_) (fun zz_ => absurd zz_ (hc2))
    refine g_iconst C d_prog_102_method_7_115 (x := (0 : Int32)) rfl (pc' := 116) rfl ?_
    refine g_i2l C d_prog_102_method_7_116 (pc' := 117) rfl ?_
    refine g_lor C d_prog_102_method_7_117 (pc' := 118) rfl ?_
    refine g_lstore C d_prog_102_method_7_118 (Ls' := #[.val (.ref o), .val (.ref sa), .val (.int c1), .val (.int (1 : Int32)), .val (.long (-1 : Int64)), .second, .val (.long (0 : Int64)), .second, .val (.long (s1 ||| (1 : Int64))), .second, .val (.long (s1 ||| (0 : Int64))), .second, .val (.long (((((s1 ||| (1 : Int64)) &&& (-1 : Int64)) + (-1 : Int64)) ^^^ (-1 : Int64)) ||| (s1 ||| (1 : Int64)))), .second, .val (.long ((((0 : Int64) ||| (((((((s1 ||| (1 : Int64)) &&& (-1 : Int64)) + (-1 : Int64)) ^^^ (-1 : Int64)) ||| (s1 ||| (1 : Int64))) ||| (-1 : Int64)) ^^^ (-1 : Int64))) <<< ((1 : Int32) &&& 63).toInt64) ||| (0 : Int32).toInt64)), .second, .val (.long ((-1 : Int64) &&& (((((s1 ||| (1 : Int64)) &&& (-1 : Int64)) + (-1 : Int64)) ^^^ (-1 : Int64)) ||| (s1 ||| (1 : Int64))))), .second, .val (.int ((ushrL ((0 : Int64) ||| (((((((s1 ||| (1 : Int64)) &&& (-1 : Int64)) + (-1 : Int64)) ^^^ (-1 : Int64)) ||| (s1 ||| (1 : Int64))) ||| (-1 : Int64)) ^^^ (-1 : Int64))) (63 : Int32)).toInt32 - (ushrL ((-1 : Int64) &&& (((((s1 ||| (1 : Int64)) &&& (-1 : Int64)) + (-1 : Int64)) ^^^ (-1 : Int64)) ||| (s1 ||| (1 : Int64)))) (63 : Int32)).toInt32))]) rfl (pc' := 120) rfl ?_
    refine g_lload C d_prog_102_method_7_120 rfl (pc' := 122) rfl ?_
    refine g_iconst C d_prog_102_method_7_122 (x := (1 : Int32)) rfl (pc' := 123) rfl ?_
    refine g_lshl C d_prog_102_method_7_123 (pc' := 124) rfl ?_
    refine g_iload_n C d_prog_102_method_7_124 rfl (pc' := 125) rfl ?_
    refine g_ifge C d_prog_102_method_7_125 (by decide) (pcT := 132) rfl (pcF := 128) rfl (fun zz_ => absurd (hc0) zz_) (fun _ => ?_)
    refine g_iconst C d_prog_102_method_7_128 (x := (1 : Int32)) rfl (pc' := 129) rfl ?_
    refine g_goto C d_prog_102_method_7_129 (by decide) (pc' := 133) rfl ?_
    refine g_i2l C d_prog_102_method_7_133 (pc' := 134) rfl ?_
    refine g_lor C d_prog_102_method_7_134 (pc' := 135) rfl ?_
    refine g_lstore C d_prog_102_method_7_135 (Ls' := #[.val (.ref o), .val (.ref sa), .val (.int c1), .val (.int (1 : Int32)), .val (.long (-1 : Int64)), .second, .val (.long (0 : Int64)), .second, .val (.long (s1 ||| (1 : Int64))), .second, .val (.long (s1 ||| (0 : Int64))), .second, .val (.long (((((s1 ||| (1 : Int64)) &&& (-1 : Int64)) + (-1 : Int64)) ^^^ (-1 : Int64)) ||| (s1 ||| (1 : Int64)))), .second, .val (.long ((((0 : Int64) ||| (((((((s1 ||| (1 : Int64)) &&& (-1 : Int64)) + (-1 : Int64)) ^^^ (-1 : Int64)) ||| (s1 ||| (1 : Int64))) ||| (-1 : Int64)) ^^^ (-1 : Int64))) <<< ((1 : Int32) &&& 63).toInt64) ||| (0 : Int32).toInt64)), .second, .val (.long ((((-1 : Int64) &&& (((((s1 ||| (1 : Int64)) &&& (-1 : Int64)) + (-1 : Int64)) ^^^ (-1 : Int64)) ||| (s1 ||| (1 : Int64)))) <<< ((1 : Int32) &&& 63).toInt64) ||| (1 : Int32).toInt64)), .second, .val (.int ((ushrL ((0 : Int64) ||| (((((((s1 ||| (1 : Int64)) &&& (-1 : Int64)) + (-1 : Int64)) ^^^ (-1 : Int64)) ||| (s1 ||| (1 : Int64))) ||| (-1 : Int64)) ^^^ (-1 : Int64))) (63 : Int32)).toInt32 - (ushrL ((-1 : Int64) &&& (((((s1 ||| (1 : Int64)) &&& (-1 : Int64)) + (-1 : Int64)) ^^^ (-1 : Int64)) ||| (s1 ||| (1 : Int64)))) (63 : Int32)).toInt32))]) rfl (pc' := 137) rfl ?_
    refine g_aload_n C d_prog_102_method_7_137 rfl rfl (pc' := 138) rfl ?_
    refine g_getfield C (Wx82 hw) Via.refl ((((Fu).other W0 (Or.inl n1)).other V0 (Or.inl n2))) d_prog_102_method_7_138 (pc' := 141) rfl ?_
    refine g_iload_n C d_prog_102_method_7_141 rfl (pc' := 142) rfl ?_
    refine g_lload C d_prog_102_method_7_142 rfl (pc' := 144) rfl ?_
    refine g_lload C d_prog_102_method_7_144 rfl (pc' := 146) rfl ?_
    refine g_lload C d_prog_102_method_7_146 rfl (pc' := 148) rfl ?_
    refine g_lor C d_prog_102_method_7_148 (pc' := 149) rfl ?_
    refine g_ldc2Long C (Wx86 hw) d_prog_102_method_7_149 (pc' := 152) rfl ?_
    refine g_lxor C d_prog_102_method_7_152 (pc' := 153) rfl ?_
    refine g_lor C d_prog_102_method_7_153 (pc' := 154) rfl ?_
    refine g_lastore C (AV0) (by first | decide | exact Nat.le_of_ble_eq_true rfl) (i := 1) rfl (by first | decide | exact Nat.le_of_ble_eq_true rfl) (Or.inl (List.mem_cons_self ..)) d_prog_102_method_7_154 (pc' := 155) rfl ?_
    intro p1 W1 AU1
    refine g_aload_n C d_prog_102_method_7_155 rfl rfl (pc' := 156) rfl ?_
    refine g_getfield C (Wx84 hw) Via.refl (((((Fn).other W0 (Or.inl n1)).other V0 (Or.inl n2))).other W1 (Or.inl n1)) d_prog_102_method_7_156 (pc' := 159) rfl ?_
    refine g_iload_n C d_prog_102_method_7_159 rfl (pc' := 160) rfl ?_
    refine g_lload C d_prog_102_method_7_160 rfl (pc' := 162) rfl ?_
    refine g_lload C d_prog_102_method_7_162 rfl (pc' := 164) rfl ?_
    refine g_land C d_prog_102_method_7_164 (pc' := 165) rfl ?_
    have AN1 := AM0.other W1 n5.symm
    refine g_lastore C (AN1) (by first | decide | exact Nat.le_of_ble_eq_true rfl) (i := 1) rfl (by first | decide | exact Nat.le_of_ble_eq_true rfl) (Or.inl (List.mem_cons_of_mem _ (List.mem_cons_self ..))) d_prog_102_method_7_165 (pc' := 166) rfl ?_
    intro m1 V1 AM1
    have AV1 := AU1.other V1 n5
    refine g_iload C d_prog_102_method_7_166 rfl (pc' := 168) rfl ?_
    refine g_istore_n C d_prog_102_method_7_168 (Ls' := #[.val (.ref o), .val (.ref sa), .val (.int ((ushrL ((0 : Int64) ||| (((((((s1 ||| (1 : Int64)) &&& (-1 : Int64)) + (-1 : Int64)) ^^^ (-1 : Int64)) ||| (s1 ||| (1 : Int64))) ||| (-1 : Int64)) ^^^ (-1 : Int64))) (63 : Int32)).toInt32 - (ushrL ((-1 : Int64) &&& (((((s1 ||| (1 : Int64)) &&& (-1 : Int64)) + (-1 : Int64)) ^^^ (-1 : Int64)) ||| (s1 ||| (1 : Int64)))) (63 : Int32)).toInt32)), .val (.int (1 : Int32)), .val (.long (-1 : Int64)), .second, .val (.long (0 : Int64)), .second, .val (.long (s1 ||| (1 : Int64))), .second, .val (.long (s1 ||| (0 : Int64))), .second, .val (.long (((((s1 ||| (1 : Int64)) &&& (-1 : Int64)) + (-1 : Int64)) ^^^ (-1 : Int64)) ||| (s1 ||| (1 : Int64)))), .second, .val (.long ((((0 : Int64) ||| (((((((s1 ||| (1 : Int64)) &&& (-1 : Int64)) + (-1 : Int64)) ^^^ (-1 : Int64)) ||| (s1 ||| (1 : Int64))) ||| (-1 : Int64)) ^^^ (-1 : Int64))) <<< ((1 : Int32) &&& 63).toInt64) ||| (0 : Int32).toInt64)), .second, .val (.long ((((-1 : Int64) &&& (((((s1 ||| (1 : Int64)) &&& (-1 : Int64)) + (-1 : Int64)) ^^^ (-1 : Int64)) ||| (s1 ||| (1 : Int64)))) <<< ((1 : Int32) &&& 63).toInt64) ||| (1 : Int32).toInt64)), .second, .val (.int ((ushrL ((0 : Int64) ||| (((((((s1 ||| (1 : Int64)) &&& (-1 : Int64)) + (-1 : Int64)) ^^^ (-1 : Int64)) ||| (s1 ||| (1 : Int64))) ||| (-1 : Int64)) ^^^ (-1 : Int64))) (63 : Int32)).toInt32 - (ushrL ((-1 : Int64) &&& (((((s1 ||| (1 : Int64)) &&& (-1 : Int64)) + (-1 : Int64)) ^^^ (-1 : Int64)) ||| (s1 ||| (1 : Int64)))) (63 : Int32)).toInt32))]) rfl (pc' := 169) rfl ?_
    refine g_iinc C d_prog_102_method_7_169 rfl (y := (2 : Int32)) (by first | decide | exact Nat.le_of_ble_eq_true rfl) (Ls' := #[.val (.ref o), .val (.ref sa), .val (.int ((ushrL ((0 : Int64) ||| (((((((s1 ||| (1 : Int64)) &&& (-1 : Int64)) + (-1 : Int64)) ^^^ (-1 : Int64)) ||| (s1 ||| (1 : Int64))) ||| (-1 : Int64)) ^^^ (-1 : Int64))) (63 : Int32)).toInt32 - (ushrL ((-1 : Int64) &&& (((((s1 ||| (1 : Int64)) &&& (-1 : Int64)) + (-1 : Int64)) ^^^ (-1 : Int64)) ||| (s1 ||| (1 : Int64)))) (63 : Int32)).toInt32)), .val (.int (2 : Int32)), .val (.long (-1 : Int64)), .second, .val (.long (0 : Int64)), .second, .val (.long (s1 ||| (1 : Int64))), .second, .val (.long (s1 ||| (0 : Int64))), .second, .val (.long (((((s1 ||| (1 : Int64)) &&& (-1 : Int64)) + (-1 : Int64)) ^^^ (-1 : Int64)) ||| (s1 ||| (1 : Int64)))), .second, .val (.long ((((0 : Int64) ||| (((((((s1 ||| (1 : Int64)) &&& (-1 : Int64)) + (-1 : Int64)) ^^^ (-1 : Int64)) ||| (s1 ||| (1 : Int64))) ||| (-1 : Int64)) ^^^ (-1 : Int64))) <<< ((1 : Int32) &&& 63).toInt64) ||| (0 : Int32).toInt64)), .second, .val (.long ((((-1 : Int64) &&& (((((s1 ||| (1 : Int64)) &&& (-1 : Int64)) + (-1 : Int64)) ^^^ (-1 : Int64)) ||| (s1 ||| (1 : Int64)))) <<< ((1 : Int32) &&& 63).toInt64) ||| (1 : Int32).toInt64)), .second, .val (.int ((ushrL ((0 : Int64) ||| (((((((s1 ||| (1 : Int64)) &&& (-1 : Int64)) + (-1 : Int64)) ^^^ (-1 : Int64)) ||| (s1 ||| (1 : Int64))) ||| (-1 : Int64)) ^^^ (-1 : Int64))) (63 : Int32)).toInt32 - (ushrL ((-1 : Int64) &&& (((((s1 ||| (1 : Int64)) &&& (-1 : Int64)) + (-1 : Int64)) ^^^ (-1 : Int64)) ||| (s1 ||| (1 : Int64)))) (63 : Int32)).toInt32))]) rfl (pc' := 172) rfl ?_
    refine g_goto C d_prog_102_method_7_172 (by decide) (pc' := 4) rfl ?_
    refine g_iload_n C d_prog_102_method_7_4 rfl (pc' := 5) rfl ?_
    refine g_aload_n C d_prog_102_method_7_5 rfl rfl (pc' := 6) rfl ?_
    refine g_getfield C (Wx82 hw) Via.refl (((((((Fu).other W0 (Or.inl n1)).other V0 (Or.inl n2))).other W1 (Or.inl n1)).other V1 (Or.inl n2))) d_prog_102_method_7_6 (pc' := 9) rfl ?_
    refine g_arraylength C (AV1) (z := (2 : Int32)) rfl d_prog_102_method_7_9 (pc' := 10) rfl ?_
    refine g_if_icmpge C d_prog_102_method_7_10 (by decide) (pcT := 175) rfl (pcF := 13) rfl (fun _ => ?_) (fun zz_ => absurd zz_ (by first | decide | exact Nat.le_of_ble_eq_true rfl))
    have e1 : c1 = (stp 1 (-1) 0 s0).2.2 := by rw [stp_p (by first | decide | exact Nat.le_of_ble_eq_true rfl) (by first | decide | exact Nat.le_of_ble_eq_true rfl)]; exact h_c1
    have R1 : Af Z m1 pu .long 2 (two (rw2 s0 s1).1 (rw2 s0 s1).2.1) := AV1.congr fun j hj => by
      rcases (show j = 0 ∨ j = 1 by omega) with rfl | rfl
      · show Value.long (stp 1 (-1) 0 s0).1 = _; rw [stp_p (by first | decide | exact Nat.le_of_ble_eq_true rfl) (by first | decide | exact Nat.le_of_ble_eq_true rfl)]; rfl
      · show Value.long (stp (stp 1 (-1) 0 s0).2.2 (-1) 0 s1).1 = _; rw [← e1]; rw [stp_n hc0 hc2]; rfl
    have R2 : Af Z m1 mi .long 2 (two (rw2 s0 s1).2.2.1 (rw2 s0 s1).2.2.2) := AM1.congr fun j hj => by
      rcases (show j = 0 ∨ j = 1 by omega) with rfl | rfl
      · show Value.long (stp 1 (-1) 0 s0).2.1 = _; rw [stp_p (by first | decide | exact Nat.le_of_ble_eq_true rfl) (by first | decide | exact Nat.le_of_ble_eq_true rfl)]; rfl
      · show Value.long (stp (stp 1 (-1) 0 s0).2.2 (-1) 0 s1).2.1 = _; rw [← e1]; rw [stp_n hc0 hc2]; rfl
    exact g_return C d_prog_102_method_7_175 (⟨rfl, R1, R2⟩) (by first | decide | exact Nat.le_of_ble_eq_true rfl) (by first | decide | exact Nat.le_of_ble_eq_true rfl)
set_option maxRecDepth 65536 in
set_option maxHeartbeats 40000000 in
theorem con_values (l : Launch) (Z : State) (a0 : Array Value) (hw : ∀ d ∈ tables_1, d.before a0 Z = true)  (h : Heap) (o ou pu mi : Addr) (r : Int32) (P0 P1 M0 M1 : Int64) (Fr : (Fld Z h o "com/example/corpusmith/corpusmith/ocr/EditRows" "row" "I" (.int r))) (Fm : (Fld Z h o "com/example/corpusmith/corpusmith/ocr/EditRows" "m" "I" (.int 66))) (Fu : (Fld Z h o "com/example/corpusmith/corpusmith/ocr/EditRows" "plus" "[J" (.ref pu))) (Fn : (Fld Z h o "com/example/corpusmith/corpusmith/ocr/EditRows" "minus" "[J" (.ref mi))) (Ao : Af Z h ou .int 67 (fun _ => .int 0)) (Au : Af Z h pu .long 2 (two P0 P1)) (An : Af Z h mi .long 2 (two M0 M1)) (n1 : o ≠ ou) (n2 : pu ≠ ou) (n3' : mi ≠ ou) : Con l Z [ou] (⟨"com/example/corpusmith/corpusmith/ocr/EditRows", "values", "([I)V"⟩ : MethodName) prog_102_method_6_code 4 (none) ({ frames := 0, cells := 0, slots := 0, locals := 0 } : Room) #[(.ref o), (.ref ou)] h [] (fun v h' => v = none ∧ Af Z h' ou .int 67 (fun i => .int (V P0 P1 M0 M1 r i))) := by
  refine Con.of (plainFor_of_name pn1) (Ls := #[.val (.ref o), .val (.ref ou), .unset, .unset]) (fun m => by first | (simp [entryFrame, mkF, argsToLocals, Value.category]; done) | rfl) ?_
  intro p_ e_ s_ m_ bel_ mt_ cd_ C
  refine g_aload_n C d_prog_102_method_6_0 rfl rfl (pc' := 1) rfl ?_
  refine g_getfield C (Wx95 hw) Via.refl (Fr) d_prog_102_method_6_1 (pc' := 4) rfl ?_
  refine g_istore_n C d_prog_102_method_6_4 (Ls' := #[.val (.ref o), .val (.ref ou), .val (.int r), .unset]) rfl (pc' := 5) rfl ?_
  refine g_aload_n C d_prog_102_method_6_5 rfl rfl (pc' := 6) rfl ?_
  refine g_iconst C d_prog_102_method_6_6 (x := (0 : Int32)) rfl (pc' := 7) rfl ?_
  refine g_iload_n C d_prog_102_method_6_7 rfl (pc' := 8) rfl ?_
  refine g_iastore C (Ao) (by first | decide | exact Nat.le_of_ble_eq_true rfl) (i := 0) rfl (by first | decide | exact Nat.le_of_ble_eq_true rfl) (Or.inl (List.mem_cons_self ..)) d_prog_102_method_6_8 (pc' := 9) rfl ?_
  intro h1 W1 A1
  refine g_iconst C d_prog_102_method_6_9 (x := (0 : Int32)) rfl (pc' := 10) rfl ?_
  refine g_istore_n C d_prog_102_method_6_10 (Ls' := #[.val (.ref o), .val (.ref ou), .val (.int r), .val (.int (0 : Int32))]) rfl (pc' := 11) rfl ?_
  refine g_loopH (α := Nat) (fun j h' => j ≤ 66 ∧ Af Z h' ou .int 67 (fun i => .int (if i ≤ j then V P0 P1 M0 M1 r i else 0))) (fun j => 66 - j) (fun j => #[.val (.ref o), .val (.ref ou), .val (.int (V P0 P1 M0 M1 r j)), .val (.int (Int32.ofNat j))]) 0 ⟨Nat.zero_le _, A1.congr fun i hi => by
    by_cases z : i = 0
    · rw [z, upd_same]; exact congrArg Value.int (if_pos (Nat.le_refl 0))
    · rw [upd_other z, if_neg (by omega)]⟩ rfl ?_
  rintro j h2 ⟨hj, A2⟩ IH
  dsimp only
  refine g_ctx C fun K2 _ => ?_
  have nin := ninS n1 (nin0)
  have Fm2 := Fm.keep K2 (ninS n1 nin0)
  have Fu2 := Fu.keep K2 (ninS n1 nin0)
  have Fn2 := Fn.keep K2 (ninS n1 nin0)
  have Au2 := Au.keep K2 (ninS n2 nin0)
  have An2 := An.keep K2 (ninS n3' nin0)
  refine g_iload_n C d_prog_102_method_6_11 rfl (pc' := 12) rfl ?_
  refine g_aload_n C d_prog_102_method_6_12 rfl rfl (pc' := 13) rfl ?_
  refine g_getfield C (Wx43 hw) Via.refl (Fm2) d_prog_102_method_6_13 (pc' := 16) rfl ?_
  rcases Nat.lt_or_ge j 66 with hc | hc
  · refine g_if_icmpge C d_prog_102_method_6_16 (by decide) (pcT := 63) rfl (pcF := 19) rfl (fun zz_ => absurd (by rw [show (66 : Int32) = Int32.ofNat 66 from rfl]; exact (lt_n (by omega) (by omega)).2 (by omega)) zz_) (fun _ => ?_)
    refine g_iload_n C d_prog_102_method_6_19 rfl (pc' := 20) rfl ?_
    refine g_aload_n C d_prog_102_method_6_20 rfl rfl (pc' := 21) rfl ?_
    refine g_getfield C (Wx82 hw) Via.refl (Fu2) d_prog_102_method_6_21 (pc' := 24) rfl ?_
    refine g_iload_n C d_prog_102_method_6_24 rfl (pc' := 25) rfl ?_
    refine g_bipush C d_prog_102_method_6_25 (x := (6 : Int32)) rfl (pc' := 27) rfl ?_
    refine g_iushr C d_prog_102_method_6_27 (pc' := 28) rfl ?_
    refine g_norm (cells' := 0) (slots' := 0) (st' := [(.int (Int32.ofNat (j / 64))), (.ref pu), (.int (V P0 P1 M0 M1 r j))]) (Nat.le_refl _) (Nat.le_refl _) (congrArg (fun z : Int32 => (Value.int z :: [(.ref pu), (.int (V P0 P1 M0 M1 r j))] : List Value)) (ush6 _ (by omega))) ?_
    refine g_laload C (Au2) (i32_nn (by omega)) (i := (j / 64)) (i32_clamp (by omega)) (by omega) (v := (.long (if j / 64 = 0 then P0 else P1))) (two_at) d_prog_102_method_6_28 (pc' := 29) rfl ?_
    refine g_iload_n C d_prog_102_method_6_29 rfl (pc' := 30) rfl ?_
    refine g_lushr C d_prog_102_method_6_30 (pc' := 31) rfl ?_
    refine g_lconst C d_prog_102_method_6_31 (x := (1 : Int64)) rfl (pc' := 32) rfl ?_
    refine g_land C d_prog_102_method_6_32 (pc' := 33) rfl ?_
    refine g_l2i C d_prog_102_method_6_33 (pc' := 34) rfl ?_
    refine g_aload_n C d_prog_102_method_6_34 rfl rfl (pc' := 35) rfl ?_
    refine g_getfield C (Wx84 hw) Via.refl (Fn2) d_prog_102_method_6_35 (pc' := 38) rfl ?_
    refine g_iload_n C d_prog_102_method_6_38 rfl (pc' := 39) rfl ?_
    refine g_bipush C d_prog_102_method_6_39 (x := (6 : Int32)) rfl (pc' := 41) rfl ?_
    refine g_iushr C d_prog_102_method_6_41 (pc' := 42) rfl ?_
    refine g_norm (cells' := 0) (slots' := 0) (st' := [(.int (Int32.ofNat (j / 64))), (.ref mi), (.int ((ushrL (if j / 64 = 0 then P0 else P1) (Int32.ofNat j)) &&& (1 : Int64)).toInt32), (.int (V P0 P1 M0 M1 r j))]) (Nat.le_refl _) (Nat.le_refl _) (congrArg (fun z : Int32 => (Value.int z :: [(.ref mi), (.int ((ushrL (if j / 64 = 0 then P0 else P1) (Int32.ofNat j)) &&& (1 : Int64)).toInt32), (.int (V P0 P1 M0 M1 r j))] : List Value)) (ush6 _ (by omega))) ?_
    refine g_laload C (An2) (i32_nn (by omega)) (i := (j / 64)) (i32_clamp (by omega)) (by omega) (v := (.long (if j / 64 = 0 then M0 else M1))) (two_at) d_prog_102_method_6_42 (pc' := 43) rfl ?_
    refine g_iload_n C d_prog_102_method_6_43 rfl (pc' := 44) rfl ?_
    refine g_lushr C d_prog_102_method_6_44 (pc' := 45) rfl ?_
    refine g_lconst C d_prog_102_method_6_45 (x := (1 : Int64)) rfl (pc' := 46) rfl ?_
    refine g_land C d_prog_102_method_6_46 (pc' := 47) rfl ?_
    refine g_l2i C d_prog_102_method_6_47 (pc' := 48) rfl ?_
    refine g_isub C d_prog_102_method_6_48 (pc' := 49) rfl ?_
    refine g_iadd C d_prog_102_method_6_49 (pc' := 50) rfl ?_
    refine g_norm (cells' := 0) (slots' := 0) (st' := [(.int (V P0 P1 M0 M1 r (j + 1)))]) (Nat.le_refl _) (Nat.le_refl _) (congrArg (fun z : Int32 => (Value.int z :: [] : List Value)) (rfl)) ?_
    refine g_istore_n C d_prog_102_method_6_50 (Ls' := #[.val (.ref o), .val (.ref ou), .val (.int (V P0 P1 M0 M1 r (j + 1))), .val (.int (Int32.ofNat j))]) rfl (pc' := 51) rfl ?_
    refine g_aload_n C d_prog_102_method_6_51 rfl rfl (pc' := 52) rfl ?_
    refine g_iload_n C d_prog_102_method_6_52 rfl (pc' := 53) rfl ?_
    refine g_iconst C d_prog_102_method_6_53 (x := (1 : Int32)) rfl (pc' := 54) rfl ?_
    refine g_iadd C d_prog_102_method_6_54 (pc' := 55) rfl ?_
    refine g_norm (cells' := 0) (slots' := 0) (st' := [(.int (Int32.ofNat (j + 1))), (.ref ou)]) (Nat.le_refl _) (Nat.le_refl _) (congrArg (fun z : Int32 => (Value.int z :: [(.ref ou)] : List Value)) (i32_succ)) ?_
    refine g_iload_n C d_prog_102_method_6_55 rfl (pc' := 56) rfl ?_
    refine g_iastore C (A2) (i32_nn (by omega)) (i := (j + 1)) (i32_clamp (by omega)) (by omega) (Or.inl (List.mem_cons_self ..)) d_prog_102_method_6_56 (pc' := 57) rfl ?_
    intro h3 W3 A3
    refine g_iinc C d_prog_102_method_6_57 rfl (y := (Int32.ofNat (j + 1))) (i32_succ) (Ls' := #[.val (.ref o), .val (.ref ou), .val (.int (V P0 P1 M0 M1 r (j + 1))), .val (.int (Int32.ofNat (j + 1)))]) rfl (pc' := 60) rfl ?_
    refine g_goto C d_prog_102_method_6_60 (by decide) (pc' := 11) rfl ?_
    exact IH (j + 1) h3 ⟨by omega, A3.congr fun i hi => by
      by_cases z : i = j + 1
      · rw [z, upd_same, if_pos (Nat.le_refl _)]
      · rw [upd_other z]; congr 1; by_cases z2 : i ≤ j
        · rw [if_pos z2, if_pos (by omega)]
        · rw [if_neg z2, if_neg (by omega)]⟩ (by omega)
  · obtain rfl : j = 66 := by omega
    refine g_if_icmpge C d_prog_102_method_6_16 (by decide) (pcT := 63) rfl (pcF := 19) rfl (fun _ => ?_) (fun zz_ => absurd zz_ (by first | decide | exact Nat.le_of_ble_eq_true rfl))
    exact g_return C d_prog_102_method_6_63 (⟨rfl, A2.congr fun i hi => by rw [if_pos (by omega)]⟩) (by first | decide | exact Nat.le_of_ble_eq_true rfl) (by first | decide | exact Nat.le_of_ble_eq_true rfl)
set_option maxRecDepth 65536 in
set_option maxHeartbeats 40000000 in
theorem con_row (l : Launch) (Z : State) (a0 : Array Value) (hw : ∀ d ∈ tables_1, d.before a0 Z = true)  (h : Heap) (o : Addr) (r : Int32) (F : (Fld Z h o "com/example/corpusmith/corpusmith/ocr/EditRows" "row" "I" (.int r))) : Con l Z [] (⟨"com/example/corpusmith/corpusmith/ocr/EditRows", "row", "()I"⟩ : MethodName) prog_102_method_4_code 1 ((some Jvm.ClassFile.FieldType.int)) ({ frames := 0, cells := 0, slots := 0, locals := 0 } : Room) #[(.ref o)] h [] (fun v h' => v = some (.int r) ∧ h' = h) := by
  refine Con.of (plainFor_of_name pn1) (Ls := #[.val (.ref o)]) (fun m => by first | (simp [entryFrame, mkF, argsToLocals, Value.category]; done) | rfl) ?_
  intro p_ e_ s_ m_ bel_ mt_ cd_ C
  refine g_aload_n C d_prog_102_method_4_0 rfl rfl (pc' := 1) rfl ?_
  refine g_getfield C (Wx95 hw) Via.refl (F) d_prog_102_method_4_1 (pc' := 4) rfl ?_
  exact g_ireturn C d_prog_102_method_4_4 (⟨rfl, rfl⟩) (by first | decide | exact Nat.le_of_ble_eq_true rfl) (by first | decide | exact Nat.le_of_ble_eq_true rfl)
set_option maxRecDepth 65536 in
set_option maxHeartbeats 40000000 in
theorem con_exp (l : Launch) (Z : State) (a0 : Array Value) (hw : ∀ d ∈ tables_1, d.before a0 Z = true)  (h : Heap) (r x y p j : Int32) : Con l Z [] (⟨"com/example/corpusmith/corpusmith/ocr/EditRowsValuesPinLaw", "expected", "(IIIII)I"⟩ : MethodName) method_2_code 6 ((some Jvm.ClassFile.FieldType.int)) ({ frames := 0, cells := 0, slots := 0, locals := 0 } : Room) #[(.int r), (.int x), (.int y), (.int p), (.int j)] h [] (fun v h' => v = some (.int (exF r x y p j)) ∧ h' = h) := by
  refine Con.of (plainFor_of_name pn3) (Ls := #[.val (.int r), .val (.int x), .val (.int y), .val (.int p), .val (.int j), .unset]) (fun m => by first | (simp [entryFrame, mkF, argsToLocals, Value.category]; done) | rfl) ?_
  intro p_ e_ s_ m_ bel_ mt_ cd_ C
  refine g_iload_n C d_method_2_0 rfl (pc' := 1) rfl ?_
  refine g_ifne C d_method_2_1 (by decide) (pcT := 7) rfl (pcF := 4) rfl ?_ ?_
  · intro z
    refine g_iload C d_method_2_7 rfl (pc' := 9) rfl ?_
    refine g_ifne C d_method_2_9 (by decide) (pcT := 14) rfl (pcF := 12) rfl ?_ ?_
    · intro z1
      refine g_iload_n C d_method_2_14 rfl (pc' := 15) rfl ?_
      refine g_ifne C d_method_2_15 (by decide) (pcT := 42) rfl (pcF := 18) rfl ?_ ?_
      · intro z2
        refine g_iload_n C d_method_2_42 rfl (pc' := 43) rfl ?_
        refine g_iload_n C d_method_2_43 rfl (pc' := 44) rfl ?_
        refine g_if_icmpne C d_method_2_44 (by decide) (pcT := 57) rfl (pcF := 47) rfl ?_ ?_
        · intro z3
          refine g_iconst C d_method_2_57 (x := (0 : Int32)) rfl (pc' := 58) rfl ?_
          refine g_istore C d_method_2_58 (Ls' := #[.val (.int r), .val (.int x), .val (.int y), .val (.int p), .val (.int j), .val (.int (0 : Int32))]) rfl (pc' := 60) rfl ?_
          refine g_iload C d_method_2_60 rfl (pc' := 62) rfl ?_
          refine g_ifeq C d_method_2_62 (by decide) (pcT := 72) rfl (pcF := 65) rfl (fun _ => ?_) (fun zz_ => absurd (rfl) zz_)
          refine g_iload C d_method_2_72 rfl (pc' := 74) rfl ?_
          exact g_ireturn C d_method_2_74 (⟨by unfold exF; rw [if_neg z, if_neg z1, if_neg z2, if_neg (fun q => z3 q.1)], rfl⟩) (by first | decide | exact Nat.le_of_ble_eq_true rfl) (by first | decide | exact Nat.le_of_ble_eq_true rfl)
        · intro z3
          refine g_iload_n C d_method_2_47 rfl (pc' := 48) rfl ?_
          refine g_iload C d_method_2_48 rfl (pc' := 50) rfl ?_
          refine g_if_icmpge C d_method_2_50 (by decide) (pcT := 57) rfl (pcF := 53) rfl ?_ ?_
          · intro z4
            refine g_iconst C d_method_2_57 (x := (0 : Int32)) rfl (pc' := 58) rfl ?_
            refine g_istore C d_method_2_58 (Ls' := #[.val (.int r), .val (.int x), .val (.int y), .val (.int p), .val (.int j), .val (.int (0 : Int32))]) rfl (pc' := 60) rfl ?_
            refine g_iload C d_method_2_60 rfl (pc' := 62) rfl ?_
            refine g_ifeq C d_method_2_62 (by decide) (pcT := 72) rfl (pcF := 65) rfl (fun _ => ?_) (fun zz_ => absurd (rfl) zz_)
            refine g_iload C d_method_2_72 rfl (pc' := 74) rfl ?_
            exact g_ireturn C d_method_2_74 (⟨by unfold exF; rw [if_neg z, if_neg z1, if_neg z2, if_neg (fun q => z4 q.2)], rfl⟩) (by first | decide | exact Nat.le_of_ble_eq_true rfl) (by first | decide | exact Nat.le_of_ble_eq_true rfl)
          · intro z4
            refine g_iconst C d_method_2_53 (x := (1 : Int32)) rfl (pc' := 54) rfl ?_
            refine g_goto C d_method_2_54 (by decide) (pc' := 58) rfl ?_
            refine g_istore C d_method_2_58 (Ls' := #[.val (.int r), .val (.int x), .val (.int y), .val (.int p), .val (.int j), .val (.int (1 : Int32))]) rfl (pc' := 60) rfl ?_
            refine g_iload C d_method_2_60 rfl (pc' := 62) rfl ?_
            refine g_ifeq C d_method_2_62 (by decide) (pcT := 72) rfl (pcF := 65) rfl (fun zz_ => absurd zz_ (by first | decide | exact Nat.le_of_ble_eq_true rfl)) (fun _ => ?_)
            refine g_iload C d_method_2_65 rfl (pc' := 67) rfl ?_
            refine g_iconst C d_method_2_67 (x := (1 : Int32)) rfl (pc' := 68) rfl ?_
            refine g_isub C d_method_2_68 (pc' := 69) rfl ?_
            refine g_goto C d_method_2_69 (by decide) (pc' := 74) rfl ?_
            exact g_ireturn C d_method_2_74 (⟨by unfold exF; rw [if_neg z, if_neg z1, if_neg z2, if_pos ⟨z3, z4⟩], rfl⟩) (by first | decide | exact Nat.le_of_ble_eq_true rfl) (by first | decide | exact Nat.le_of_ble_eq_true rfl)
      · intro z2
        refine g_iload C d_method_2_18 rfl (pc' := 20) rfl ?_
        refine g_iconst C d_method_2_20 (x := (1 : Int32)) rfl (pc' := 21) rfl ?_
        refine g_if_icmpne C d_method_2_21 (by decide) (pcT := 32) rfl (pcF := 24) rfl ?_ ?_
        · intro z3
          refine g_iconst C d_method_2_32 (x := (1 : Int32)) rfl (pc' := 33) rfl ?_
          refine g_goto C d_method_2_33 (by decide) (pc' := 37) rfl ?_
          refine g_istore C d_method_2_37 (Ls' := #[.val (.int r), .val (.int x), .val (.int y), .val (.int p), .val (.int j), .val (.int (1 : Int32))]) rfl (pc' := 39) rfl ?_
          refine g_goto C d_method_2_39 (by decide) (pc' := 60) rfl ?_
          refine g_iload C d_method_2_60 rfl (pc' := 62) rfl ?_
          refine g_ifeq C d_method_2_62 (by decide) (pcT := 72) rfl (pcF := 65) rfl (fun zz_ => absurd zz_ (by first | decide | exact Nat.le_of_ble_eq_true rfl)) (fun _ => ?_)
          refine g_iload C d_method_2_65 rfl (pc' := 67) rfl ?_
          refine g_iconst C d_method_2_67 (x := (1 : Int32)) rfl (pc' := 68) rfl ?_
          refine g_isub C d_method_2_68 (pc' := 69) rfl ?_
          refine g_goto C d_method_2_69 (by decide) (pc' := 74) rfl ?_
          exact g_ireturn C d_method_2_74 (⟨by unfold exF; rw [if_neg z, if_neg z1, if_pos z2, if_neg (fun q => z3 q.1)], rfl⟩) (by first | decide | exact Nat.le_of_ble_eq_true rfl) (by first | decide | exact Nat.le_of_ble_eq_true rfl)
        · intro z3
          refine g_iload_n C d_method_2_24 rfl (pc' := 25) rfl ?_
          refine g_ifne C d_method_2_25 (by decide) (pcT := 32) rfl (pcF := 28) rfl ?_ ?_
          · intro z4
            refine g_iconst C d_method_2_32 (x := (1 : Int32)) rfl (pc' := 33) rfl ?_
            refine g_goto C d_method_2_33 (by decide) (pc' := 37) rfl ?_
            refine g_istore C d_method_2_37 (Ls' := #[.val (.int r), .val (.int x), .val (.int y), .val (.int p), .val (.int j), .val (.int (1 : Int32))]) rfl (pc' := 39) rfl ?_
            refine g_goto C d_method_2_39 (by decide) (pc' := 60) rfl ?_
            refine g_iload C d_method_2_60 rfl (pc' := 62) rfl ?_
            refine g_ifeq C d_method_2_62 (by decide) (pcT := 72) rfl (pcF := 65) rfl (fun zz_ => absurd zz_ (by first | decide | exact Nat.le_of_ble_eq_true rfl)) (fun _ => ?_)
            refine g_iload C d_method_2_65 rfl (pc' := 67) rfl ?_
            refine g_iconst C d_method_2_67 (x := (1 : Int32)) rfl (pc' := 68) rfl ?_
            refine g_isub C d_method_2_68 (pc' := 69) rfl ?_
            refine g_goto C d_method_2_69 (by decide) (pc' := 74) rfl ?_
            exact g_ireturn C d_method_2_74 (⟨by unfold exF; rw [if_neg z, if_neg z1, if_pos z2, if_neg (fun q => z4 q.2.1)], rfl⟩) (by first | decide | exact Nat.le_of_ble_eq_true rfl) (by first | decide | exact Nat.le_of_ble_eq_true rfl)
          · intro z4
            refine g_iload_n C d_method_2_28 rfl (pc' := 29) rfl ?_
            refine g_ifne C d_method_2_29 (by decide) (pcT := 36) rfl (pcF := 32) rfl ?_ ?_
            · intro z5
              refine g_iconst C d_method_2_36 (x := (0 : Int32)) rfl (pc' := 37) rfl ?_
              refine g_istore C d_method_2_37 (Ls' := #[.val (.int r), .val (.int x), .val (.int y), .val (.int p), .val (.int j), .val (.int (0 : Int32))]) rfl (pc' := 39) rfl ?_
              refine g_goto C d_method_2_39 (by decide) (pc' := 60) rfl ?_
              refine g_iload C d_method_2_60 rfl (pc' := 62) rfl ?_
              refine g_ifeq C d_method_2_62 (by decide) (pcT := 72) rfl (pcF := 65) rfl (fun _ => ?_) (fun zz_ => absurd (rfl) zz_)
              refine g_iload C d_method_2_72 rfl (pc' := 74) rfl ?_
              exact g_ireturn C d_method_2_74 (⟨by unfold exF; rw [if_neg z, if_neg z1, if_pos z2, if_pos ⟨z3, z4, z5⟩], rfl⟩) (by first | decide | exact Nat.le_of_ble_eq_true rfl) (by first | decide | exact Nat.le_of_ble_eq_true rfl)
            · intro z5
              refine g_iconst C d_method_2_32 (x := (1 : Int32)) rfl (pc' := 33) rfl ?_
              refine g_goto C d_method_2_33 (by decide) (pc' := 37) rfl ?_
              refine g_istore C d_method_2_37 (Ls' := #[.val (.int r), .val (.int x), .val (.int y), .val (.int p), .val (.int j), .val (.int (1 : Int32))]) rfl (pc' := 39) rfl ?_
              refine g_goto C d_method_2_39 (by decide) (pc' := 60) rfl ?_
              refine g_iload C d_method_2_60 rfl (pc' := 62) rfl ?_
              refine g_ifeq C d_method_2_62 (by decide) (pcT := 72) rfl (pcF := 65) rfl (fun zz_ => absurd zz_ (by first | decide | exact Nat.le_of_ble_eq_true rfl)) (fun _ => ?_)
              refine g_iload C d_method_2_65 rfl (pc' := 67) rfl ?_
              refine g_iconst C d_method_2_67 (x := (1 : Int32)) rfl (pc' := 68) rfl ?_
              refine g_isub C d_method_2_68 (pc' := 69) rfl ?_
              refine g_goto C d_method_2_69 (by decide) (pc' := 74) rfl ?_
              exact g_ireturn C d_method_2_74 (⟨by unfold exF; rw [if_neg z, if_neg z1, if_pos z2, if_neg (fun q => q.2.2 z5)], rfl⟩) (by first | decide | exact Nat.le_of_ble_eq_true rfl) (by first | decide | exact Nat.le_of_ble_eq_true rfl)
    · intro z1
      refine g_iconst C d_method_2_12 (x := (1 : Int32)) rfl (pc' := 13) rfl ?_
      exact g_ireturn C d_method_2_13 (⟨by unfold exF; rw [if_neg z, if_pos z1], rfl⟩) (by first | decide | exact Nat.le_of_ble_eq_true rfl) (by first | decide | exact Nat.le_of_ble_eq_true rfl)
  · intro z
    refine g_iload C d_method_2_4 rfl (pc' := 6) rfl ?_
    exact g_ireturn C d_method_2_6 (⟨by unfold exF; rw [if_pos z], rfl⟩) (by first | decide | exact Nat.le_of_ble_eq_true rfl) (by first | decide | exact Nat.le_of_ble_eq_true rfl)
set_option maxRecDepth 65536 in
set_option maxHeartbeats 40000000 in
theorem con_adv (l : Launch) (Z : State) (a0 : Array Value) (hw : ∀ d ∈ tables_1, d.before a0 Z = true)  (h : Heap) (x y : Int32) (p : Nat) (hp : p < 66) (av : Int32) (hW : Wd x y av) (o aa st pl bi br li pu mi : Addr) (E : Exa Z h o "com/example/corpusmith/corpusmith/ocr/EditRows") (Fm : (Fld Z h o "com/example/corpusmith/corpusmith/ocr/EditRows" "m" "I" (.int 66))) (Fa : (Fld Z h o "com/example/corpusmith/corpusmith/ocr/EditRows" "a" "[I" (.ref aa))) (Frow : (Fld Z h o "com/example/corpusmith/corpusmith/ocr/EditRows" "row" "I" (.int 0))) (Fbits : (Fld Z h o "com/example/corpusmith/corpusmith/ocr/EditRows" "bits" "[[J" (.ref bi))) (Flisted : (Fld Z h o "com/example/corpusmith/corpusmith/ocr/EditRows" "listed" "[J" (.ref li))) (Fstarts : (Fld Z h o "com/example/corpusmith/corpusmith/ocr/EditRows" "starts" "[I" (.ref st))) (Fplaces : (Fld Z h o "com/example/corpusmith/corpusmith/ocr/EditRows" "places" "[I" (.ref pl))) (Fplus : (Fld Z h o "com/example/corpusmith/corpusmith/ocr/EditRows" "plus" "[J" (.ref pu))) (Fminus : (Fld Z h o "com/example/corpusmith/corpusmith/ocr/EditRows" "minus" "[J" (.ref mi))) (Aa : Af Z h aa .int 1 (fun _ => .int av)) (Ab : Af Z h bi (.array .long) (dF y) (fun i => if i = izF y then .ref br else .null)) (Abr : Af Z h br .long 2 (two (sm (if y = 0 then 1 else 2) p).1 (sm (if y = 0 then 1 else 2) p).2)) (Ast : Af Z h st .int (dF y + 1) (fun i => .int (Int32.ofNat (s3 (kd y) i)))) (Apl : Af Z h pl .int 66 (fun t => .int (Int32.ofNat (cF (kd y) p t)))) (Al : Af Z h li .long 2 (two 0 0)) (Au : Af Z h pu .long 2 (two (-1) (-1))) (An : Af Z h mi .long 2 (two 0 0)) (l1 : @LT.lt Nat instLTNat o st) (l2 : @LT.lt Nat instLTNat st pl) (l3 : @LT.lt Nat instLTNat pl bi) (l4 : @LT.lt Nat instLTNat bi br) (l5 : @LT.lt Nat instLTNat br aa) (l6 : @LT.lt Nat instLTNat aa li) (l7 : @LT.lt Nat instLTNat li pu) (l8 : @LT.lt Nat instLTNat pu mi) : Con l Z [o, li, pu, mi] (⟨"com/example/corpusmith/corpusmith/ocr/EditRows", "advance", "()V"⟩ : MethodName) prog_102_method_5_code 3 (none) ({ frames := 1, cells := 0, slots := 0, locals := 30 } : Room) #[(.ref o)] h [] (fun v h' => v = none ∧ (Fld Z h' o "com/example/corpusmith/corpusmith/ocr/EditRows" "row" "I" (.int 1)) ∧ (Fld Z h' o "com/example/corpusmith/corpusmith/ocr/EditRows" "m" "I" (.int 66)) ∧ (Fld Z h' o "com/example/corpusmith/corpusmith/ocr/EditRows" "plus" "[J" (.ref pu)) ∧ (Fld Z h' o "com/example/corpusmith/corpusmith/ocr/EditRows" "minus" "[J" (.ref mi)) ∧ Af Z h' pu .long 2 (two (rw2 (sm (kx x y) p).1 (sm (kx x y) p).2).1 (rw2 (sm (kx x y) p).1 (sm (kx x y) p).2).2.1) ∧ Af Z h' mi .long 2 (two (rw2 (sm (kx x y) p).1 (sm (kx x y) p).2).2.2.1 (rw2 (sm (kx x y) p).1 (sm (kx x y) p).2).2.2.2)) := by
  refine Con.of (plainFor_of_name pn1) (Ls := #[.val (.ref o), .unset, .unset]) (fun m => by first | (simp [entryFrame, mkF, argsToLocals, Value.category]; done) | rfl) ?_
  intro p_ e_ s_ m_ bel_ mt_ cd_ C
  rcases hW with ⟨rfl, hk⟩ | ⟨rfl, hk⟩ | ⟨hy0, rfl, hk⟩
  · have hiz := iz_lt y
    have hdl := dF_le y
    refine g_aload_n C d_prog_102_method_5_0 rfl rfl (pc' := 1) rfl ?_
    refine g_getfield C (Wx75 hw) Via.refl (Fa) d_prog_102_method_5_1 (pc' := 4) rfl ?_
    refine g_aload_n C d_prog_102_method_5_4 rfl rfl (pc' := 5) rfl ?_
    refine g_getfield C (Wx95 hw) Via.refl (Frow) d_prog_102_method_5_5 (pc' := 8) rfl ?_
    refine g_iaload C (Aa) (by first | decide | exact Nat.le_of_ble_eq_true rfl) (i := 0) rfl (by first | decide | exact Nat.le_of_ble_eq_true rfl) (v := (.int (-1 : Int32))) (rfl) d_prog_102_method_5_8 (pc' := 9) rfl ?_
    refine g_istore_n C d_prog_102_method_5_9 (Ls' := #[.val (.ref o), .val (.int (-1 : Int32)), .unset]) rfl (pc' := 10) rfl ?_
    refine g_iload_n C d_prog_102_method_5_10 rfl (pc' := 11) rfl ?_
    refine g_iflt C d_prog_102_method_5_11 (by decide) (pcT := 27) rfl (pcF := 14) rfl (fun _ => ?_) (fun zz_ => absurd (by first | decide | exact Nat.le_of_ble_eq_true rfl) zz_)
    refine g_iconst C d_prog_102_method_5_27 (x := (0 : Int32)) rfl (pc' := 28) rfl ?_
    refine g_istore_n C d_prog_102_method_5_28 (Ls' := #[.val (.ref o), .val (.int (-1 : Int32)), .val (.int (0 : Int32))]) rfl (pc' := 29) rfl ?_
    refine g_iload_n C d_prog_102_method_5_29 rfl (pc' := 30) rfl ?_
    refine g_ifeq C d_prog_102_method_5_30 (by decide) (pcT := 38) rfl (pcF := 33) rfl (fun _ => ?_) (fun zz_ => absurd (rfl) zz_)
    refine g_aload_n C d_prog_102_method_5_38 rfl rfl (pc' := 39) rfl ?_
    refine g_iload_n C d_prog_102_method_5_39 rfl (pc' := 40) rfl ?_
    refine g_iflt C d_prog_102_method_5_40 (by decide) (pcT := 56) rfl (pcF := 43) rfl (fun _ => ?_) (fun zz_ => absurd (by first | decide | exact Nat.le_of_ble_eq_true rfl) zz_)
    refine g_aload_n C d_prog_102_method_5_56 rfl rfl (pc' := 57) rfl ?_
    refine g_getfield C (Wx80 hw) Via.refl (Flisted) d_prog_102_method_5_57 (pc' := 60) rfl ?_
    refine g_privateC C (W := 0) (argsL := [(.ref li)]) (rest := []) (con_step l Z a0 hw h o li pu mi 0 0 (Fplus) (Fminus) (Al) (Au) (An) (neA (by omega)) (neA (by omega)) (neA (by omega)) (neA (by omega)) (neA (by omega))) (Wx111 hw) (Wx93 hw) rfl (Wx112 hw) (Wx113 hw) (Wx4 hw) (Wx114 hw) (by first | decide | exact Nat.le_of_ble_eq_true rfl) (E) rfl (lenOf pd7 rfl) rfl (Nat.le_of_eq rfl) d_prog_102_method_5_60 (pc' := 63) rfl (by first | decide | exact Nat.le_of_ble_eq_true rfl) (by first | decide | exact Nat.le_of_ble_eq_true rfl) (allS (Or.inl (by simp)) (allS (Or.inl (by simp)) all0)) (by first | decide | exact Nat.le_of_ble_eq_true rfl) (by first | decide | exact Nat.le_of_ble_eq_true rfl) ?_
    rintro _ h1 ⟨rfl, U1, N1⟩ K1
    refine g_norm (cells' := 0) (slots' := 0) (st' := []) (by first | decide | exact Nat.le_of_ble_eq_true rfl) (by first | decide | exact Nat.le_of_ble_eq_true rfl) rfl ?_
    refine g_iload_n C d_prog_102_method_5_63 rfl (pc' := 64) rfl ?_
    refine g_ifeq C d_prog_102_method_5_64 (by decide) (pcT := 72) rfl (pcF := 67) rfl (fun _ => ?_) (fun zz_ => absurd (rfl) zz_)
    refine g_aload_n C d_prog_102_method_5_72 rfl rfl (pc' := 73) rfl ?_
    refine g_dup C d_prog_102_method_5_73 rfl (pc' := 74) rfl ?_
    have fy29 := (Frow).keep K1 (ninS (neA (by omega)) (ninS (neA (by omega)) nin0))
    refine g_getfield C (Wx95 hw) Via.refl (fy29) d_prog_102_method_5_74 (pc' := 77) rfl ?_
    refine g_iconst C d_prog_102_method_5_77 (x := (1 : Int32)) rfl (pc' := 78) rfl ?_
    refine g_iadd C d_prog_102_method_5_78 (pc' := 79) rfl ?_
    refine g_norm (cells' := 0) (slots' := 0) (st' := [(.int (1 : Int32)), (.ref o)]) (Nat.le_refl _) (Nat.le_refl _) (congrArg (fun z : Int32 => (Value.int z :: [(.ref o)] : List Value)) (by first | decide | exact Nat.le_of_ble_eq_true rfl)) ?_
    have fy30 := (E).keep K1
    refine g_putfield C (Wx95 hw) Via.refl (v' := (.int (1 : Int32))) (fy29) (fy30) (Or.inl (Wx96 hw)) (Wx3 hw) (ty := .int) (by first | decide | exact Nat.le_of_ble_eq_true rfl) rfl rfl (Or.inl (by simp)) d_prog_102_method_5_79 (pc' := 82) rfl ?_
    intro h9 W9
    have R1 := (U1).other W9 (neA (by omega))
    have R2 := (N1).other W9 (neA (by omega))
    have fy31 := ((Fm).keep K1 (ninS (neA (by omega)) (ninS (neA (by omega)) nin0))).other W9 (Or.inr (slot_ne (Or.inr (Wx44 hw)) (Or.inl (Wx96 hw)) (by first | decide | exact Nat.le_of_ble_eq_true rfl) (t := .int) (by first | decide | exact Nat.le_of_ble_eq_true rfl) (t' := .int) (by first | decide | exact Nat.le_of_ble_eq_true rfl)))
    have fy32 := ((Fplus).keep K1 (ninS (neA (by omega)) (ninS (neA (by omega)) nin0))).other W9 (Or.inr (slot_ne (Or.inr (Wx83 hw)) (Or.inl (Wx96 hw)) (by first | decide | exact Nat.le_of_ble_eq_true rfl) (t := (.array .long)) (by first | decide | exact Nat.le_of_ble_eq_true rfl) (t' := .int) (by first | decide | exact Nat.le_of_ble_eq_true rfl)))
    have fy33 := ((Fminus).keep K1 (ninS (neA (by omega)) (ninS (neA (by omega)) nin0))).other W9 (Or.inr (slot_ne (Or.inr (Wx85 hw)) (Or.inl (Wx96 hw)) (by first | decide | exact Nat.le_of_ble_eq_true rfl) (t := (.array .long)) (by first | decide | exact Nat.le_of_ble_eq_true rfl) (t' := .int) (by first | decide | exact Nat.le_of_ble_eq_true rfl)))
    exact g_return C d_prog_102_method_5_82 (⟨rfl, (fy29).same W9, fy31, fy32, fy33, by rw [hk]; exact R1, by rw [hk]; exact R2⟩) (by first | decide | exact Nat.le_of_ble_eq_true rfl) (by first | decide | exact Nat.le_of_ble_eq_true rfl)
  · have hiz := iz_lt y
    have hdl := dF_le y
    refine g_aload_n C d_prog_102_method_5_0 rfl rfl (pc' := 1) rfl ?_
    refine g_getfield C (Wx75 hw) Via.refl (Fa) d_prog_102_method_5_1 (pc' := 4) rfl ?_
    refine g_aload_n C d_prog_102_method_5_4 rfl rfl (pc' := 5) rfl ?_
    refine g_getfield C (Wx95 hw) Via.refl (Frow) d_prog_102_method_5_5 (pc' := 8) rfl ?_
    refine g_iaload C (Aa) (by first | decide | exact Nat.le_of_ble_eq_true rfl) (i := 0) rfl (by first | decide | exact Nat.le_of_ble_eq_true rfl) (v := (.int (Int32.ofNat (izF y)))) (rfl) d_prog_102_method_5_8 (pc' := 9) rfl ?_
    refine g_istore_n C d_prog_102_method_5_9 (Ls' := #[.val (.ref o), .val (.int (Int32.ofNat (izF y))), .unset]) rfl (pc' := 10) rfl ?_
    refine g_iload_n C d_prog_102_method_5_10 rfl (pc' := 11) rfl ?_
    refine g_iflt C d_prog_102_method_5_11 (by decide) (pcT := 27) rfl (pcF := 14) rfl (fun zz_ => absurd zz_ (i32_nn (by omega))) (fun _ => ?_)
    refine g_aload_n C d_prog_102_method_5_14 rfl rfl (pc' := 15) rfl ?_
    refine g_getfield C (Wx71 hw) Via.refl (Fbits) d_prog_102_method_5_15 (pc' := 18) rfl ?_
    refine g_iload_n C d_prog_102_method_5_18 rfl (pc' := 19) rfl ?_
    refine g_aaload C (Ab) rfl (i32_nn (by omega)) (i := (izF y)) (i32_clamp (by omega)) (by omega) (v := (.ref br)) (if_pos rfl) d_prog_102_method_5_19 (pc' := 20) rfl ?_
    refine g_ifnonnull C rfl d_prog_102_method_5_20 (by decide) (pcT := 27) rfl (pcF := 23) rfl (fun _ _ => ?_) (fun z => nomatch z)
    refine g_iconst C d_prog_102_method_5_27 (x := (0 : Int32)) rfl (pc' := 28) rfl ?_
    refine g_istore_n C d_prog_102_method_5_28 (Ls' := #[.val (.ref o), .val (.int (Int32.ofNat (izF y))), .val (.int (0 : Int32))]) rfl (pc' := 29) rfl ?_
    refine g_iload_n C d_prog_102_method_5_29 rfl (pc' := 30) rfl ?_
    refine g_ifeq C d_prog_102_method_5_30 (by decide) (pcT := 38) rfl (pcF := 33) rfl (fun _ => ?_) (fun zz_ => absurd (rfl) zz_)
    refine g_aload_n C d_prog_102_method_5_38 rfl rfl (pc' := 39) rfl ?_
    refine g_iload_n C d_prog_102_method_5_39 rfl (pc' := 40) rfl ?_
    refine g_iflt C d_prog_102_method_5_40 (by decide) (pcT := 56) rfl (pcF := 43) rfl (fun zz_ => absurd zz_ (i32_nn (by omega))) (fun _ => ?_)
    refine g_iload_n C d_prog_102_method_5_43 rfl (pc' := 44) rfl ?_
    refine g_ifne C d_prog_102_method_5_44 (by decide) (pcT := 56) rfl (pcF := 47) rfl (fun zz_ => absurd (rfl) zz_) (fun _ => ?_)
    refine g_aload_n C d_prog_102_method_5_47 rfl rfl (pc' := 48) rfl ?_
    refine g_getfield C (Wx71 hw) Via.refl (Fbits) d_prog_102_method_5_48 (pc' := 51) rfl ?_
    refine g_iload_n C d_prog_102_method_5_51 rfl (pc' := 52) rfl ?_
    refine g_aaload C (Ab) rfl (i32_nn (by omega)) (i := (izF y)) (i32_clamp (by omega)) (by omega) (v := (.ref br)) (if_pos rfl) d_prog_102_method_5_52 (pc' := 53) rfl ?_
    refine g_goto C d_prog_102_method_5_53 (by decide) (pc' := 60) rfl ?_
    refine g_privateC C (W := 0) (argsL := [(.ref br)]) (rest := []) (con_step l Z a0 hw h o br pu mi _ _ (Fplus) (Fminus) (Abr) (Au) (An) (neA (by omega)) (neA (by omega)) (neA (by omega)) (neA (by omega)) (neA (by omega))) (Wx111 hw) (Wx93 hw) rfl (Wx112 hw) (Wx113 hw) (Wx4 hw) (Wx114 hw) (by first | decide | exact Nat.le_of_ble_eq_true rfl) (E) rfl (lenOf pd7 rfl) rfl (Nat.le_of_eq rfl) d_prog_102_method_5_60 (pc' := 63) rfl (by first | decide | exact Nat.le_of_ble_eq_true rfl) (by first | decide | exact Nat.le_of_ble_eq_true rfl) (allS (Or.inl (by simp)) (allS (Or.inl (by simp)) all0)) (by first | decide | exact Nat.le_of_ble_eq_true rfl) (by first | decide | exact Nat.le_of_ble_eq_true rfl) ?_
    rintro _ h1 ⟨rfl, U1, N1⟩ K1
    refine g_norm (cells' := 0) (slots' := 0) (st' := []) (by first | decide | exact Nat.le_of_ble_eq_true rfl) (by first | decide | exact Nat.le_of_ble_eq_true rfl) rfl ?_
    refine g_iload_n C d_prog_102_method_5_63 rfl (pc' := 64) rfl ?_
    refine g_ifeq C d_prog_102_method_5_64 (by decide) (pcT := 72) rfl (pcF := 67) rfl (fun _ => ?_) (fun zz_ => absurd (rfl) zz_)
    refine g_aload_n C d_prog_102_method_5_72 rfl rfl (pc' := 73) rfl ?_
    refine g_dup C d_prog_102_method_5_73 rfl (pc' := 74) rfl ?_
    have fy34 := (Frow).keep K1 (ninS (neA (by omega)) (ninS (neA (by omega)) nin0))
    refine g_getfield C (Wx95 hw) Via.refl (fy34) d_prog_102_method_5_74 (pc' := 77) rfl ?_
    refine g_iconst C d_prog_102_method_5_77 (x := (1 : Int32)) rfl (pc' := 78) rfl ?_
    refine g_iadd C d_prog_102_method_5_78 (pc' := 79) rfl ?_
    refine g_norm (cells' := 0) (slots' := 0) (st' := [(.int (1 : Int32)), (.ref o)]) (Nat.le_refl _) (Nat.le_refl _) (congrArg (fun z : Int32 => (Value.int z :: [(.ref o)] : List Value)) (by first | decide | exact Nat.le_of_ble_eq_true rfl)) ?_
    have fy35 := (E).keep K1
    refine g_putfield C (Wx95 hw) Via.refl (v' := (.int (1 : Int32))) (fy34) (fy35) (Or.inl (Wx96 hw)) (Wx3 hw) (ty := .int) (by first | decide | exact Nat.le_of_ble_eq_true rfl) rfl rfl (Or.inl (by simp)) d_prog_102_method_5_79 (pc' := 82) rfl ?_
    intro h9 W9
    have R1 := (U1).other W9 (neA (by omega))
    have R2 := (N1).other W9 (neA (by omega))
    have fy36 := ((Fm).keep K1 (ninS (neA (by omega)) (ninS (neA (by omega)) nin0))).other W9 (Or.inr (slot_ne (Or.inr (Wx44 hw)) (Or.inl (Wx96 hw)) (by first | decide | exact Nat.le_of_ble_eq_true rfl) (t := .int) (by first | decide | exact Nat.le_of_ble_eq_true rfl) (t' := .int) (by first | decide | exact Nat.le_of_ble_eq_true rfl)))
    have fy37 := ((Fplus).keep K1 (ninS (neA (by omega)) (ninS (neA (by omega)) nin0))).other W9 (Or.inr (slot_ne (Or.inr (Wx83 hw)) (Or.inl (Wx96 hw)) (by first | decide | exact Nat.le_of_ble_eq_true rfl) (t := (.array .long)) (by first | decide | exact Nat.le_of_ble_eq_true rfl) (t' := .int) (by first | decide | exact Nat.le_of_ble_eq_true rfl)))
    have fy38 := ((Fminus).keep K1 (ninS (neA (by omega)) (ninS (neA (by omega)) nin0))).other W9 (Or.inr (slot_ne (Or.inr (Wx85 hw)) (Or.inl (Wx96 hw)) (by first | decide | exact Nat.le_of_ble_eq_true rfl) (t := (.array .long)) (by first | decide | exact Nat.le_of_ble_eq_true rfl) (t' := .int) (by first | decide | exact Nat.le_of_ble_eq_true rfl)))
    exact g_return C d_prog_102_method_5_82 (⟨rfl, (fy34).same W9, fy36, fy37, fy38, by rw [hk]; exact R1, by rw [hk]; exact R2⟩) (by first | decide | exact Nat.le_of_ble_eq_true rfl) (by first | decide | exact Nat.le_of_ble_eq_true rfl)
  · have hiz := iz_lt y
    have hdl := dF_le y
    obtain ⟨fl1, fl2, fl3⟩ := fl_of hy0 p
    refine g_aload_n C d_prog_102_method_5_0 rfl rfl (pc' := 1) rfl ?_
    refine g_getfield C (Wx75 hw) Via.refl (Fa) d_prog_102_method_5_1 (pc' := 4) rfl ?_
    refine g_aload_n C d_prog_102_method_5_4 rfl rfl (pc' := 5) rfl ?_
    refine g_getfield C (Wx95 hw) Via.refl (Frow) d_prog_102_method_5_5 (pc' := 8) rfl ?_
    refine g_iaload C (Aa) (by first | decide | exact Nat.le_of_ble_eq_true rfl) (i := 0) rfl (by first | decide | exact Nat.le_of_ble_eq_true rfl) (v := (.int (Int32.ofNat (iyF y)))) (rfl) d_prog_102_method_5_8 (pc' := 9) rfl ?_
    refine g_istore_n C d_prog_102_method_5_9 (Ls' := #[.val (.ref o), .val (.int (Int32.ofNat (iyF y))), .unset]) rfl (pc' := 10) rfl ?_
    refine g_iload_n C d_prog_102_method_5_10 rfl (pc' := 11) rfl ?_
    refine g_iflt C d_prog_102_method_5_11 (by decide) (pcT := 27) rfl (pcF := 14) rfl (fun zz_ => absurd zz_ (i32_nn (by omega))) (fun _ => ?_)
    refine g_aload_n C d_prog_102_method_5_14 rfl rfl (pc' := 15) rfl ?_
    refine g_getfield C (Wx71 hw) Via.refl (Fbits) d_prog_102_method_5_15 (pc' := 18) rfl ?_
    refine g_iload_n C d_prog_102_method_5_18 rfl (pc' := 19) rfl ?_
    refine g_aaload C (Ab) rfl (i32_nn (by omega)) (i := (iyF y)) (i32_clamp (by omega)) (by omega) (v := .null) (if_neg (iy_ne hy0)) d_prog_102_method_5_19 (pc' := 20) rfl ?_
    refine g_ifnonnull C rfl d_prog_102_method_5_20 (by decide) (pcT := 27) rfl (pcF := 23) rfl (fun _ z => nomatch z) (fun _ => ?_)
    refine g_iconst C d_prog_102_method_5_23 (x := (1 : Int32)) rfl (pc' := 24) rfl ?_
    refine g_goto C d_prog_102_method_5_24 (by decide) (pc' := 28) rfl ?_
    refine g_istore_n C d_prog_102_method_5_28 (Ls' := #[.val (.ref o), .val (.int (Int32.ofNat (iyF y))), .val (.int (1 : Int32))]) rfl (pc' := 29) rfl ?_
    refine g_iload_n C d_prog_102_method_5_29 rfl (pc' := 30) rfl ?_
    refine g_ifeq C d_prog_102_method_5_30 (by decide) (pcT := 38) rfl (pcF := 33) rfl (fun zz_ => absurd zz_ (by first | decide | exact Nat.le_of_ble_eq_true rfl)) (fun _ => ?_)
    refine g_aload_n C d_prog_102_method_5_33 rfl rfl (pc' := 34) rfl ?_
    refine g_iload_n C d_prog_102_method_5_34 rfl (pc' := 35) rfl ?_
    refine g_privateC C (W := 0) (argsL := [(.int (Int32.ofNat (iyF y)))]) (rest := []) (con_flip l Z a0 hw h o st pl li (dF y + 1) (iyF y) (s3 (kd y) (iyF y)) p hp fl3 (by omega) (by omega) _ _ 0 0 (Fstarts) (Fplaces) (Flisted) (Ast) rfl (by show Value.int (Int32.ofNat (s3 (kd y) (iyF y + 1))) = _; rw [fl1]) (Apl) (by show Value.int (Int32.ofNat (cF (kd y) p (s3 (kd y) (iyF y)))) = _; rw [fl2]) (Al) (neA (by omega)) (neA (by omega)) (neA (by omega))) (Wx115 hw) (Wx93 hw) rfl (Wx116 hw) (Wx117 hw) (Wx4 hw) (Wx118 hw) (by first | decide | exact Nat.le_of_ble_eq_true rfl) (E) rfl (lenOf pd8 rfl) rfl (Nat.le_of_eq rfl) d_prog_102_method_5_35 (pc' := 38) rfl (by first | decide | exact Nat.le_of_ble_eq_true rfl) (by first | decide | exact Nat.le_of_ble_eq_true rfl) (allS (Or.inl (by simp)) all0) (by first | decide | exact Nat.le_of_ble_eq_true rfl) (by first | decide | exact Nat.le_of_ble_eq_true rfl) ?_
    rintro _ h1 ⟨rfl, L1⟩ K1
    refine g_norm (cells' := 0) (slots' := 0) (st' := []) (by first | decide | exact Nat.le_of_ble_eq_true rfl) (by first | decide | exact Nat.le_of_ble_eq_true rfl) rfl ?_
    have L2 : Af Z h1 li .long 2 (two (sm 3 p).1 (sm 3 p).2) := by rw [(sm3 p).1, (sm3 p).2]; exact L1
    refine g_aload_n C d_prog_102_method_5_38 rfl rfl (pc' := 39) rfl ?_
    refine g_iload_n C d_prog_102_method_5_39 rfl (pc' := 40) rfl ?_
    refine g_iflt C d_prog_102_method_5_40 (by decide) (pcT := 56) rfl (pcF := 43) rfl (fun zz_ => absurd zz_ (i32_nn (by omega))) (fun _ => ?_)
    refine g_iload_n C d_prog_102_method_5_43 rfl (pc' := 44) rfl ?_
    refine g_ifne C d_prog_102_method_5_44 (by decide) (pcT := 56) rfl (pcF := 47) rfl (fun _ => ?_) (fun zz_ => absurd zz_ (by first | decide | exact Nat.le_of_ble_eq_true rfl))
    refine g_aload_n C d_prog_102_method_5_56 rfl rfl (pc' := 57) rfl ?_
    have fy39 := (Flisted).keep K1 (ninS (neA (by omega)) nin0)
    refine g_getfield C (Wx80 hw) Via.refl (fy39) d_prog_102_method_5_57 (pc' := 60) rfl ?_
    have fy40 := (Fplus).keep K1 (ninS (neA (by omega)) nin0)
    have fy41 := (Fminus).keep K1 (ninS (neA (by omega)) nin0)
    have fy42 := (Au).keep K1 (ninS (neA (by omega)) nin0)
    have fy43 := (An).keep K1 (ninS (neA (by omega)) nin0)
    have fy44 := (E).keep K1
    refine g_privateC C (W := 0) (argsL := [(.ref li)]) (rest := []) (con_step l Z a0 hw h1 o li pu mi _ _ (fy40) (fy41) (L2) (fy42) (fy43) (neA (by omega)) (neA (by omega)) (neA (by omega)) (neA (by omega)) (neA (by omega))) (Wx111 hw) (Wx93 hw) rfl (Wx112 hw) (Wx113 hw) (Wx4 hw) (Wx114 hw) (by first | decide | exact Nat.le_of_ble_eq_true rfl) (fy44) rfl (lenOf pd7 rfl) rfl (Nat.le_of_eq rfl) d_prog_102_method_5_60 (pc' := 63) rfl (by first | decide | exact Nat.le_of_ble_eq_true rfl) (by first | decide | exact Nat.le_of_ble_eq_true rfl) (allS (Or.inl (by simp)) (allS (Or.inl (by simp)) all0)) (by first | decide | exact Nat.le_of_ble_eq_true rfl) (by first | decide | exact Nat.le_of_ble_eq_true rfl) ?_
    rintro _ h2 ⟨rfl, U1, N1⟩ K2
    refine g_norm (cells' := 0) (slots' := 0) (st' := []) (by first | decide | exact Nat.le_of_ble_eq_true rfl) (by first | decide | exact Nat.le_of_ble_eq_true rfl) rfl ?_
    refine g_iload_n C d_prog_102_method_5_63 rfl (pc' := 64) rfl ?_
    refine g_ifeq C d_prog_102_method_5_64 (by decide) (pcT := 72) rfl (pcF := 67) rfl (fun zz_ => absurd zz_ (by first | decide | exact Nat.le_of_ble_eq_true rfl)) (fun _ => ?_)
    refine g_aload_n C d_prog_102_method_5_67 rfl rfl (pc' := 68) rfl ?_
    refine g_iload_n C d_prog_102_method_5_68 rfl (pc' := 69) rfl ?_
    have fy45 := ((Fstarts).keep K1 (ninS (neA (by omega)) nin0)).keep K2 (ninS (neA (by omega)) (ninS (neA (by omega)) nin0))
    have fy46 := ((Fplaces).keep K1 (ninS (neA (by omega)) nin0)).keep K2 (ninS (neA (by omega)) (ninS (neA (by omega)) nin0))
    have fy47 := (fy39).keep K2 (ninS (neA (by omega)) (ninS (neA (by omega)) nin0))
    have fy48 := ((Ast).keep K1 (ninS (neA (by omega)) nin0)).keep K2 (ninS (neA (by omega)) (ninS (neA (by omega)) nin0))
    have fy49 := ((Apl).keep K1 (ninS (neA (by omega)) nin0)).keep K2 (ninS (neA (by omega)) (ninS (neA (by omega)) nin0))
    have fy50 := (L2).keep K2 (ninS (neA (by omega)) (ninS (neA (by omega)) nin0))
    have fy51 := (fy44).keep K2
    refine g_privateC C (W := 0) (argsL := [(.int (Int32.ofNat (iyF y)))]) (rest := []) (con_flip l Z a0 hw h2 o st pl li (dF y + 1) (iyF y) (s3 (kd y) (iyF y)) p hp fl3 (by omega) (by omega) _ _ _ _ (fy45) (fy46) (fy47) (fy48) rfl (by show Value.int (Int32.ofNat (s3 (kd y) (iyF y + 1))) = _; rw [fl1]) (fy49) (by show Value.int (Int32.ofNat (cF (kd y) p (s3 (kd y) (iyF y)))) = _; rw [fl2]) (fy50) (neA (by omega)) (neA (by omega)) (neA (by omega))) (Wx115 hw) (Wx93 hw) rfl (Wx116 hw) (Wx117 hw) (Wx4 hw) (Wx118 hw) (by first | decide | exact Nat.le_of_ble_eq_true rfl) (fy51) rfl (lenOf pd8 rfl) rfl (Nat.le_of_eq rfl) d_prog_102_method_5_69 (pc' := 72) rfl (by first | decide | exact Nat.le_of_ble_eq_true rfl) (by first | decide | exact Nat.le_of_ble_eq_true rfl) (allS (Or.inl (by simp)) all0) (by first | decide | exact Nat.le_of_ble_eq_true rfl) (by first | decide | exact Nat.le_of_ble_eq_true rfl) ?_
    rintro _ h3 ⟨rfl, L3⟩ K3
    refine g_norm (cells' := 0) (slots' := 0) (st' := []) (by first | decide | exact Nat.le_of_ble_eq_true rfl) (by first | decide | exact Nat.le_of_ble_eq_true rfl) rfl ?_
    refine g_aload_n C d_prog_102_method_5_72 rfl rfl (pc' := 73) rfl ?_
    refine g_dup C d_prog_102_method_5_73 rfl (pc' := 74) rfl ?_
    have fy52 := (((Frow).keep K1 (ninS (neA (by omega)) nin0)).keep K2 (ninS (neA (by omega)) (ninS (neA (by omega)) nin0))).keep K3 (ninS (neA (by omega)) nin0)
    refine g_getfield C (Wx95 hw) Via.refl (fy52) d_prog_102_method_5_74 (pc' := 77) rfl ?_
    refine g_iconst C d_prog_102_method_5_77 (x := (1 : Int32)) rfl (pc' := 78) rfl ?_
    refine g_iadd C d_prog_102_method_5_78 (pc' := 79) rfl ?_
    refine g_norm (cells' := 0) (slots' := 0) (st' := [(.int (1 : Int32)), (.ref o)]) (Nat.le_refl _) (Nat.le_refl _) (congrArg (fun z : Int32 => (Value.int z :: [(.ref o)] : List Value)) (by first | decide | exact Nat.le_of_ble_eq_true rfl)) ?_
    have fy53 := (fy51).keep K3
    refine g_putfield C (Wx95 hw) Via.refl (v' := (.int (1 : Int32))) (fy52) (fy53) (Or.inl (Wx96 hw)) (Wx3 hw) (ty := .int) (by first | decide | exact Nat.le_of_ble_eq_true rfl) rfl rfl (Or.inl (by simp)) d_prog_102_method_5_79 (pc' := 82) rfl ?_
    intro h9 W9
    have R1 := ((U1).keep K3 (ninS (neA (by omega)) nin0)).other W9 (neA (by omega))
    have R2 := ((N1).keep K3 (ninS (neA (by omega)) nin0)).other W9 (neA (by omega))
    have fy54 := ((((Fm).keep K1 (ninS (neA (by omega)) nin0)).keep K2 (ninS (neA (by omega)) (ninS (neA (by omega)) nin0))).keep K3 (ninS (neA (by omega)) nin0)).other W9 (Or.inr (slot_ne (Or.inr (Wx44 hw)) (Or.inl (Wx96 hw)) (by first | decide | exact Nat.le_of_ble_eq_true rfl) (t := .int) (by first | decide | exact Nat.le_of_ble_eq_true rfl) (t' := .int) (by first | decide | exact Nat.le_of_ble_eq_true rfl)))
    have fy55 := (((fy40).keep K2 (ninS (neA (by omega)) (ninS (neA (by omega)) nin0))).keep K3 (ninS (neA (by omega)) nin0)).other W9 (Or.inr (slot_ne (Or.inr (Wx83 hw)) (Or.inl (Wx96 hw)) (by first | decide | exact Nat.le_of_ble_eq_true rfl) (t := (.array .long)) (by first | decide | exact Nat.le_of_ble_eq_true rfl) (t' := .int) (by first | decide | exact Nat.le_of_ble_eq_true rfl)))
    have fy56 := (((fy41).keep K2 (ninS (neA (by omega)) (ninS (neA (by omega)) nin0))).keep K3 (ninS (neA (by omega)) nin0)).other W9 (Or.inr (slot_ne (Or.inr (Wx85 hw)) (Or.inl (Wx96 hw)) (by first | decide | exact Nat.le_of_ble_eq_true rfl) (t := (.array .long)) (by first | decide | exact Nat.le_of_ble_eq_true rfl) (t' := .int) (by first | decide | exact Nat.le_of_ble_eq_true rfl)))
    exact g_return C d_prog_102_method_5_82 (⟨rfl, (fy52).same W9, fy54, fy55, fy56, by rw [hk]; exact R1, by rw [hk]; exact R2⟩) (by first | decide | exact Nat.le_of_ble_eq_true rfl) (by first | decide | exact Nat.le_of_ble_eq_true rfl)
set_option maxRecDepth 65536 in
set_option maxHeartbeats 40000000 in
theorem st_dist (l : Launch) (Z : State) (a0 : Array Value) (hw : ∀ d ∈ tables_1, d.before a0 Z = true) {p_ : Program} {e_ : Env} {s_ : State} {m_ : MethodId} {bel_ : List Frame} {mt_ : Method} {cd_ : Code} {Φ : Outcome → State → Prop} {h0 : Heap} {o av bv : Addr} (C : Cx p_ s_ m_ mt_ cd_ Z h0 [o] "com/example/corpusmith/corpusmith/ocr/EditRows" "<init>" prog_102_method_1_code 10 none) (h : Heap) (y : Int32) (wd : Addr) (hwd : h0.size ≤ wd) (A : Af Z h wd .int 66 (one (tgt y) y)) (k : ∀ (h' : Heap) (W : Nat → Value) (o9 : Slot), One o9 → Keep h h' [wd] → Af Z h' wd .int 66 W → W 0 = .int (w0F y) → (dF y = 2 → W 1 = .int (w1F y)) → G p_ l e_ ({ frames := 8, cells := 36, slots := 945, locals := 250 } : Room) s_ m_ #[.ref o, .ref av, .ref bv] bel_ mt_ cd_ [o] Φ h' 2 193 86 #[.val (.ref o), .val (.ref av), .val (.ref bv), .val (.int (2 : Int32)), .val (.ref wd), .val (.int (Int32.ofNat (dF y))), .val (.ref wd), .val (.int (66 : Int32)), .val (.int (66 : Int32)), o9] []) : G p_ l e_ ({ frames := 8, cells := 36, slots := 945, locals := 250 } : Room) s_ m_ #[.ref o, .ref av, .ref bv] bel_ mt_ cd_ [o] Φ h 2 193 39 #[.val (.ref o), .val (.ref av), .val (.ref bv), .val (.int (2 : Int32)), .val (.ref wd), .val (.int (0 : Int32)), .val (.ref wd), .val (.int (66 : Int32)), .val (.int (0 : Int32)), .unset] [] := by
  have hS0 : one (tgt y) y 0 = .int (w0F y) := by
    rcases sgn y with q | q | q
    · subst q; rfl
    · rw [show tgt y = 65 from if_pos q, (fun_p q).1]; exact one_ne (by first | decide | exact Nat.le_of_ble_eq_true rfl)
    · rw [show tgt y = 0 from if_neg (neg_nn q).1, (fun_n q).1]; exact one_eq rfl
  refine g_iload C d_prog_102_method_1_39 rfl (pc' := 41) rfl ?_
  refine g_iload C d_prog_102_method_1_41 rfl (pc' := 43) rfl ?_
  refine g_if_icmpge C d_prog_102_method_1_43 (by decide) (pcT := 86) rfl (pcF := 46) rfl (fun zz_ => absurd (by first | decide | exact Nat.le_of_ble_eq_true rfl) zz_) (fun _ => ?_)
  refine g_aload C d_prog_102_method_1_46 rfl rfl (pc' := 48) rfl ?_
  refine g_iload C d_prog_102_method_1_48 rfl (pc' := 50) rfl ?_
  refine g_iaload C (A) (by first | decide | exact Nat.le_of_ble_eq_true rfl) (i := 0) rfl (by first | decide | exact Nat.le_of_ble_eq_true rfl) (v := (.int (w0F y))) (hS0) d_prog_102_method_1_50 (pc' := 51) rfl ?_
  refine g_istore C d_prog_102_method_1_51 (Ls' := #[.val (.ref o), .val (.ref av), .val (.ref bv), .val (.int (2 : Int32)), .val (.ref wd), .val (.int (0 : Int32)), .val (.ref wd), .val (.int (66 : Int32)), .val (.int (0 : Int32)), .val (.int (w0F y))]) rfl (pc' := 53) rfl ?_
  refine g_iload C d_prog_102_method_1_53 rfl (pc' := 55) rfl ?_
  refine g_ifeq C d_prog_102_method_1_55 (by decide) (pcT := 70) rfl (pcF := 58) rfl (fun _ => ?_) (fun zz_ => absurd (rfl) zz_)
  refine g_aload C d_prog_102_method_1_70 rfl rfl (pc' := 72) rfl ?_
  refine g_iload C d_prog_102_method_1_72 rfl (pc' := 74) rfl ?_
  refine g_iinc C d_prog_102_method_1_74 rfl (y := (1 : Int32)) (by first | decide | exact Nat.le_of_ble_eq_true rfl) (Ls' := #[.val (.ref o), .val (.ref av), .val (.ref bv), .val (.int (2 : Int32)), .val (.ref wd), .val (.int (1 : Int32)), .val (.ref wd), .val (.int (66 : Int32)), .val (.int (0 : Int32)), .val (.int (w0F y))]) rfl (pc' := 77) rfl ?_
  refine g_iload C d_prog_102_method_1_77 rfl (pc' := 79) rfl ?_
  refine g_iastore C (A) (by first | decide | exact Nat.le_of_ble_eq_true rfl) (i := 0) rfl (by first | decide | exact Nat.le_of_ble_eq_true rfl) (Or.inr hwd) d_prog_102_method_1_79 (pc' := 80) rfl ?_
  intro h1 W1 A1
  refine g_iinc C d_prog_102_method_1_80 rfl (y := (1 : Int32)) (by first | decide | exact Nat.le_of_ble_eq_true rfl) (Ls' := #[.val (.ref o), .val (.ref av), .val (.ref bv), .val (.int (2 : Int32)), .val (.ref wd), .val (.int (1 : Int32)), .val (.ref wd), .val (.int (66 : Int32)), .val (.int (1 : Int32)), .val (.int (w0F y))]) rfl (pc' := 83) rfl ?_
  refine g_goto C d_prog_102_method_1_83 (by decide) (pc' := 39) rfl ?_
  have A2 : Af Z h1 wd .int 66 (one (tgt y) y) := A1.to fun i hi => by
    by_cases z : i = 0
    · rw [z, upd_same, hS0]
    · rw [upd_other z]
  rcases sgn y with hy | hy | hy
  · subst hy
    rw [dF_z, fun_z.1] at k
    refine g_loop (α := Nat × Slot) (fun x => 1 ≤ x.1 ∧ x.1 ≤ 66 ∧ One x.2) (fun x => 66 - x.1) (fun x => #[.val (.ref o), .val (.ref av), .val (.ref bv), .val (.int (2 : Int32)), .val (.ref wd), .val (.int (1 : Int32)), .val (.ref wd), .val (.int (66 : Int32)), .val (.int (Int32.ofNat x.1)), x.2]) (1, .val (.int (w0F 0))) ⟨show 1 ≤ 1 by omega, show 1 ≤ 66 by omega, (by first | exact One.u | exact One.val rfl | assumption)⟩ rfl ?_
    rintro ⟨i, o9⟩ ⟨hi1, hi2, ho9⟩ IH
    dsimp only at hi1 hi2 ho9 IH ⊢
    rcases Nat.lt_or_ge i 66 with hc | hc
    · refine g_iload C d_prog_102_method_1_39 rfl (pc' := 41) rfl ?_
      refine g_iload C d_prog_102_method_1_41 rfl (pc' := 43) rfl ?_
      refine g_if_icmpge C d_prog_102_method_1_43 (by decide) (pcT := 86) rfl (pcF := 46) rfl (fun zz_ => absurd (by rw [show (66 : Int32) = Int32.ofNat 66 from rfl]; exact (lt_n (by omega) (by omega)).2 (by omega)) zz_) (fun _ => ?_)
      refine g_aload C d_prog_102_method_1_46 rfl rfl (pc' := 48) rfl ?_
      refine g_iload C d_prog_102_method_1_48 rfl (pc' := 50) rfl ?_
      refine g_iaload C (A2) (i32_nn (by omega)) (i := i) (i32_clamp (by omega)) (by omega) (v := (.int (0 : Int32))) (one_z) d_prog_102_method_1_50 (pc' := 51) rfl ?_
      refine g_istore C d_prog_102_method_1_51 (Ls' := #[.val (.ref o), .val (.ref av), .val (.ref bv), .val (.int (2 : Int32)), .val (.ref wd), .val (.int (1 : Int32)), .val (.ref wd), .val (.int (66 : Int32)), .val (.int (Int32.ofNat i)), .val (.int (0 : Int32))]) (by rw [XS.store1 (o := o9) rfl ho9 rfl]; rfl) (pc' := 53) rfl ?_
      refine g_iload C d_prog_102_method_1_53 rfl (pc' := 55) rfl ?_
      refine g_ifeq C d_prog_102_method_1_55 (by decide) (pcT := 70) rfl (pcF := 58) rfl (fun zz_ => absurd zz_ (by first | decide | exact Nat.le_of_ble_eq_true rfl)) (fun _ => ?_)
      refine g_aload C d_prog_102_method_1_58 rfl rfl (pc' := 60) rfl ?_
      refine g_iload C d_prog_102_method_1_60 rfl (pc' := 62) rfl ?_
      refine g_iconst C d_prog_102_method_1_62 (x := (1 : Int32)) rfl (pc' := 63) rfl ?_
      refine g_isub C d_prog_102_method_1_63 (pc' := 64) rfl ?_
      refine g_norm (cells' := 2) (slots' := 193) (st' := [(.int (0 : Int32)), (.ref wd)]) (Nat.le_refl _) (Nat.le_refl _) (congrArg (fun z : Int32 => (Value.int z :: [(.ref wd)] : List Value)) (by first | decide | exact Nat.le_of_ble_eq_true rfl)) ?_
      refine g_iaload C (A2) (by first | decide | exact Nat.le_of_ble_eq_true rfl) (i := 0) rfl (by first | decide | exact Nat.le_of_ble_eq_true rfl) (v := (.int (0 : Int32))) (one_z) d_prog_102_method_1_64 (pc' := 65) rfl ?_
      refine g_iload C d_prog_102_method_1_65 rfl (pc' := 67) rfl ?_
      refine g_if_icmpeq C d_prog_102_method_1_67 (by decide) (pcT := 80) rfl (pcF := 70) rfl (fun _ => ?_) (fun zz_ => absurd (rfl) zz_)
      refine g_iinc C d_prog_102_method_1_80 rfl (y := (Int32.ofNat (i + 1))) (i32_succ) (Ls' := #[.val (.ref o), .val (.ref av), .val (.ref bv), .val (.int (2 : Int32)), .val (.ref wd), .val (.int (1 : Int32)), .val (.ref wd), .val (.int (66 : Int32)), .val (.int (Int32.ofNat (i + 1))), .val (.int (0 : Int32))]) rfl (pc' := 83) rfl ?_
      refine g_goto C d_prog_102_method_1_83 (by decide) (pc' := 39) rfl ?_
      exact IH (i + 1, .val (.int (0 : Int32))) ⟨by omega, by omega, One.val rfl⟩ (by dsimp only; omega)
    · obtain rfl : i = 66 := by omega
      refine g_iload C d_prog_102_method_1_39 rfl (pc' := 41) rfl ?_
      refine g_iload C d_prog_102_method_1_41 rfl (pc' := 43) rfl ?_
      refine g_if_icmpge C d_prog_102_method_1_43 (by decide) (pcT := 86) rfl (pcF := 46) rfl (fun _ => ?_) (fun zz_ => absurd zz_ (by first | decide | exact Nat.le_of_ble_eq_true rfl))
      exact k _ _ _ (by first | exact One.u | exact One.val rfl | assumption) ((Keep.refl h [wd]).wr W1 (Or.inl (List.mem_cons_self ..))) (A2) (one_z) (fun q => absurd q (by first | decide | exact Nat.le_of_ble_eq_true rfl))
  · obtain ⟨ny, ny0⟩ := pos_nn hy
    rw [dF_p hy] at k
    have A3 : Af Z h1 wd .int 66 (one 65 y) := by rw [show tgt y = 65 from if_pos hy] at A2; exact A2
    obtain ⟨e1, e2, e3, e4⟩ := fun_p hy
    rw [e1, e2] at k
    rw [e1]
    refine g_loop (α := Nat × Slot) (fun x => 1 ≤ x.1 ∧ x.1 ≤ 65 ∧ One x.2) (fun x => 66 - x.1) (fun x => #[.val (.ref o), .val (.ref av), .val (.ref bv), .val (.int (2 : Int32)), .val (.ref wd), .val (.int (1 : Int32)), .val (.ref wd), .val (.int (66 : Int32)), .val (.int (Int32.ofNat x.1)), x.2]) (1, .val (.int (0 : Int32))) ⟨show 1 ≤ 1 by omega, show 1 ≤ 65 by omega, (by first | exact One.u | exact One.val rfl | assumption)⟩ rfl ?_
    rintro ⟨i, o9⟩ ⟨hi1, hi2, ho9⟩ IH
    dsimp only at hi1 hi2 ho9 IH ⊢
    rcases Nat.lt_or_ge i 65 with hc | hc
    · refine g_iload C d_prog_102_method_1_39 rfl (pc' := 41) rfl ?_
      refine g_iload C d_prog_102_method_1_41 rfl (pc' := 43) rfl ?_
      refine g_if_icmpge C d_prog_102_method_1_43 (by decide) (pcT := 86) rfl (pcF := 46) rfl (fun zz_ => absurd (by rw [show (66 : Int32) = Int32.ofNat 66 from rfl]; exact (lt_n (by omega) (by omega)).2 (by omega)) zz_) (fun _ => ?_)
      refine g_aload C d_prog_102_method_1_46 rfl rfl (pc' := 48) rfl ?_
      refine g_iload C d_prog_102_method_1_48 rfl (pc' := 50) rfl ?_
      refine g_iaload C (A3) (i32_nn (by omega)) (i := i) (i32_clamp (by omega)) (by omega) (v := (.int (0 : Int32))) (one_ne (by omega)) d_prog_102_method_1_50 (pc' := 51) rfl ?_
      refine g_istore C d_prog_102_method_1_51 (Ls' := #[.val (.ref o), .val (.ref av), .val (.ref bv), .val (.int (2 : Int32)), .val (.ref wd), .val (.int (1 : Int32)), .val (.ref wd), .val (.int (66 : Int32)), .val (.int (Int32.ofNat i)), .val (.int (0 : Int32))]) (by rw [XS.store1 (o := o9) rfl ho9 rfl]; rfl) (pc' := 53) rfl ?_
      refine g_iload C d_prog_102_method_1_53 rfl (pc' := 55) rfl ?_
      refine g_ifeq C d_prog_102_method_1_55 (by decide) (pcT := 70) rfl (pcF := 58) rfl (fun zz_ => absurd zz_ (by first | decide | exact Nat.le_of_ble_eq_true rfl)) (fun _ => ?_)
      refine g_aload C d_prog_102_method_1_58 rfl rfl (pc' := 60) rfl ?_
      refine g_iload C d_prog_102_method_1_60 rfl (pc' := 62) rfl ?_
      refine g_iconst C d_prog_102_method_1_62 (x := (1 : Int32)) rfl (pc' := 63) rfl ?_
      refine g_isub C d_prog_102_method_1_63 (pc' := 64) rfl ?_
      refine g_norm (cells' := 2) (slots' := 193) (st' := [(.int (0 : Int32)), (.ref wd)]) (Nat.le_refl _) (Nat.le_refl _) (congrArg (fun z : Int32 => (Value.int z :: [(.ref wd)] : List Value)) (by first | decide | exact Nat.le_of_ble_eq_true rfl)) ?_
      refine g_iaload C (A3) (by first | decide | exact Nat.le_of_ble_eq_true rfl) (i := 0) rfl (by first | decide | exact Nat.le_of_ble_eq_true rfl) (v := (.int (0 : Int32))) (one_ne (by first | decide | exact Nat.le_of_ble_eq_true rfl)) d_prog_102_method_1_64 (pc' := 65) rfl ?_
      refine g_iload C d_prog_102_method_1_65 rfl (pc' := 67) rfl ?_
      refine g_if_icmpeq C d_prog_102_method_1_67 (by decide) (pcT := 80) rfl (pcF := 70) rfl (fun _ => ?_) (fun zz_ => absurd (rfl) zz_)
      refine g_iinc C d_prog_102_method_1_80 rfl (y := (Int32.ofNat (i + 1))) (i32_succ) (Ls' := #[.val (.ref o), .val (.ref av), .val (.ref bv), .val (.int (2 : Int32)), .val (.ref wd), .val (.int (1 : Int32)), .val (.ref wd), .val (.int (66 : Int32)), .val (.int (Int32.ofNat (i + 1))), .val (.int (0 : Int32))]) rfl (pc' := 83) rfl ?_
      refine g_goto C d_prog_102_method_1_83 (by decide) (pc' := 39) rfl ?_
      exact IH (i + 1, .val (.int (0 : Int32))) ⟨by omega, by omega, One.val rfl⟩ (by dsimp only; omega)
    · obtain rfl : i = 65 := by omega
      refine g_iload C d_prog_102_method_1_39 rfl (pc' := 41) rfl ?_
      refine g_iload C d_prog_102_method_1_41 rfl (pc' := 43) rfl ?_
      refine g_if_icmpge C d_prog_102_method_1_43 (by decide) (pcT := 86) rfl (pcF := 46) rfl (fun zz_ => absurd (by first | decide | exact Nat.le_of_ble_eq_true rfl) zz_) (fun _ => ?_)
      refine g_aload C d_prog_102_method_1_46 rfl rfl (pc' := 48) rfl ?_
      refine g_iload C d_prog_102_method_1_48 rfl (pc' := 50) rfl ?_
      refine g_iaload C (A3) (by first | decide | exact Nat.le_of_ble_eq_true rfl) (i := 65) rfl (by first | decide | exact Nat.le_of_ble_eq_true rfl) (v := (.int y)) (one_eq rfl) d_prog_102_method_1_50 (pc' := 51) rfl ?_
      refine g_istore C d_prog_102_method_1_51 (Ls' := #[.val (.ref o), .val (.ref av), .val (.ref bv), .val (.int (2 : Int32)), .val (.ref wd), .val (.int (1 : Int32)), .val (.ref wd), .val (.int (66 : Int32)), .val (.int (Int32.ofNat 65)), .val (.int y)]) (by rw [XS.store1 (o := o9) rfl ho9 rfl]; rfl) (pc' := 53) rfl ?_
      refine g_iload C d_prog_102_method_1_53 rfl (pc' := 55) rfl ?_
      refine g_ifeq C d_prog_102_method_1_55 (by decide) (pcT := 70) rfl (pcF := 58) rfl (fun zz_ => absurd zz_ (by first | decide | exact Nat.le_of_ble_eq_true rfl)) (fun _ => ?_)
      refine g_aload C d_prog_102_method_1_58 rfl rfl (pc' := 60) rfl ?_
      refine g_iload C d_prog_102_method_1_60 rfl (pc' := 62) rfl ?_
      refine g_iconst C d_prog_102_method_1_62 (x := (1 : Int32)) rfl (pc' := 63) rfl ?_
      refine g_isub C d_prog_102_method_1_63 (pc' := 64) rfl ?_
      refine g_norm (cells' := 2) (slots' := 193) (st' := [(.int (0 : Int32)), (.ref wd)]) (Nat.le_refl _) (Nat.le_refl _) (congrArg (fun z : Int32 => (Value.int z :: [(.ref wd)] : List Value)) (by first | decide | exact Nat.le_of_ble_eq_true rfl)) ?_
      refine g_iaload C (A3) (by first | decide | exact Nat.le_of_ble_eq_true rfl) (i := 0) rfl (by first | decide | exact Nat.le_of_ble_eq_true rfl) (v := (.int (0 : Int32))) (one_ne (by first | decide | exact Nat.le_of_ble_eq_true rfl)) d_prog_102_method_1_64 (pc' := 65) rfl ?_
      refine g_iload C d_prog_102_method_1_65 rfl (pc' := 67) rfl ?_
      refine g_if_icmpeq C d_prog_102_method_1_67 (by decide) (pcT := 80) rfl (pcF := 70) rfl (fun zz_ => absurd zz_ (fun q => ny0 q.symm)) (fun _ => ?_)
      refine g_aload C d_prog_102_method_1_70 rfl rfl (pc' := 72) rfl ?_
      refine g_iload C d_prog_102_method_1_72 rfl (pc' := 74) rfl ?_
      refine g_iinc C d_prog_102_method_1_74 rfl (y := (2 : Int32)) (by first | decide | exact Nat.le_of_ble_eq_true rfl) (Ls' := #[.val (.ref o), .val (.ref av), .val (.ref bv), .val (.int (2 : Int32)), .val (.ref wd), .val (.int (2 : Int32)), .val (.ref wd), .val (.int (66 : Int32)), .val (.int (Int32.ofNat 65)), .val (.int y)]) rfl (pc' := 77) rfl ?_
      refine g_iload C d_prog_102_method_1_77 rfl (pc' := 79) rfl ?_
      refine g_iastore C (A3) (by first | decide | exact Nat.le_of_ble_eq_true rfl) (i := 1) rfl (by first | decide | exact Nat.le_of_ble_eq_true rfl) (Or.inr hwd) d_prog_102_method_1_79 (pc' := 80) rfl ?_
      intro h2 W2 A4
      refine g_iinc C d_prog_102_method_1_80 rfl (y := (66 : Int32)) (by first | decide | exact Nat.le_of_ble_eq_true rfl) (Ls' := #[.val (.ref o), .val (.ref av), .val (.ref bv), .val (.int (2 : Int32)), .val (.ref wd), .val (.int (2 : Int32)), .val (.ref wd), .val (.int (66 : Int32)), .val (.int (66 : Int32)), .val (.int y)]) rfl (pc' := 83) rfl ?_
      refine g_goto C d_prog_102_method_1_83 (by decide) (pc' := 39) rfl ?_
      refine g_iload C d_prog_102_method_1_39 rfl (pc' := 41) rfl ?_
      refine g_iload C d_prog_102_method_1_41 rfl (pc' := 43) rfl ?_
      refine g_if_icmpge C d_prog_102_method_1_43 (by decide) (pcT := 86) rfl (pcF := 46) rfl (fun _ => ?_) (fun zz_ => absurd zz_ (by first | decide | exact Nat.le_of_ble_eq_true rfl))
      exact k _ _ _ (by first | exact One.u | exact One.val rfl | assumption) (((Keep.refl h [wd]).wr W1 (Or.inl (List.mem_cons_self ..))).wr W2 (Or.inl (List.mem_cons_self ..))) (A4) ((upd_other (by first | decide | exact Nat.le_of_ble_eq_true rfl)).trans (one_ne (by first | decide | exact Nat.le_of_ble_eq_true rfl))) (fun _ => upd_same)
  · obtain ⟨ny, ny0⟩ := neg_nn hy
    rw [dF_n hy] at k
    have A3 : Af Z h1 wd .int 66 (one 0 y) := by rw [show tgt y = 0 from if_neg ny] at A2; exact A2
    obtain ⟨e1, e2, e3, e4⟩ := fun_n hy
    rw [e1, e2] at k
    rw [e1]
    refine g_iload C d_prog_102_method_1_39 rfl (pc' := 41) rfl ?_
    refine g_iload C d_prog_102_method_1_41 rfl (pc' := 43) rfl ?_
    refine g_if_icmpge C d_prog_102_method_1_43 (by decide) (pcT := 86) rfl (pcF := 46) rfl (fun zz_ => absurd (by first | decide | exact Nat.le_of_ble_eq_true rfl) zz_) (fun _ => ?_)
    refine g_aload C d_prog_102_method_1_46 rfl rfl (pc' := 48) rfl ?_
    refine g_iload C d_prog_102_method_1_48 rfl (pc' := 50) rfl ?_
    refine g_iaload C (A3) (by first | decide | exact Nat.le_of_ble_eq_true rfl) (i := 1) rfl (by first | decide | exact Nat.le_of_ble_eq_true rfl) (v := (.int (0 : Int32))) (one_ne (by first | decide | exact Nat.le_of_ble_eq_true rfl)) d_prog_102_method_1_50 (pc' := 51) rfl ?_
    refine g_istore C d_prog_102_method_1_51 (Ls' := #[.val (.ref o), .val (.ref av), .val (.ref bv), .val (.int (2 : Int32)), .val (.ref wd), .val (.int (1 : Int32)), .val (.ref wd), .val (.int (66 : Int32)), .val (.int (1 : Int32)), .val (.int (0 : Int32))]) rfl (pc' := 53) rfl ?_
    refine g_iload C d_prog_102_method_1_53 rfl (pc' := 55) rfl ?_
    refine g_ifeq C d_prog_102_method_1_55 (by decide) (pcT := 70) rfl (pcF := 58) rfl (fun zz_ => absurd zz_ (by first | decide | exact Nat.le_of_ble_eq_true rfl)) (fun _ => ?_)
    refine g_aload C d_prog_102_method_1_58 rfl rfl (pc' := 60) rfl ?_
    refine g_iload C d_prog_102_method_1_60 rfl (pc' := 62) rfl ?_
    refine g_iconst C d_prog_102_method_1_62 (x := (1 : Int32)) rfl (pc' := 63) rfl ?_
    refine g_isub C d_prog_102_method_1_63 (pc' := 64) rfl ?_
    refine g_norm (cells' := 2) (slots' := 193) (st' := [(.int (0 : Int32)), (.ref wd)]) (Nat.le_refl _) (Nat.le_refl _) (congrArg (fun z : Int32 => (Value.int z :: [(.ref wd)] : List Value)) (by first | decide | exact Nat.le_of_ble_eq_true rfl)) ?_
    refine g_iaload C (A3) (by first | decide | exact Nat.le_of_ble_eq_true rfl) (i := 0) rfl (by first | decide | exact Nat.le_of_ble_eq_true rfl) (v := (.int y)) (one_eq rfl) d_prog_102_method_1_64 (pc' := 65) rfl ?_
    refine g_iload C d_prog_102_method_1_65 rfl (pc' := 67) rfl ?_
    refine g_if_icmpeq C d_prog_102_method_1_67 (by decide) (pcT := 80) rfl (pcF := 70) rfl (fun zz_ => absurd zz_ (ny0)) (fun _ => ?_)
    refine g_aload C d_prog_102_method_1_70 rfl rfl (pc' := 72) rfl ?_
    refine g_iload C d_prog_102_method_1_72 rfl (pc' := 74) rfl ?_
    refine g_iinc C d_prog_102_method_1_74 rfl (y := (2 : Int32)) (by first | decide | exact Nat.le_of_ble_eq_true rfl) (Ls' := #[.val (.ref o), .val (.ref av), .val (.ref bv), .val (.int (2 : Int32)), .val (.ref wd), .val (.int (2 : Int32)), .val (.ref wd), .val (.int (66 : Int32)), .val (.int (1 : Int32)), .val (.int (0 : Int32))]) rfl (pc' := 77) rfl ?_
    refine g_iload C d_prog_102_method_1_77 rfl (pc' := 79) rfl ?_
    refine g_iastore C (A3) (by first | decide | exact Nat.le_of_ble_eq_true rfl) (i := 1) rfl (by first | decide | exact Nat.le_of_ble_eq_true rfl) (Or.inr hwd) d_prog_102_method_1_79 (pc' := 80) rfl ?_
    intro h2 W2 A4
    refine g_iinc C d_prog_102_method_1_80 rfl (y := (2 : Int32)) (by first | decide | exact Nat.le_of_ble_eq_true rfl) (Ls' := #[.val (.ref o), .val (.ref av), .val (.ref bv), .val (.int (2 : Int32)), .val (.ref wd), .val (.int (2 : Int32)), .val (.ref wd), .val (.int (66 : Int32)), .val (.int (2 : Int32)), .val (.int (0 : Int32))]) rfl (pc' := 83) rfl ?_
    refine g_goto C d_prog_102_method_1_83 (by decide) (pc' := 39) rfl ?_
    have A5 : Af Z h2 wd .int 66 (one 0 y) := A4.to fun i hi => by
      by_cases z : i = 1
      · rw [z, upd_same, one_ne (by first | decide | exact Nat.le_of_ble_eq_true rfl)]
      · rw [upd_other z]
    refine g_loop (α := Nat × Slot) (fun x => 2 ≤ x.1 ∧ x.1 ≤ 66 ∧ One x.2) (fun x => 66 - x.1) (fun x => #[.val (.ref o), .val (.ref av), .val (.ref bv), .val (.int (2 : Int32)), .val (.ref wd), .val (.int (2 : Int32)), .val (.ref wd), .val (.int (66 : Int32)), .val (.int (Int32.ofNat x.1)), x.2]) (2, .val (.int (0 : Int32))) ⟨show 2 ≤ 2 by omega, show 2 ≤ 66 by omega, (by first | exact One.u | exact One.val rfl | assumption)⟩ rfl ?_
    rintro ⟨i, o9⟩ ⟨hi1, hi2, ho9⟩ IH
    dsimp only at hi1 hi2 ho9 IH ⊢
    rcases Nat.lt_or_ge i 66 with hc | hc
    · refine g_iload C d_prog_102_method_1_39 rfl (pc' := 41) rfl ?_
      refine g_iload C d_prog_102_method_1_41 rfl (pc' := 43) rfl ?_
      refine g_if_icmpge C d_prog_102_method_1_43 (by decide) (pcT := 86) rfl (pcF := 46) rfl (fun zz_ => absurd (by rw [show (66 : Int32) = Int32.ofNat 66 from rfl]; exact (lt_n (by omega) (by omega)).2 (by omega)) zz_) (fun _ => ?_)
      refine g_aload C d_prog_102_method_1_46 rfl rfl (pc' := 48) rfl ?_
      refine g_iload C d_prog_102_method_1_48 rfl (pc' := 50) rfl ?_
      refine g_iaload C (A5) (i32_nn (by omega)) (i := i) (i32_clamp (by omega)) (by omega) (v := (.int (0 : Int32))) (one_ne (by omega)) d_prog_102_method_1_50 (pc' := 51) rfl ?_
      refine g_istore C d_prog_102_method_1_51 (Ls' := #[.val (.ref o), .val (.ref av), .val (.ref bv), .val (.int (2 : Int32)), .val (.ref wd), .val (.int (2 : Int32)), .val (.ref wd), .val (.int (66 : Int32)), .val (.int (Int32.ofNat i)), .val (.int (0 : Int32))]) (by rw [XS.store1 (o := o9) rfl ho9 rfl]; rfl) (pc' := 53) rfl ?_
      refine g_iload C d_prog_102_method_1_53 rfl (pc' := 55) rfl ?_
      refine g_ifeq C d_prog_102_method_1_55 (by decide) (pcT := 70) rfl (pcF := 58) rfl (fun zz_ => absurd zz_ (by first | decide | exact Nat.le_of_ble_eq_true rfl)) (fun _ => ?_)
      refine g_aload C d_prog_102_method_1_58 rfl rfl (pc' := 60) rfl ?_
      refine g_iload C d_prog_102_method_1_60 rfl (pc' := 62) rfl ?_
      refine g_iconst C d_prog_102_method_1_62 (x := (1 : Int32)) rfl (pc' := 63) rfl ?_
      refine g_isub C d_prog_102_method_1_63 (pc' := 64) rfl ?_
      refine g_norm (cells' := 2) (slots' := 193) (st' := [(.int (1 : Int32)), (.ref wd)]) (Nat.le_refl _) (Nat.le_refl _) (congrArg (fun z : Int32 => (Value.int z :: [(.ref wd)] : List Value)) (by first | decide | exact Nat.le_of_ble_eq_true rfl)) ?_
      refine g_iaload C (A5) (by first | decide | exact Nat.le_of_ble_eq_true rfl) (i := 1) rfl (by first | decide | exact Nat.le_of_ble_eq_true rfl) (v := (.int (0 : Int32))) (one_ne (by first | decide | exact Nat.le_of_ble_eq_true rfl)) d_prog_102_method_1_64 (pc' := 65) rfl ?_
      refine g_iload C d_prog_102_method_1_65 rfl (pc' := 67) rfl ?_
      refine g_if_icmpeq C d_prog_102_method_1_67 (by decide) (pcT := 80) rfl (pcF := 70) rfl (fun _ => ?_) (fun zz_ => absurd (rfl) zz_)
      refine g_iinc C d_prog_102_method_1_80 rfl (y := (Int32.ofNat (i + 1))) (i32_succ) (Ls' := #[.val (.ref o), .val (.ref av), .val (.ref bv), .val (.int (2 : Int32)), .val (.ref wd), .val (.int (2 : Int32)), .val (.ref wd), .val (.int (66 : Int32)), .val (.int (Int32.ofNat (i + 1))), .val (.int (0 : Int32))]) rfl (pc' := 83) rfl ?_
      refine g_goto C d_prog_102_method_1_83 (by decide) (pc' := 39) rfl ?_
      exact IH (i + 1, .val (.int (0 : Int32))) ⟨by omega, by omega, One.val rfl⟩ (by dsimp only; omega)
    · obtain rfl : i = 66 := by omega
      refine g_iload C d_prog_102_method_1_39 rfl (pc' := 41) rfl ?_
      refine g_iload C d_prog_102_method_1_41 rfl (pc' := 43) rfl ?_
      refine g_if_icmpge C d_prog_102_method_1_43 (by decide) (pcT := 86) rfl (pcF := 46) rfl (fun _ => ?_) (fun zz_ => absurd zz_ (by first | decide | exact Nat.le_of_ble_eq_true rfl))
      exact k _ _ _ (by first | exact One.u | exact One.val rfl | assumption) (((Keep.refl h [wd]).wr W1 (Or.inl (List.mem_cons_self ..))).wr W2 (Or.inl (List.mem_cons_self ..))) (A5) (one_eq rfl) (fun _ => one_ne (by first | decide | exact Nat.le_of_ble_eq_true rfl))
set_option maxRecDepth 65536 in
set_option maxHeartbeats 40000000 in
theorem st_num (l : Launch) (Z : State) (a0 : Array Value) (hw : ∀ d ∈ tables_1, d.before a0 Z = true) {p_ : Program} {e_ : Env} {s_ : State} {m_ : MethodId} {bel_ : List Frame} {mt_ : Method} {cd_ : Code} {Φ : Outcome → State → Prop} {h0 : Heap} {o av bv : Addr} (C : Cx p_ s_ m_ mt_ cd_ Z h0 [o] "com/example/corpusmith/corpusmith/ocr/EditRows" "<init>" prog_102_method_1_code 10 none) (h : Heap) (y : Int32) (p : Nat) (hp : p < 66) (wd st nu : Addr) (o9 : Slot) (W : Nat → Value) (hnu : h0.size ≤ nu) (hst : h0.size ≤ st) (Ab : Af Z h bv .int 66 (one p y)) (Aw : Af Z h wd .int 66 W) (hW0 : W 0 = .int (w0F y)) (hW1 : dF y = 2 → W 1 = .int (w1F y)) (Fs : (Fld Z h o "com/example/corpusmith/corpusmith/ocr/EditRows" "starts" "[I" (.ref st))) (An : Af Z h nu .int 66 (fun _ => .int 0)) (As : Af Z h st .int (dF y + 1) (fun _ => .int 0)) (c1 : @LT.lt Nat instLTNat bv o) (c2 : @LT.lt Nat instLTNat o wd) (c3 : @LT.lt Nat instLTNat wd st) (c4 : @LT.lt Nat instLTNat st nu) (k : ∀ (h' : Heap), Keep h h' [nu, st] → Af Z h' nu .int 66 (fun i => .int (Int32.ofNat (num y p i))) → Af Z h' st .int (dF y + 1) (fun i => .int (Int32.ofNat (ct (num y p) 66 i))) → G p_ l e_ ({ frames := 8, cells := 36, slots := 945, locals := 250 } : Room) s_ m_ #[.ref o, .ref av, .ref bv] bel_ mt_ cd_ [o] Φ h' 5 328 165 #[.val (.ref o), .val (.ref av), .val (.ref bv), .val (.int (2 : Int32)), .val (.ref wd), .val (.int (Int32.ofNat (dF y))), .val (.ref nu), .val (.int (Int32.ofNat 66)), .val (.int (66 : Int32)), o9] []) : G p_ l e_ ({ frames := 8, cells := 36, slots := 945, locals := 250 } : Room) s_ m_ #[.ref o, .ref av, .ref bv] bel_ mt_ cd_ [o] Φ h 5 328 119 #[.val (.ref o), .val (.ref av), .val (.ref bv), .val (.int (2 : Int32)), .val (.ref wd), .val (.int (Int32.ofNat (dF y))), .val (.ref nu), .val (.int (0 : Int32)), .val (.int (66 : Int32)), o9] [] := by
  have hdl := dF_le y
  refine g_loopH (α := Nat) (fun j h' => j ≤ 66 ∧ Keep h h' [nu, st] ∧ Af Z h' nu .int 66 (fun i => .int (if i < j then Int32.ofNat (num y p i) else 0)) ∧ Af Z h' st .int (dF y + 1) (fun i => .int (Int32.ofNat (ct (num y p) j i)))) (fun j => 66 - j) (fun j => #[.val (.ref o), .val (.ref av), .val (.ref bv), .val (.int (2 : Int32)), .val (.ref wd), .val (.int (Int32.ofNat (dF y))), .val (.ref nu), .val (.int (Int32.ofNat j)), .val (.int (66 : Int32)), o9]) 0 ⟨Nat.zero_le _, Keep.refl _ _, An.congr fun i hi => by rw [if_neg (Nat.not_lt_zero i)], As.congr fun i hi => rfl⟩ rfl ?_
  rintro j h2 ⟨hj, K2, An2, As2⟩ IH
  try dsimp only
  have Ab2 := Ab.keep K2 (ninS (neA (by omega)) (ninS (neA (by omega)) nin0))
  have Aw2 := Aw.keep K2 (ninS (neA (by omega)) (ninS (neA (by omega)) nin0))
  have Fs2 := Fs.keep K2 (ninS (neA (by omega)) (ninS (neA (by omega)) nin0))
  have hnl := num_le y p j
  refine g_iload C d_prog_102_method_1_119 rfl (pc' := 121) rfl ?_
  refine g_aload_n C d_prog_102_method_1_121 rfl rfl (pc' := 122) rfl ?_
  refine g_arraylength C (Ab2) (z := (66 : Int32)) rfl d_prog_102_method_1_122 (pc' := 123) rfl ?_
  rcases Nat.lt_or_ge j 66 with hc | hc
  · refine g_if_icmpge C d_prog_102_method_1_123 (by decide) (pcT := 165) rfl (pcF := 126) rfl (fun zz_ => absurd (by rw [show (66 : Int32) = Int32.ofNat 66 from rfl]; exact (lt_n (by omega) (by omega)).2 (by omega)) zz_) (fun _ => ?_)
    refine g_aload C d_prog_102_method_1_126 rfl rfl (pc' := 128) rfl ?_
    refine g_iload C d_prog_102_method_1_128 rfl (pc' := 130) rfl ?_
    refine g_aload C d_prog_102_method_1_130 rfl rfl (pc' := 132) rfl ?_
    refine g_iconst C d_prog_102_method_1_132 (x := (0 : Int32)) rfl (pc' := 133) rfl ?_
    refine g_iload C d_prog_102_method_1_133 rfl (pc' := 135) rfl ?_
    refine g_aload_n C d_prog_102_method_1_135 rfl rfl (pc' := 136) rfl ?_
    refine g_iload C d_prog_102_method_1_136 rfl (pc' := 138) rfl ?_
    refine g_iaload C (Ab2) (i32_nn (by omega)) (i := j) (i32_clamp (by omega)) (by omega) (v := (.int (if j = p then y else 0))) (rfl) d_prog_102_method_1_138 (pc' := 139) rfl ?_
    refine g_staticC C (W := 2) (argsL := [(.ref wd), (.int (0 : Int32)), (.int (Int32.ofNat (dF y))), (.int (if j = p then y else 0))]) (rest := [(.int (Int32.ofNat j)), (.ref nu)]) (con_bs l Z a0 hw h2 y (if j = p then y else 0) wd W Aw2 hW0 hW1) (Wx49 hw) (Wx50 hw) (Wx25 hw) (Wx51 hw) (by first | decide | exact Nat.le_of_ble_eq_true rfl) rfl (lenOf pd1 rfl) rfl (Nat.le_of_eq rfl) d_prog_102_method_1_139 (pc' := 142) rfl (by first | decide | exact Nat.le_of_ble_eq_true rfl) (by first | decide | exact Nat.le_of_ble_eq_true rfl) (fun _ q => nomatch q) (by first | decide | exact Nat.le_of_ble_eq_true rfl) (by first | decide | exact Nat.le_of_ble_eq_true rfl) ?_
    rintro _ hh ⟨⟨r, rfl, B⟩, eh_⟩ Kb
    subst hh
    refine g_norm (cells' := 5) (slots' := 328) (st' := [(.int r), (.int (Int32.ofNat j)), (.ref nu)]) (by first | decide | exact Nat.le_of_ble_eq_true rfl) (by first | decide | exact Nat.le_of_ble_eq_true rfl) rfl ?_
    obtain rfl := bs_num B
    refine g_iastore C (An2) (i32_nn (by omega)) (i := j) (i32_clamp (by omega)) (by omega) (Or.inr hnu) d_prog_102_method_1_142 (pc' := 143) rfl ?_
    intro h3 W3 A3
    refine g_aload_n C d_prog_102_method_1_143 rfl rfl (pc' := 144) rfl ?_
    refine g_getfield C (Wx45 hw) Via.refl (Fs2.other W3 (Or.inl (neA (by omega)))) d_prog_102_method_1_144 (pc' := 147) rfl ?_
    refine g_aload C d_prog_102_method_1_147 rfl rfl (pc' := 149) rfl ?_
    refine g_iload C d_prog_102_method_1_149 rfl (pc' := 151) rfl ?_
    refine g_iaload C (A3) (i32_nn (by omega)) (i := j) (i32_clamp (by omega)) (by omega) (v := (.int (Int32.ofNat (num y p j)))) (upd_same) d_prog_102_method_1_151 (pc' := 152) rfl ?_
    refine g_iconst C d_prog_102_method_1_152 (x := (1 : Int32)) rfl (pc' := 153) rfl ?_
    refine g_iadd C d_prog_102_method_1_153 (pc' := 154) rfl ?_
    refine g_norm (cells' := 5) (slots' := 328) (st' := [(.int (Int32.ofNat (num y p j + 1))), (.ref st)]) (Nat.le_refl _) (Nat.le_refl _) (congrArg (fun z : Int32 => (Value.int z :: [(.ref st)] : List Value)) (i32_succ)) ?_
    refine g_dup2 C d_prog_102_method_1_154 rfl rfl (pc' := 155) rfl ?_
    have As3 := As2.other W3 (neA (by omega))
    refine g_iaload C (As3) (i32_nn (by omega)) (i := (num y p j + 1)) (i32_clamp (by omega)) (by omega) (v := (.int (Int32.ofNat (ct (num y p) j (num y p j + 1))))) (rfl) d_prog_102_method_1_155 (pc' := 156) rfl ?_
    refine g_iconst C d_prog_102_method_1_156 (x := (1 : Int32)) rfl (pc' := 157) rfl ?_
    refine g_iadd C d_prog_102_method_1_157 (pc' := 158) rfl ?_
    refine g_norm (cells' := 5) (slots' := 328) (st' := [(.int (Int32.ofNat (ct (num y p) j (num y p j + 1) + 1))), (.int (Int32.ofNat (num y p j + 1))), (.ref st)]) (Nat.le_refl _) (Nat.le_refl _) (congrArg (fun z : Int32 => (Value.int z :: [(.int (Int32.ofNat (num y p j + 1))), (.ref st)] : List Value)) (i32_succ)) ?_
    refine g_iastore C (As3) (i32_nn (by omega)) (i := (num y p j + 1)) (i32_clamp (by omega)) (by omega) (Or.inr hst) d_prog_102_method_1_158 (pc' := 159) rfl ?_
    intro h4 W4 A4
    refine g_iinc C d_prog_102_method_1_159 rfl (y := (Int32.ofNat (j + 1))) (i32_succ) (Ls' := #[.val (.ref o), .val (.ref av), .val (.ref bv), .val (.int (2 : Int32)), .val (.ref wd), .val (.int (Int32.ofNat (dF y))), .val (.ref nu), .val (.int (Int32.ofNat (j + 1))), .val (.int (66 : Int32)), o9]) rfl (pc' := 162) rfl ?_
    refine g_goto C d_prog_102_method_1_162 (by decide) (pc' := 119) rfl ?_
    have A3' := A3.other W4 (neA (by omega))
    exact IH (j + 1) h4 ⟨by omega, (K2.wr W3 (Or.inl (by simp))).wr W4 (Or.inl (by simp)), A3'.congr fun i hi => by
      by_cases z : i = j
      · rw [z, upd_same, if_pos (Nat.lt_succ_self j)]
      · rw [upd_other z]; by_cases z2 : i < j
        · rw [if_pos z2, if_pos (by omega)]
        · rw [if_neg z2, if_neg (by omega)], A4.congr fun i hi => by
      by_cases z : i = num y p j + 1
      · rw [z, upd_same]; show Value.int (Int32.ofNat (ct (num y p) j (num y p j + 1) + (if num y p j + 1 = num y p j + 1 then 1 else 0))) = _; rw [if_pos rfl]
      · rw [upd_other z]; show Value.int (Int32.ofNat (ct (num y p) j i + (if num y p j + 1 = i then 1 else 0))) = _; rw [if_neg (fun q => z q.symm)]; rfl⟩ (by omega)
  · obtain rfl : j = 66 := by omega
    refine g_if_icmpge C d_prog_102_method_1_123 (by decide) (pcT := 165) rfl (pcF := 126) rfl (fun _ => ?_) (fun zz_ => absurd zz_ (by first | decide | exact Nat.le_of_ble_eq_true rfl))
    exact k h2 K2 (An2.congr fun i hi => by rw [if_pos hi]) As2
set_option maxRecDepth 65536 in
set_option maxHeartbeats 40000000 in
theorem st_pre (l : Launch) (Z : State) (a0 : Array Value) (hw : ∀ d ∈ tables_1, d.before a0 Z = true) {p_ : Program} {e_ : Env} {s_ : State} {m_ : MethodId} {bel_ : List Frame} {mt_ : Method} {cd_ : Code} {Φ : Outcome → State → Prop} {h0 : Heap} {o av bv : Addr} (C : Cx p_ s_ m_ mt_ cd_ Z h0 [o] "com/example/corpusmith/corpusmith/ocr/EditRows" "<init>" prog_102_method_1_code 10 none) (h : Heap) (y : Int32) (p : Nat) (hp : p < 66) (wd st nu : Addr) (o9 : Slot) (hst : h0.size ≤ st) (Fs : (Fld Z h o "com/example/corpusmith/corpusmith/ocr/EditRows" "starts" "[I" (.ref st))) (As : Af Z h st .int (dF y + 1) (fun i => .int (Int32.ofNat (ct (n3 (kd y) p) 66 i)))) (c2 : @LT.lt Nat instLTNat o st) (k : ∀ (h' : Heap) (o7 : Slot), One o7 → Keep h h' [st] → Af Z h' st .int (dF y + 1) (fun i => .int (Int32.ofNat (s3 (kd y) i))) → G p_ l e_ ({ frames := 8, cells := 36, slots := 945, locals := 250 } : Room) s_ m_ #[.ref o, .ref av, .ref bv] bel_ mt_ cd_ [o] Φ h' 5 328 200 #[.val (.ref o), .val (.ref av), .val (.ref bv), .val (.int (2 : Int32)), .val (.ref wd), .val (.int (Int32.ofNat (dF y))), .val (.ref nu), o7, .val (.int (66 : Int32)), o9] []) : G p_ l e_ ({ frames := 8, cells := 36, slots := 945, locals := 250 } : Room) s_ m_ #[.ref o, .ref av, .ref bv] bel_ mt_ cd_ [o] Φ h 5 328 165 #[.val (.ref o), .val (.ref av), .val (.ref bv), .val (.int (2 : Int32)), .val (.ref wd), .val (.int (Int32.ofNat (dF y))), .val (.ref nu), .val (.int (Int32.ofNat 66)), .val (.int (66 : Int32)), o9] [] := by
  have hdl := dF_le y
  rcases dF_12 y with hd | hd
  · refine g_iconst C d_prog_102_method_1_165 (x := (0 : Int32)) rfl (pc' := 166) rfl ?_
    refine g_istore C d_prog_102_method_1_166 (Ls' := #[.val (.ref o), .val (.ref av), .val (.ref bv), .val (.int (2 : Int32)), .val (.ref wd), .val (.int (Int32.ofNat (dF y))), .val (.ref nu), .val (.int (0 : Int32)), .val (.int (66 : Int32)), o9]) rfl (pc' := 168) rfl ?_
    refine g_iload C d_prog_102_method_1_168 rfl (pc' := 170) rfl ?_
    refine g_iload C d_prog_102_method_1_170 rfl (pc' := 172) rfl ?_
    refine g_if_icmpge C d_prog_102_method_1_172 (by decide) (pcT := 200) rfl (pcF := 175) rfl (fun zz_ => absurd (by rw [show (0 : Int32) = Int32.ofNat 0 from rfl]; exact (lt_n (by omega) (by omega)).2 (by omega)) zz_) (fun _ => ?_)
    refine g_aload_n C d_prog_102_method_1_175 rfl rfl (pc' := 176) rfl ?_
    refine g_getfield C (Wx45 hw) Via.refl (Fs) d_prog_102_method_1_176 (pc' := 179) rfl ?_
    refine g_iload C d_prog_102_method_1_179 rfl (pc' := 181) rfl ?_
    refine g_iconst C d_prog_102_method_1_181 (x := (1 : Int32)) rfl (pc' := 182) rfl ?_
    refine g_iadd C d_prog_102_method_1_182 (pc' := 183) rfl ?_
    refine g_norm (cells' := 5) (slots' := 328) (st' := [(.int (1 : Int32)), (.ref st)]) (Nat.le_refl _) (Nat.le_refl _) (congrArg (fun z : Int32 => (Value.int z :: [(.ref st)] : List Value)) (by first | decide | exact Nat.le_of_ble_eq_true rfl)) ?_
    refine g_dup2 C d_prog_102_method_1_183 rfl rfl (pc' := 184) rfl ?_
    refine g_iaload C (As) (by first | decide | exact Nat.le_of_ble_eq_true rfl) (i := 1) rfl (by omega) (v := (.int (Int32.ofNat (ct (n3 (kd y) p) 66 1)))) (rfl) d_prog_102_method_1_184 (pc' := 185) rfl ?_
    refine g_aload_n C d_prog_102_method_1_185 rfl rfl (pc' := 186) rfl ?_
    refine g_getfield C (Wx45 hw) Via.refl (Fs) d_prog_102_method_1_186 (pc' := 189) rfl ?_
    refine g_iload C d_prog_102_method_1_189 rfl (pc' := 191) rfl ?_
    refine g_iaload C (As) (by first | decide | exact Nat.le_of_ble_eq_true rfl) (i := 0) rfl (by omega) (v := (.int (Int32.ofNat (ct (n3 (kd y) p) 66 0)))) (rfl) d_prog_102_method_1_191 (pc' := 192) rfl ?_
    refine g_iadd C d_prog_102_method_1_192 (pc' := 193) rfl ?_
    refine g_norm (cells' := 5) (slots' := 328) (st' := [(.int (Int32.ofNat (s3 (kd y) 1))), (.int (1 : Int32)), (.ref st)]) (Nat.le_refl _) (Nat.le_refl _) (congrArg (fun z : Int32 => (Value.int z :: [(.int (1 : Int32)), (.ref st)] : List Value)) (add_n.trans (congrArg Int32.ofNat (by rw [ct_0, (ct_end (kd_lt y) hp).1, Nat.add_zero])))) ?_
    refine g_iastore C (As) (by first | decide | exact Nat.le_of_ble_eq_true rfl) (i := 1) rfl (by omega) (Or.inr hst) d_prog_102_method_1_193 (pc' := 194) rfl ?_
    intro h1 W1 A1
    refine g_iinc C d_prog_102_method_1_194 rfl (y := (1 : Int32)) (by first | decide | exact Nat.le_of_ble_eq_true rfl) (Ls' := #[.val (.ref o), .val (.ref av), .val (.ref bv), .val (.int (2 : Int32)), .val (.ref wd), .val (.int (Int32.ofNat (dF y))), .val (.ref nu), .val (.int (1 : Int32)), .val (.int (66 : Int32)), o9]) rfl (pc' := 197) rfl ?_
    refine g_goto C d_prog_102_method_1_197 (by decide) (pc' := 168) rfl ?_
    refine g_iload C d_prog_102_method_1_168 rfl (pc' := 170) rfl ?_
    refine g_iload C d_prog_102_method_1_170 rfl (pc' := 172) rfl ?_
    refine g_if_icmpge C d_prog_102_method_1_172 (by decide) (pcT := 200) rfl (pcF := 175) rfl (fun _ => ?_) (fun zz_ => absurd zz_ (by rw [show (1 : Int32) = Int32.ofNat 1 from rfl]; exact fun q => absurd ((lt_n (by omega) (by omega)).1 q) (by omega)))
    exact k h1 _ (by first | exact One.u | exact One.val rfl | assumption) ((Keep.refl h [st]).wr W1 (Or.inl (by simp))) (A1.congr fun i hi => by
      rcases (show i = 0 ∨ i = 1 by omega) with rfl | rfl
      · rw [upd_other (by first | decide | exact Nat.le_of_ble_eq_true rfl), ct_0]; rfl
      · rw [upd_same])
  · refine g_iconst C d_prog_102_method_1_165 (x := (0 : Int32)) rfl (pc' := 166) rfl ?_
    refine g_istore C d_prog_102_method_1_166 (Ls' := #[.val (.ref o), .val (.ref av), .val (.ref bv), .val (.int (2 : Int32)), .val (.ref wd), .val (.int (Int32.ofNat (dF y))), .val (.ref nu), .val (.int (0 : Int32)), .val (.int (66 : Int32)), o9]) rfl (pc' := 168) rfl ?_
    refine g_iload C d_prog_102_method_1_168 rfl (pc' := 170) rfl ?_
    refine g_iload C d_prog_102_method_1_170 rfl (pc' := 172) rfl ?_
    refine g_if_icmpge C d_prog_102_method_1_172 (by decide) (pcT := 200) rfl (pcF := 175) rfl (fun zz_ => absurd (by rw [show (0 : Int32) = Int32.ofNat 0 from rfl]; exact (lt_n (by omega) (by omega)).2 (by omega)) zz_) (fun _ => ?_)
    refine g_aload_n C d_prog_102_method_1_175 rfl rfl (pc' := 176) rfl ?_
    refine g_getfield C (Wx45 hw) Via.refl (Fs) d_prog_102_method_1_176 (pc' := 179) rfl ?_
    refine g_iload C d_prog_102_method_1_179 rfl (pc' := 181) rfl ?_
    refine g_iconst C d_prog_102_method_1_181 (x := (1 : Int32)) rfl (pc' := 182) rfl ?_
    refine g_iadd C d_prog_102_method_1_182 (pc' := 183) rfl ?_
    refine g_norm (cells' := 5) (slots' := 328) (st' := [(.int (1 : Int32)), (.ref st)]) (Nat.le_refl _) (Nat.le_refl _) (congrArg (fun z : Int32 => (Value.int z :: [(.ref st)] : List Value)) (by first | decide | exact Nat.le_of_ble_eq_true rfl)) ?_
    refine g_dup2 C d_prog_102_method_1_183 rfl rfl (pc' := 184) rfl ?_
    refine g_iaload C (As) (by first | decide | exact Nat.le_of_ble_eq_true rfl) (i := 1) rfl (by omega) (v := (.int (Int32.ofNat (ct (n3 (kd y) p) 66 1)))) (rfl) d_prog_102_method_1_184 (pc' := 185) rfl ?_
    refine g_aload_n C d_prog_102_method_1_185 rfl rfl (pc' := 186) rfl ?_
    refine g_getfield C (Wx45 hw) Via.refl (Fs) d_prog_102_method_1_186 (pc' := 189) rfl ?_
    refine g_iload C d_prog_102_method_1_189 rfl (pc' := 191) rfl ?_
    refine g_iaload C (As) (by first | decide | exact Nat.le_of_ble_eq_true rfl) (i := 0) rfl (by omega) (v := (.int (Int32.ofNat (ct (n3 (kd y) p) 66 0)))) (rfl) d_prog_102_method_1_191 (pc' := 192) rfl ?_
    refine g_iadd C d_prog_102_method_1_192 (pc' := 193) rfl ?_
    refine g_norm (cells' := 5) (slots' := 328) (st' := [(.int (Int32.ofNat (s3 (kd y) 1))), (.int (1 : Int32)), (.ref st)]) (Nat.le_refl _) (Nat.le_refl _) (congrArg (fun z : Int32 => (Value.int z :: [(.int (1 : Int32)), (.ref st)] : List Value)) (add_n.trans (congrArg Int32.ofNat (by rw [ct_0, (ct_end (kd_lt y) hp).1, Nat.add_zero])))) ?_
    refine g_iastore C (As) (by first | decide | exact Nat.le_of_ble_eq_true rfl) (i := 1) rfl (by omega) (Or.inr hst) d_prog_102_method_1_193 (pc' := 194) rfl ?_
    intro h1 W1 A1
    refine g_iinc C d_prog_102_method_1_194 rfl (y := (1 : Int32)) (by first | decide | exact Nat.le_of_ble_eq_true rfl) (Ls' := #[.val (.ref o), .val (.ref av), .val (.ref bv), .val (.int (2 : Int32)), .val (.ref wd), .val (.int (Int32.ofNat (dF y))), .val (.ref nu), .val (.int (1 : Int32)), .val (.int (66 : Int32)), o9]) rfl (pc' := 197) rfl ?_
    refine g_goto C d_prog_102_method_1_197 (by decide) (pc' := 168) rfl ?_
    refine g_iload C d_prog_102_method_1_168 rfl (pc' := 170) rfl ?_
    refine g_iload C d_prog_102_method_1_170 rfl (pc' := 172) rfl ?_
    refine g_if_icmpge C d_prog_102_method_1_172 (by decide) (pcT := 200) rfl (pcF := 175) rfl (fun zz_ => absurd (by rw [show (1 : Int32) = Int32.ofNat 1 from rfl]; exact (lt_n (by omega) (by omega)).2 (by omega)) zz_) (fun _ => ?_)
    refine g_aload_n C d_prog_102_method_1_175 rfl rfl (pc' := 176) rfl ?_
    refine g_getfield C (Wx45 hw) Via.refl ((Fs).other W1 (Or.inl (neA (by omega)))) d_prog_102_method_1_176 (pc' := 179) rfl ?_
    refine g_iload C d_prog_102_method_1_179 rfl (pc' := 181) rfl ?_
    refine g_iconst C d_prog_102_method_1_181 (x := (1 : Int32)) rfl (pc' := 182) rfl ?_
    refine g_iadd C d_prog_102_method_1_182 (pc' := 183) rfl ?_
    refine g_norm (cells' := 5) (slots' := 328) (st' := [(.int (2 : Int32)), (.ref st)]) (Nat.le_refl _) (Nat.le_refl _) (congrArg (fun z : Int32 => (Value.int z :: [(.ref st)] : List Value)) (by first | decide | exact Nat.le_of_ble_eq_true rfl)) ?_
    refine g_dup2 C d_prog_102_method_1_183 rfl rfl (pc' := 184) rfl ?_
    refine g_iaload C (A1) (by first | decide | exact Nat.le_of_ble_eq_true rfl) (i := 2) rfl (by omega) (v := (.int (Int32.ofNat (ct (n3 (kd y) p) 66 2)))) (upd_other (by first | decide | exact Nat.le_of_ble_eq_true rfl)) d_prog_102_method_1_184 (pc' := 185) rfl ?_
    refine g_aload_n C d_prog_102_method_1_185 rfl rfl (pc' := 186) rfl ?_
    refine g_getfield C (Wx45 hw) Via.refl ((Fs).other W1 (Or.inl (neA (by omega)))) d_prog_102_method_1_186 (pc' := 189) rfl ?_
    refine g_iload C d_prog_102_method_1_189 rfl (pc' := 191) rfl ?_
    refine g_iaload C (A1) (by first | decide | exact Nat.le_of_ble_eq_true rfl) (i := 1) rfl (by omega) (v := (.int (Int32.ofNat (s3 (kd y) 1)))) (upd_same) d_prog_102_method_1_191 (pc' := 192) rfl ?_
    refine g_iadd C d_prog_102_method_1_192 (pc' := 193) rfl ?_
    refine g_norm (cells' := 5) (slots' := 328) (st' := [(.int (Int32.ofNat 66)), (.int (2 : Int32)), (.ref st)]) (Nat.le_refl _) (Nat.le_refl _) (congrArg (fun z : Int32 => (Value.int z :: [(.int (2 : Int32)), (.ref st)] : List Value)) (add_n.trans (congrArg Int32.ofNat ((ct_end (kd_lt y) hp).2 (kd_ne hd))))) ?_
    refine g_iastore C (A1) (by first | decide | exact Nat.le_of_ble_eq_true rfl) (i := 2) rfl (by omega) (Or.inr hst) d_prog_102_method_1_193 (pc' := 194) rfl ?_
    intro h2 W2 A2
    refine g_iinc C d_prog_102_method_1_194 rfl (y := (2 : Int32)) (by first | decide | exact Nat.le_of_ble_eq_true rfl) (Ls' := #[.val (.ref o), .val (.ref av), .val (.ref bv), .val (.int (2 : Int32)), .val (.ref wd), .val (.int (Int32.ofNat (dF y))), .val (.ref nu), .val (.int (2 : Int32)), .val (.int (66 : Int32)), o9]) rfl (pc' := 197) rfl ?_
    refine g_goto C d_prog_102_method_1_197 (by decide) (pc' := 168) rfl ?_
    refine g_iload C d_prog_102_method_1_168 rfl (pc' := 170) rfl ?_
    refine g_iload C d_prog_102_method_1_170 rfl (pc' := 172) rfl ?_
    refine g_if_icmpge C d_prog_102_method_1_172 (by decide) (pcT := 200) rfl (pcF := 175) rfl (fun _ => ?_) (fun zz_ => absurd zz_ (by rw [show (2 : Int32) = Int32.ofNat 2 from rfl]; exact fun q => absurd ((lt_n (by omega) (by omega)).1 q) (by omega)))
    exact k h2 _ (by first | exact One.u | exact One.val rfl | assumption) (((Keep.refl h [st]).wr W1 (Or.inl (by simp))).wr W2 (Or.inl (by simp))) (A2.congr fun i hi => by
      rcases (show i = 0 ∨ i = 1 ∨ i = 2 by omega) with rfl | rfl | rfl
      · rw [upd_other (by first | decide | exact Nat.le_of_ble_eq_true rfl), upd_other (by first | decide | exact Nat.le_of_ble_eq_true rfl), ct_0]; rfl
      · rw [upd_other (by first | decide | exact Nat.le_of_ble_eq_true rfl), upd_same]
      · rw [upd_same]; rfl)
set_option maxRecDepth 65536 in
set_option maxHeartbeats 40000000 in
theorem st_pla (l : Launch) (Z : State) (a0 : Array Value) (hw : ∀ d ∈ tables_1, d.before a0 Z = true) {p_ : Program} {e_ : Env} {s_ : State} {m_ : MethodId} {bel_ : List Frame} {mt_ : Method} {cd_ : Code} {Φ : Outcome → State → Prop} {h0 : Heap} {o av bv : Addr} (C : Cx p_ s_ m_ mt_ cd_ Z h0 [o] "com/example/corpusmith/corpusmith/ocr/EditRows" "<init>" prog_102_method_1_code 10 none) (h : Heap) (y : Int32) (p : Nat) (hp : p < 66) (wd pl nu nx : Addr) (o9 : Slot) (hnx : h0.size ≤ nx) (hpl : h0.size ≤ pl) (Ab : Af Z h bv .int 66 (one p y)) (An : Af Z h nu .int 66 (fun i => .int (Int32.ofNat (num y p i)))) (Ax : Af Z h nx .int (dF y) (fun i => .int (Int32.ofNat (s3 (kd y) i)))) (Fp : (Fld Z h o "com/example/corpusmith/corpusmith/ocr/EditRows" "places" "[I" (.ref pl))) (Ap : Af Z h pl .int 66 (fun _ => .int 0)) (c1 : @LT.lt Nat instLTNat bv o) (c2 : @LT.lt Nat instLTNat o pl) (c3 : @LT.lt Nat instLTNat pl nu) (c4 : @LT.lt Nat instLTNat nu nx) (k : ∀ (h' : Heap), Keep h h' [nx, pl] → Af Z h' pl .int 66 (fun t => .int (Int32.ofNat (cF (kd y) p t))) → G p_ l e_ ({ frames := 8, cells := 36, slots := 945, locals := 250 } : Room) s_ m_ #[.ref o, .ref av, .ref bv] bel_ mt_ cd_ [o] Φ h' 6 330 247 #[.val (.ref o), .val (.ref av), .val (.ref bv), .val (.int (2 : Int32)), .val (.ref wd), .val (.int (Int32.ofNat (dF y))), .val (.ref nu), .val (.ref nx), .val (.int (Int32.ofNat 66)), o9] []) : G p_ l e_ ({ frames := 8, cells := 36, slots := 945, locals := 250 } : Room) s_ m_ #[.ref o, .ref av, .ref bv] bel_ mt_ cd_ [o] Φ h 6 330 214 #[.val (.ref o), .val (.ref av), .val (.ref bv), .val (.int (2 : Int32)), .val (.ref wd), .val (.int (Int32.ofNat (dF y))), .val (.ref nu), .val (.ref nx), .val (.int (0 : Int32)), o9] [] := by
  have hdl := dF_le y
  refine g_loopH (α := Nat) (fun j h' => j ≤ 66 ∧ Keep h h' [nx, pl] ∧ Af Z h' nx .int (dF y) (fun i => .int (Int32.ofNat (s3 (kd y) i + ct (n3 (kd y) p) j (i + 1)))) ∧ Af Z h' pl .int 66 (fun t => .int (Int32.ofNat (if cF (kd y) p t < j then cF (kd y) p t else 0)))) (fun j => 66 - j) (fun j => #[.val (.ref o), .val (.ref av), .val (.ref bv), .val (.int (2 : Int32)), .val (.ref wd), .val (.int (Int32.ofNat (dF y))), .val (.ref nu), .val (.ref nx), .val (.int (Int32.ofNat j)), o9]) 0 ⟨Nat.zero_le _, Keep.refl _ _, Ax.congr fun i hi => rfl, Ap.congr fun t ht => congrArg (fun z => Value.int (Int32.ofNat z)) (if_neg (Nat.not_lt_zero _))⟩ rfl ?_
  rintro j h2 ⟨hj, K2, Ax2, Ap2⟩ IH
  try dsimp only
  have Ab2 := Ab.keep K2 (ninS (neA (by omega)) (ninS (neA (by omega)) nin0))
  have An2 := An.keep K2 (ninS (neA (by omega)) (ninS (neA (by omega)) nin0))
  have Fp2 := Fp.keep K2 (ninS (neA (by omega)) (ninS (neA (by omega)) nin0))
  have hnl := num_le y p j
  refine g_iload C d_prog_102_method_1_214 rfl (pc' := 216) rfl ?_
  refine g_aload_n C d_prog_102_method_1_216 rfl rfl (pc' := 217) rfl ?_
  refine g_arraylength C (Ab2) (z := (66 : Int32)) rfl d_prog_102_method_1_217 (pc' := 218) rfl ?_
  rcases Nat.lt_or_ge j 66 with hc | hc
  · have hix := ix_in _ (kd_lt y) p hp j hc
    refine g_if_icmpge C d_prog_102_method_1_218 (by decide) (pcT := 247) rfl (pcF := 221) rfl (fun zz_ => absurd (by rw [show (66 : Int32) = Int32.ofNat 66 from rfl]; exact (lt_n (by omega) (by omega)).2 (by omega)) zz_) (fun _ => ?_)
    refine g_aload_n C d_prog_102_method_1_221 rfl rfl (pc' := 222) rfl ?_
    refine g_getfield C (Wx47 hw) Via.refl (Fp2) d_prog_102_method_1_222 (pc' := 225) rfl ?_
    refine g_aload C d_prog_102_method_1_225 rfl rfl (pc' := 227) rfl ?_
    refine g_aload C d_prog_102_method_1_227 rfl rfl (pc' := 229) rfl ?_
    refine g_iload C d_prog_102_method_1_229 rfl (pc' := 231) rfl ?_
    refine g_iaload C (An2) (i32_nn (by omega)) (i := j) (i32_clamp (by omega)) (by omega) (v := (.int (Int32.ofNat (num y p j)))) (rfl) d_prog_102_method_1_231 (pc' := 232) rfl ?_
    refine g_dup2 C d_prog_102_method_1_232 rfl rfl (pc' := 233) rfl ?_
    refine g_iaload C (Ax2) (i32_nn (by omega)) (i := (num y p j)) (i32_clamp (by omega)) (by omega) (v := (.int (Int32.ofNat (s3 (kd y) (num y p j) + ct (n3 (kd y) p) j (num y p j + 1))))) (rfl) d_prog_102_method_1_233 (pc' := 234) rfl ?_
    refine g_norm (cells' := 6) (slots' := 330) (st' := [(.int (Int32.ofNat (ixF (kd y) p j))), (.int (Int32.ofNat (num y p j))), (.ref nx), (.ref pl)]) (Nat.le_refl _) (Nat.le_refl _) (congrArg (fun z : Int32 => (Value.int z :: [(.int (Int32.ofNat (num y p j))), (.ref nx), (.ref pl)] : List Value)) (congrArg Int32.ofNat (by rw [num_n3]; exact ix_eq (kd_lt y)))) ?_
    refine g_dup_x2 C d_prog_102_method_1_234 rfl rfl rfl (pc' := 235) rfl ?_
    refine g_iconst C d_prog_102_method_1_235 (x := (1 : Int32)) rfl (pc' := 236) rfl ?_
    refine g_iadd C d_prog_102_method_1_236 (pc' := 237) rfl ?_
    refine g_norm (cells' := 6) (slots' := 330) (st' := [(.int (Int32.ofNat (ixF (kd y) p j + 1))), (.int (Int32.ofNat (num y p j))), (.ref nx), (.int (Int32.ofNat (ixF (kd y) p j))), (.ref pl)]) (Nat.le_refl _) (Nat.le_refl _) (congrArg (fun z : Int32 => (Value.int z :: [(.int (Int32.ofNat (num y p j))), (.ref nx), (.int (Int32.ofNat (ixF (kd y) p j))), (.ref pl)] : List Value)) (i32_succ)) ?_
    refine g_iastore C (Ax2) (i32_nn (by omega)) (i := (num y p j)) (i32_clamp (by omega)) (by omega) (Or.inr hnx) d_prog_102_method_1_237 (pc' := 238) rfl ?_
    intro h3 W3 A3
    refine g_iload C d_prog_102_method_1_238 rfl (pc' := 240) rfl ?_
    have Ap3 := Ap2.other W3 (neA (by omega))
    obtain ⟨hix1, hix2⟩ := hix
    refine g_iastore C (Ap3) (i32_nn (by omega)) (i := (ixF (kd y) p j)) (i32_clamp (by omega)) (by omega) (Or.inr hpl) d_prog_102_method_1_240 (pc' := 241) rfl ?_
    intro h4 W4 A4
    refine g_iinc C d_prog_102_method_1_241 rfl (y := (Int32.ofNat (j + 1))) (i32_succ) (Ls' := #[.val (.ref o), .val (.ref av), .val (.ref bv), .val (.int (2 : Int32)), .val (.ref wd), .val (.int (Int32.ofNat (dF y))), .val (.ref nu), .val (.ref nx), .val (.int (Int32.ofNat (j + 1))), o9]) rfl (pc' := 244) rfl ?_
    refine g_goto C d_prog_102_method_1_244 (by decide) (pc' := 214) rfl ?_
    have A3' := A3.other W4 (neA (by omega))
    exact IH (j + 1) h4 ⟨by omega, (K2.wr W3 (Or.inl (by simp))).wr W4 (Or.inl (by simp)), A3'.congr fun i hi => by
      by_cases z : i = num y p j
      · rw [z, upd_same, num_n3]; show Value.int (Int32.ofNat (s3 (kd y) (n3 (kd y) p j) + (ct (n3 (kd y) p) j (n3 (kd y) p j + 1) + (if n3 (kd y) p j + 1 = n3 (kd y) p j + 1 then 1 else 0)))) = _; rw [if_pos rfl, ← Nat.add_assoc, ix_eq (kd_lt y)]
      · rw [upd_other z]; show Value.int (Int32.ofNat (s3 (kd y) i + (ct (n3 (kd y) p) j (i + 1) + (if n3 (kd y) p j + 1 = i + 1 then 1 else 0)))) = _; rw [if_neg (fun q => z (by rw [num_n3]; omega))]; rfl, A4.congr fun t ht => by
      by_cases z : t = ixF (kd y) p j
      · rw [z, upd_same, hix2, if_pos (Nat.lt_succ_self j)]
      · have ne : ¬ cF (kd y) p t = j := fun q => z (by rw [← q]; exact (cF_in _ (kd_lt y) p hp t ht).2.symm)
        rw [upd_other z]; by_cases z2 : cF (kd y) p t < j
        · rw [if_pos z2, if_pos (by omega)]
        · rw [if_neg z2, if_neg (by omega)]⟩ (by omega)
  · obtain rfl : j = 66 := by omega
    refine g_if_icmpge C d_prog_102_method_1_218 (by decide) (pcT := 247) rfl (pcF := 221) rfl (fun _ => ?_) (fun zz_ => absurd zz_ (by first | decide | exact Nat.le_of_ble_eq_true rfl))
    exact k h2 K2 (Ap2.congr fun t ht => by rw [if_pos (cF_in _ (kd_lt y) p hp t ht).1])
set_option maxRecDepth 65536 in
set_option maxHeartbeats 40000000 in
theorem st_bits (l : Launch) (Z : State) (a0 : Array Value) (hw : ∀ d ∈ tables_1, d.before a0 Z = true) {p_ : Program} {e_ : Env} {s_ : State} {m_ : MethodId} {bel_ : List Frame} {mt_ : Method} {cd_ : Code} {Φ : Outcome → State → Prop} {h0 : Heap} {o av bv : Addr} (C : Cx p_ s_ m_ mt_ cd_ Z h0 [o] "com/example/corpusmith/corpusmith/ocr/EditRows" "<init>" prog_102_method_1_code 10 none) (h : Heap) (y : Int32) (p : Nat) (hp : p < 66) (wd st pl nu nx bi : Addr) (o9 : Slot) (ho9 : One o9) (hbi : h0.size ≤ bi) (Fstarts : (Fld Z h o "com/example/corpusmith/corpusmith/ocr/EditRows" "starts" "[I" (.ref st))) (Fplaces : (Fld Z h o "com/example/corpusmith/corpusmith/ocr/EditRows" "places" "[I" (.ref pl))) (Fbits : (Fld Z h o "com/example/corpusmith/corpusmith/ocr/EditRows" "bits" "[[J" (.ref bi))) (As : Af Z h st .int (dF y + 1) (fun i => .int (Int32.ofNat (s3 (kd y) i)))) (Ap : Af Z h pl .int 66 (fun t => .int (Int32.ofNat (cF (kd y) p t)))) (Abi : Af Z h bi (.array .long) (dF y) (fun _ => .null)) (Ob : OvB Z h bi .long "[J") (c1 : @LT.lt Nat instLTNat o st) (c2 : @LT.lt Nat instLTNat st pl) (c3 : @LT.lt Nat instLTNat pl bi) (k : ∀ (h' : Heap) (br : Addr) (o8 o9' : Slot), One o8 → One o9' → @LT.lt Nat instLTNat bi br → h.size ≤ br → Keep h h' [bi] → Af Z h' bi (.array .long) (dF y) (fun i => if i = izF y then .ref br else .null) → Af Z h' br .long 2 (two (sm (if y = 0 then 1 else 2) p).1 (sm (if y = 0 then 1 else 2) p).2) → G p_ l e_ ({ frames := 8, cells := 36, slots := 945, locals := 250 } : Room) s_ m_ #[.ref o, .ref av, .ref bv] bel_ mt_ cd_ [o] Φ h' 8 334 362 #[.val (.ref o), .val (.ref av), .val (.ref bv), .val (.int (2 : Int32)), .val (.ref wd), .val (.int (Int32.ofNat (dF y))), .val (.ref nu), .val (.ref nx), o8, o9'] []) : G p_ l e_ ({ frames := 8, cells := 36, slots := 945, locals := 250 } : Room) s_ m_ #[.ref o, .ref av, .ref bv] bel_ mt_ cd_ [o] Φ h 7 332 256 #[.val (.ref o), .val (.ref av), .val (.ref bv), .val (.int (2 : Int32)), .val (.ref wd), .val (.int (Int32.ofNat (dF y))), .val (.ref nu), .val (.ref nx), .val (.int (Int32.ofNat 66)), o9] [] := by
  have hdl := dF_le y
  rcases sgn y with hy | hy | hy
  · have hkd : kd y = 0 := by rw [hy]; rfl
    have hd : dF y = 1 := by rw [hy]; rfl
    have hz := bo_z p hp
    have hiz : izF y = 0 := by rw [hy]; rfl
    have hkz : (if y = 0 then 1 else 2) = 1 := if_pos hy
    rw [hkd] at As Ap
    rw [hiz, hkz] at k
    refine g_iconst C d_prog_102_method_1_256 (x := (0 : Int32)) rfl (pc' := 257) rfl ?_
    refine g_istore C d_prog_102_method_1_257 (Ls' := #[.val (.ref o), .val (.ref av), .val (.ref bv), .val (.int (2 : Int32)), .val (.ref wd), .val (.int (Int32.ofNat (dF y))), .val (.ref nu), .val (.ref nx), .val (.int (0 : Int32)), o9]) rfl (pc' := 259) rfl ?_
    refine g_iload C d_prog_102_method_1_259 rfl (pc' := 261) rfl ?_
    refine g_iload C d_prog_102_method_1_261 rfl (pc' := 263) rfl ?_
    refine g_if_icmpge C d_prog_102_method_1_263 (by decide) (pcT := 362) rfl (pcF := 266) rfl (fun zz_ => absurd (by rw [show (0 : Int32) = Int32.ofNat 0 from rfl]; exact (lt_n (by omega) (by omega)).2 (by omega)) zz_) (fun _ => ?_)
    refine g_aload_n C d_prog_102_method_1_266 rfl rfl (pc' := 267) rfl ?_
    refine g_getfield C (Wx45 hw) Via.refl (Fstarts) d_prog_102_method_1_267 (pc' := 270) rfl ?_
    refine g_iload C d_prog_102_method_1_270 rfl (pc' := 272) rfl ?_
    refine g_iconst C d_prog_102_method_1_272 (x := (1 : Int32)) rfl (pc' := 273) rfl ?_
    refine g_iadd C d_prog_102_method_1_273 (pc' := 274) rfl ?_
    refine g_norm (cells' := 7) (slots' := 332) (st' := [(.int (1 : Int32)), (.ref st)]) (Nat.le_refl _) (Nat.le_refl _) (congrArg (fun z : Int32 => (Value.int z :: [(.ref st)] : List Value)) (by first | decide | exact Nat.le_of_ble_eq_true rfl)) ?_
    refine g_iaload C (As) (by first | decide | exact Nat.le_of_ble_eq_true rfl) (i := 1) rfl (by omega) (v := (.int (66 : Int32))) (rfl) d_prog_102_method_1_274 (pc' := 275) rfl ?_
    refine g_aload_n C d_prog_102_method_1_275 rfl rfl (pc' := 276) rfl ?_
    refine g_getfield C (Wx45 hw) Via.refl (Fstarts) d_prog_102_method_1_276 (pc' := 279) rfl ?_
    refine g_iload C d_prog_102_method_1_279 rfl (pc' := 281) rfl ?_
    refine g_iaload C (As) (by first | decide | exact Nat.le_of_ble_eq_true rfl) (i := 0) rfl (by omega) (v := (.int (0 : Int32))) (rfl) d_prog_102_method_1_281 (pc' := 282) rfl ?_
    refine g_isub C d_prog_102_method_1_282 (pc' := 283) rfl ?_
    refine g_norm (cells' := 7) (slots' := 332) (st' := [(.int (66 : Int32))]) (Nat.le_refl _) (Nat.le_refl _) (congrArg (fun z : Int32 => (Value.int z :: [] : List Value)) (by first | decide | exact Nat.le_of_ble_eq_true rfl)) ?_
    refine g_iload_n C d_prog_102_method_1_283 rfl (pc' := 284) rfl ?_
    refine g_if_icmplt C d_prog_102_method_1_284 (by decide) (pcT := 356) rfl (pcF := 287) rfl (fun zz_ => absurd zz_ (by first | decide | exact Nat.le_of_ble_eq_true rfl)) (fun _ => ?_)
    refine g_aload_n C d_prog_102_method_1_287 rfl rfl (pc' := 288) rfl ?_
    refine g_getfield C (Wx71 hw) Via.refl (Fbits) d_prog_102_method_1_288 (pc' := 291) rfl ?_
    refine g_iload C d_prog_102_method_1_291 rfl (pc' := 293) rfl ?_
    refine g_iload_n C d_prog_102_method_1_293 rfl (pc' := 294) rfl ?_
    refine g_newarrayE C (aty := .long) (n := 2) (Wx73 hw) (ad := "[J") (by first | rfl | decide +kernel) (by first | decide | exact Nat.le_of_ble_eq_true rfl) rfl (by omega) d_prog_102_method_1_294 (pc' := 296) rfl (by first | decide | exact Nat.le_of_ble_eq_true rfl) (Nat.le_trans (show 332 + 2 ≤ 334 by omega) (by first | decide | exact Nat.le_of_ble_eq_true rfl)) ?_
    intro h1 br hbr hbr0 X1 E1 B1
    refine g_norm (cells' := 8) (slots' := 334) (st' := [(.ref br), (.int (0 : Int32)), (.ref bi)]) (by first | decide | exact Nat.le_of_ble_eq_true rfl) (show 332 + 2 ≤ 334 by omega) rfl ?_
    have hlt : @LT.lt Nat instLTNat bi br := by rw [hbr]; exact (Abi).lt
    have fy57 := (Abi).ext X1
    have fy58 := (Ob).ext X1
    refine g_aastore C (fy57) rfl ((fy58).sto fy57 (Ins.self E1)) rfl (by first | decide | exact Nat.le_of_ble_eq_true rfl) (i := 0) rfl (by omega) (Or.inr hbi) d_prog_102_method_1_296 (pc' := 297) rfl ?_
    intro h2 W2 B2
    have B1' : Af Z h2 br .long 2 (two (bo0 (cF 0 p) 0 0) (bo1 (cF 0 p) 0 0)) := (B1.other W2 (neA (by omega))).congr fun j hj => by rcases (show j = 0 ∨ j = 1 by omega) with rfl | rfl <;> rfl
    refine g_aload_n C d_prog_102_method_1_297 rfl rfl (pc' := 298) rfl ?_
    have fy59 := ((Fstarts).ext X1).other W2 (Or.inl (neA (by omega)))
    refine g_getfield C (Wx45 hw) Via.refl (fy59) d_prog_102_method_1_298 (pc' := 301) rfl ?_
    refine g_iload C d_prog_102_method_1_301 rfl (pc' := 303) rfl ?_
    have fy60 := ((As).ext X1).other W2 (neA (by omega))
    refine g_iaload C (fy60) (by first | decide | exact Nat.le_of_ble_eq_true rfl) (i := 0) rfl (by omega) (v := (.int (0 : Int32))) (rfl) d_prog_102_method_1_303 (pc' := 304) rfl ?_
    refine g_istore C d_prog_102_method_1_304 (Ls' := #[.val (.ref o), .val (.ref av), .val (.ref bv), .val (.int (2 : Int32)), .val (.ref wd), .val (.int (Int32.ofNat (dF y))), .val (.ref nu), .val (.ref nx), .val (.int (0 : Int32)), .val (.int (0 : Int32))]) (by rw [XS.store1 (o := o9) rfl ho9 rfl]; rfl) (pc' := 306) rfl ?_
    refine g_loopH (α := Nat) (fun n h' => n ≤ 66 ∧ Keep h2 h' [br] ∧ Af Z h' br .long 2 (two (bo0 (cF 0 p) 0 n) (bo1 (cF 0 p) 0 n))) (fun n => 66 - n) (fun n => #[.val (.ref o), .val (.ref av), .val (.ref bv), .val (.int (2 : Int32)), .val (.ref wd), .val (.int (Int32.ofNat (dF y))), .val (.ref nu), .val (.ref nx), .val (.int (0 : Int32)), .val (.int (Int32.ofNat (0 + n)))]) 0 ⟨Nat.zero_le _, Keep.refl _ _, B1'⟩ rfl ?_
    rintro n h3 ⟨hn, K3, B3⟩ IH
    try dsimp only
    refine g_iload C d_prog_102_method_1_306 rfl (pc' := 308) rfl ?_
    refine g_aload_n C d_prog_102_method_1_308 rfl rfl (pc' := 309) rfl ?_
    have fy61 := (fy59).keep K3 (ninS (neA (by omega)) nin0)
    refine g_getfield C (Wx45 hw) Via.refl (fy61) d_prog_102_method_1_309 (pc' := 312) rfl ?_
    refine g_iload C d_prog_102_method_1_312 rfl (pc' := 314) rfl ?_
    refine g_iconst C d_prog_102_method_1_314 (x := (1 : Int32)) rfl (pc' := 315) rfl ?_
    refine g_iadd C d_prog_102_method_1_315 (pc' := 316) rfl ?_
    refine g_norm (cells' := 8) (slots' := 334) (st' := [(.int (1 : Int32)), (.ref st), (.int (Int32.ofNat (0 + n)))]) (Nat.le_refl _) (Nat.le_refl _) (congrArg (fun z : Int32 => (Value.int z :: [(.ref st), (.int (Int32.ofNat (0 + n)))] : List Value)) (by first | decide | exact Nat.le_of_ble_eq_true rfl)) ?_
    have fy62 := (fy60).keep K3 (ninS (neA (by omega)) nin0)
    refine g_iaload C (fy62) (by first | decide | exact Nat.le_of_ble_eq_true rfl) (i := 1) rfl (by omega) (v := (.int (66 : Int32))) (rfl) d_prog_102_method_1_316 (pc' := 317) rfl ?_
    rcases Nat.lt_or_ge n 66 with hc | hc
    · refine g_if_icmpge C d_prog_102_method_1_317 (by decide) (pcT := 356) rfl (pcF := 320) rfl (fun zz_ => absurd (by rw [show (66 : Int32) = Int32.ofNat 66 from rfl]; exact (lt_n (by omega) (by omega)).2 (by omega)) zz_) (fun _ => ?_)
      have hc6 := (cF_in 0 (by first | decide | exact Nat.le_of_ble_eq_true rfl) p hp (0 + n) (by omega)).1
      refine g_aload_n C d_prog_102_method_1_320 rfl rfl (pc' := 321) rfl ?_
      have fy63 := (((Fbits).ext X1).other W2 (Or.inl (neA (by omega)))).keep K3 (ninS (neA (by omega)) nin0)
      refine g_getfield C (Wx71 hw) Via.refl (fy63) d_prog_102_method_1_321 (pc' := 324) rfl ?_
      refine g_iload C d_prog_102_method_1_324 rfl (pc' := 326) rfl ?_
      have fy64 := (B2).keep K3 (ninS (neA (by omega)) nin0)
      refine g_aaload C (fy64) rfl (by first | decide | exact Nat.le_of_ble_eq_true rfl) (i := 0) rfl (by omega) (v := .ref br) upd_same d_prog_102_method_1_326 (pc' := 327) rfl ?_
      refine g_aload_n C d_prog_102_method_1_327 rfl rfl (pc' := 328) rfl ?_
      have fy65 := (((Fplaces).ext X1).other W2 (Or.inl (neA (by omega)))).keep K3 (ninS (neA (by omega)) nin0)
      refine g_getfield C (Wx47 hw) Via.refl (fy65) d_prog_102_method_1_328 (pc' := 331) rfl ?_
      refine g_iload C d_prog_102_method_1_331 rfl (pc' := 333) rfl ?_
      have fy66 := (((Ap).ext X1).other W2 (neA (by omega))).keep K3 (ninS (neA (by omega)) nin0)
      refine g_iaload C (fy66) (i32_nn (by omega)) (i := (0 + n)) (i32_clamp (by omega)) (by omega) (v := (.int (Int32.ofNat (cF 0 p (0 + n))))) (rfl) d_prog_102_method_1_333 (pc' := 334) rfl ?_
      refine g_bipush C d_prog_102_method_1_334 (x := (6 : Int32)) rfl (pc' := 336) rfl ?_
      refine g_iushr C d_prog_102_method_1_336 (pc' := 337) rfl ?_
      refine g_norm (cells' := 8) (slots' := 334) (st' := [(.int (Int32.ofNat ((cF 0 p (0 + n)) / 64))), (.ref br)]) (Nat.le_refl _) (Nat.le_refl _) (congrArg (fun z : Int32 => (Value.int z :: [(.ref br)] : List Value)) (ush6 _ hc6)) ?_
      refine g_dup2 C d_prog_102_method_1_337 rfl rfl (pc' := 338) rfl ?_
      refine g_laload C (B3) (i32_nn (by omega)) (i := ((cF 0 p (0 + n)) / 64)) (i32_clamp (by omega)) (by omega) (v := (.long (if (cF 0 p (0 + n)) / 64 = 0 then bo0 (cF 0 p) 0 n else bo1 (cF 0 p) 0 n))) (two_at) d_prog_102_method_1_338 (pc' := 339) rfl ?_
      refine g_lconst C d_prog_102_method_1_339 (x := (1 : Int64)) rfl (pc' := 340) rfl ?_
      refine g_aload_n C d_prog_102_method_1_340 rfl rfl (pc' := 341) rfl ?_
      refine g_getfield C (Wx47 hw) Via.refl (fy65) d_prog_102_method_1_341 (pc' := 344) rfl ?_
      refine g_iload C d_prog_102_method_1_344 rfl (pc' := 346) rfl ?_
      refine g_iaload C (fy66) (i32_nn (by omega)) (i := (0 + n)) (i32_clamp (by omega)) (by omega) (v := (.int (Int32.ofNat (cF 0 p (0 + n))))) (rfl) d_prog_102_method_1_346 (pc' := 347) rfl ?_
      refine g_lshl C d_prog_102_method_1_347 (pc' := 348) rfl ?_
      refine g_lor C d_prog_102_method_1_348 (pc' := 349) rfl ?_
      refine g_lastore C (B3) (i32_nn (by omega)) (i := ((cF 0 p (0 + n)) / 64)) (i32_clamp (by omega)) (by omega) (Or.inr hbr0) d_prog_102_method_1_349 (pc' := 350) rfl ?_
      intro h4 W4 B4
      refine g_iinc C d_prog_102_method_1_350 rfl (y := (Int32.ofNat (0 + n + 1))) (i32_succ) (Ls' := #[.val (.ref o), .val (.ref av), .val (.ref bv), .val (.int (2 : Int32)), .val (.ref wd), .val (.int (Int32.ofNat (dF y))), .val (.ref nu), .val (.ref nx), .val (.int (0 : Int32)), .val (.int (Int32.ofNat (0 + n + 1)))]) rfl (pc' := 353) rfl ?_
      refine g_goto C d_prog_102_method_1_353 (by decide) (pc' := 306) rfl ?_
      exact IH (n + 1) h4 ⟨by omega, K3.wr W4 (Or.inl (by simp)), B4.congr fun j hj => by
        refine Eq.trans ?_ (upd_two hj (by omega)).symm
        show two (if (cF 0 p (0 + n)) / 64 = 0 then bo0 (cF 0 p) 0 n ||| bit1 (cF 0 p (0 + n)) else bo0 (cF 0 p) 0 n) (if (cF 0 p (0 + n)) / 64 = 0 then bo1 (cF 0 p) 0 n else bo1 (cF 0 p) 0 n ||| bit1 (cF 0 p (0 + n))) j = two (if (cF 0 p (0 + n)) / 64 = 0 then (if (cF 0 p (0 + n)) / 64 = 0 then bo0 (cF 0 p) 0 n else bo1 (cF 0 p) 0 n) ||| bit1 (cF 0 p (0 + n)) else bo0 (cF 0 p) 0 n) (if (cF 0 p (0 + n)) / 64 = 0 then bo1 (cF 0 p) 0 n else (if (cF 0 p (0 + n)) / 64 = 0 then bo0 (cF 0 p) 0 n else bo1 (cF 0 p) 0 n) ||| bit1 (cF 0 p (0 + n))) j
        by_cases z : (cF 0 p (0 + n)) / 64 = 0
        · simp only [if_pos z]
        · simp only [if_neg z]⟩ (by omega)
    · obtain rfl : n = 66 := by omega
      refine g_if_icmpge C d_prog_102_method_1_317 (by decide) (pcT := 356) rfl (pcF := 320) rfl (fun _ => ?_) (fun zz_ => absurd zz_ (by first | decide | exact Nat.le_of_ble_eq_true rfl))
      refine g_iinc C d_prog_102_method_1_356 rfl (y := (1 : Int32)) (by first | decide | exact Nat.le_of_ble_eq_true rfl) (Ls' := #[.val (.ref o), .val (.ref av), .val (.ref bv), .val (.int (2 : Int32)), .val (.ref wd), .val (.int (Int32.ofNat (dF y))), .val (.ref nu), .val (.ref nx), .val (.int (1 : Int32)), .val (.int (Int32.ofNat (0 + 66)))]) rfl (pc' := 359) rfl ?_
      refine g_goto C d_prog_102_method_1_359 (by decide) (pc' := 259) rfl ?_
      refine g_iload C d_prog_102_method_1_259 rfl (pc' := 261) rfl ?_
      refine g_iload C d_prog_102_method_1_261 rfl (pc' := 263) rfl ?_
      refine g_if_icmpge C d_prog_102_method_1_263 (by decide) (pcT := 362) rfl (pcF := 266) rfl (fun _ => ?_) (fun zz_ => absurd zz_ (by rw [show (1 : Int32) = Int32.ofNat 1 from rfl]; exact fun q => absurd ((lt_n (by omega) (by omega)).1 q) (by omega)))
      have fy67 := (B2).keep K3 (ninS (neA (by omega)) nin0)
      exact k _ br _ _ (by first | exact One.u | exact One.val rfl | assumption) (by first | exact One.u | exact One.val rfl | assumption) hlt (by rw [hbr]; exact Nat.le_refl _) ((((Keep.refl h [bi]).ext X1).wr W2 (Or.inl (by simp))).trans K3 (fun x hx => by cases List.mem_singleton.mp hx; exact Or.inr (by rw [hbr]; exact Nat.le_refl _))) ((fy67).congr fun i hi => by
        by_cases z : i = 0
        · rw [if_pos z, z, upd_same]
        · rw [if_neg z, upd_other z]) (by rw [← hz.1, ← hz.2]; exact B3)
  · have hkd := kd_p hy
    have hd := dF_p hy
    have hz := bo_p p hp
    have hiz := (fun_p hy).2.2.2
    have hkz : (if y = 0 then 1 else 2) = 2 := if_neg (pos_nn hy).2
    rw [hkd] at As Ap
    rw [hiz, hkz] at k
    refine g_iconst C d_prog_102_method_1_256 (x := (0 : Int32)) rfl (pc' := 257) rfl ?_
    refine g_istore C d_prog_102_method_1_257 (Ls' := #[.val (.ref o), .val (.ref av), .val (.ref bv), .val (.int (2 : Int32)), .val (.ref wd), .val (.int (Int32.ofNat (dF y))), .val (.ref nu), .val (.ref nx), .val (.int (0 : Int32)), o9]) rfl (pc' := 259) rfl ?_
    refine g_iload C d_prog_102_method_1_259 rfl (pc' := 261) rfl ?_
    refine g_iload C d_prog_102_method_1_261 rfl (pc' := 263) rfl ?_
    refine g_if_icmpge C d_prog_102_method_1_263 (by decide) (pcT := 362) rfl (pcF := 266) rfl (fun zz_ => absurd (by rw [show (0 : Int32) = Int32.ofNat 0 from rfl]; exact (lt_n (by omega) (by omega)).2 (by omega)) zz_) (fun _ => ?_)
    refine g_aload_n C d_prog_102_method_1_266 rfl rfl (pc' := 267) rfl ?_
    refine g_getfield C (Wx45 hw) Via.refl (Fstarts) d_prog_102_method_1_267 (pc' := 270) rfl ?_
    refine g_iload C d_prog_102_method_1_270 rfl (pc' := 272) rfl ?_
    refine g_iconst C d_prog_102_method_1_272 (x := (1 : Int32)) rfl (pc' := 273) rfl ?_
    refine g_iadd C d_prog_102_method_1_273 (pc' := 274) rfl ?_
    refine g_norm (cells' := 7) (slots' := 332) (st' := [(.int (1 : Int32)), (.ref st)]) (Nat.le_refl _) (Nat.le_refl _) (congrArg (fun z : Int32 => (Value.int z :: [(.ref st)] : List Value)) (by first | decide | exact Nat.le_of_ble_eq_true rfl)) ?_
    refine g_iaload C (As) (by first | decide | exact Nat.le_of_ble_eq_true rfl) (i := 1) rfl (by omega) (v := (.int (65 : Int32))) (rfl) d_prog_102_method_1_274 (pc' := 275) rfl ?_
    refine g_aload_n C d_prog_102_method_1_275 rfl rfl (pc' := 276) rfl ?_
    refine g_getfield C (Wx45 hw) Via.refl (Fstarts) d_prog_102_method_1_276 (pc' := 279) rfl ?_
    refine g_iload C d_prog_102_method_1_279 rfl (pc' := 281) rfl ?_
    refine g_iaload C (As) (by first | decide | exact Nat.le_of_ble_eq_true rfl) (i := 0) rfl (by omega) (v := (.int (0 : Int32))) (rfl) d_prog_102_method_1_281 (pc' := 282) rfl ?_
    refine g_isub C d_prog_102_method_1_282 (pc' := 283) rfl ?_
    refine g_norm (cells' := 7) (slots' := 332) (st' := [(.int (65 : Int32))]) (Nat.le_refl _) (Nat.le_refl _) (congrArg (fun z : Int32 => (Value.int z :: [] : List Value)) (by first | decide | exact Nat.le_of_ble_eq_true rfl)) ?_
    refine g_iload_n C d_prog_102_method_1_283 rfl (pc' := 284) rfl ?_
    refine g_if_icmplt C d_prog_102_method_1_284 (by decide) (pcT := 356) rfl (pcF := 287) rfl (fun zz_ => absurd zz_ (by first | decide | exact Nat.le_of_ble_eq_true rfl)) (fun _ => ?_)
    refine g_aload_n C d_prog_102_method_1_287 rfl rfl (pc' := 288) rfl ?_
    refine g_getfield C (Wx71 hw) Via.refl (Fbits) d_prog_102_method_1_288 (pc' := 291) rfl ?_
    refine g_iload C d_prog_102_method_1_291 rfl (pc' := 293) rfl ?_
    refine g_iload_n C d_prog_102_method_1_293 rfl (pc' := 294) rfl ?_
    refine g_newarrayE C (aty := .long) (n := 2) (Wx73 hw) (ad := "[J") (by first | rfl | decide +kernel) (by first | decide | exact Nat.le_of_ble_eq_true rfl) rfl (by omega) d_prog_102_method_1_294 (pc' := 296) rfl (by first | decide | exact Nat.le_of_ble_eq_true rfl) (Nat.le_trans (show 332 + 2 ≤ 334 by omega) (by first | decide | exact Nat.le_of_ble_eq_true rfl)) ?_
    intro h1 br hbr hbr0 X1 E1 B1
    refine g_norm (cells' := 8) (slots' := 334) (st' := [(.ref br), (.int (0 : Int32)), (.ref bi)]) (by first | decide | exact Nat.le_of_ble_eq_true rfl) (show 332 + 2 ≤ 334 by omega) rfl ?_
    have hlt : @LT.lt Nat instLTNat bi br := by rw [hbr]; exact (Abi).lt
    have fy68 := (Abi).ext X1
    have fy69 := (Ob).ext X1
    refine g_aastore C (fy68) rfl ((fy69).sto fy68 (Ins.self E1)) rfl (by first | decide | exact Nat.le_of_ble_eq_true rfl) (i := 0) rfl (by omega) (Or.inr hbi) d_prog_102_method_1_296 (pc' := 297) rfl ?_
    intro h2 W2 B2
    have B1' : Af Z h2 br .long 2 (two (bo0 (cF 1 p) 0 0) (bo1 (cF 1 p) 0 0)) := (B1.other W2 (neA (by omega))).congr fun j hj => by rcases (show j = 0 ∨ j = 1 by omega) with rfl | rfl <;> rfl
    refine g_aload_n C d_prog_102_method_1_297 rfl rfl (pc' := 298) rfl ?_
    have fy70 := ((Fstarts).ext X1).other W2 (Or.inl (neA (by omega)))
    refine g_getfield C (Wx45 hw) Via.refl (fy70) d_prog_102_method_1_298 (pc' := 301) rfl ?_
    refine g_iload C d_prog_102_method_1_301 rfl (pc' := 303) rfl ?_
    have fy71 := ((As).ext X1).other W2 (neA (by omega))
    refine g_iaload C (fy71) (by first | decide | exact Nat.le_of_ble_eq_true rfl) (i := 0) rfl (by omega) (v := (.int (0 : Int32))) (rfl) d_prog_102_method_1_303 (pc' := 304) rfl ?_
    refine g_istore C d_prog_102_method_1_304 (Ls' := #[.val (.ref o), .val (.ref av), .val (.ref bv), .val (.int (2 : Int32)), .val (.ref wd), .val (.int (Int32.ofNat (dF y))), .val (.ref nu), .val (.ref nx), .val (.int (0 : Int32)), .val (.int (0 : Int32))]) (by rw [XS.store1 (o := o9) rfl ho9 rfl]; rfl) (pc' := 306) rfl ?_
    refine g_loopH (α := Nat) (fun n h' => n ≤ 65 ∧ Keep h2 h' [br] ∧ Af Z h' br .long 2 (two (bo0 (cF 1 p) 0 n) (bo1 (cF 1 p) 0 n))) (fun n => 65 - n) (fun n => #[.val (.ref o), .val (.ref av), .val (.ref bv), .val (.int (2 : Int32)), .val (.ref wd), .val (.int (Int32.ofNat (dF y))), .val (.ref nu), .val (.ref nx), .val (.int (0 : Int32)), .val (.int (Int32.ofNat (0 + n)))]) 0 ⟨Nat.zero_le _, Keep.refl _ _, B1'⟩ rfl ?_
    rintro n h3 ⟨hn, K3, B3⟩ IH
    try dsimp only
    refine g_iload C d_prog_102_method_1_306 rfl (pc' := 308) rfl ?_
    refine g_aload_n C d_prog_102_method_1_308 rfl rfl (pc' := 309) rfl ?_
    have fy72 := (fy70).keep K3 (ninS (neA (by omega)) nin0)
    refine g_getfield C (Wx45 hw) Via.refl (fy72) d_prog_102_method_1_309 (pc' := 312) rfl ?_
    refine g_iload C d_prog_102_method_1_312 rfl (pc' := 314) rfl ?_
    refine g_iconst C d_prog_102_method_1_314 (x := (1 : Int32)) rfl (pc' := 315) rfl ?_
    refine g_iadd C d_prog_102_method_1_315 (pc' := 316) rfl ?_
    refine g_norm (cells' := 8) (slots' := 334) (st' := [(.int (1 : Int32)), (.ref st), (.int (Int32.ofNat (0 + n)))]) (Nat.le_refl _) (Nat.le_refl _) (congrArg (fun z : Int32 => (Value.int z :: [(.ref st), (.int (Int32.ofNat (0 + n)))] : List Value)) (by first | decide | exact Nat.le_of_ble_eq_true rfl)) ?_
    have fy73 := (fy71).keep K3 (ninS (neA (by omega)) nin0)
    refine g_iaload C (fy73) (by first | decide | exact Nat.le_of_ble_eq_true rfl) (i := 1) rfl (by omega) (v := (.int (65 : Int32))) (rfl) d_prog_102_method_1_316 (pc' := 317) rfl ?_
    rcases Nat.lt_or_ge n 65 with hc | hc
    · refine g_if_icmpge C d_prog_102_method_1_317 (by decide) (pcT := 356) rfl (pcF := 320) rfl (fun zz_ => absurd (by rw [show (65 : Int32) = Int32.ofNat 65 from rfl]; exact (lt_n (by omega) (by omega)).2 (by omega)) zz_) (fun _ => ?_)
      have hc6 := (cF_in 1 (by first | decide | exact Nat.le_of_ble_eq_true rfl) p hp (0 + n) (by omega)).1
      refine g_aload_n C d_prog_102_method_1_320 rfl rfl (pc' := 321) rfl ?_
      have fy74 := (((Fbits).ext X1).other W2 (Or.inl (neA (by omega)))).keep K3 (ninS (neA (by omega)) nin0)
      refine g_getfield C (Wx71 hw) Via.refl (fy74) d_prog_102_method_1_321 (pc' := 324) rfl ?_
      refine g_iload C d_prog_102_method_1_324 rfl (pc' := 326) rfl ?_
      have fy75 := (B2).keep K3 (ninS (neA (by omega)) nin0)
      refine g_aaload C (fy75) rfl (by first | decide | exact Nat.le_of_ble_eq_true rfl) (i := 0) rfl (by omega) (v := .ref br) upd_same d_prog_102_method_1_326 (pc' := 327) rfl ?_
      refine g_aload_n C d_prog_102_method_1_327 rfl rfl (pc' := 328) rfl ?_
      have fy76 := (((Fplaces).ext X1).other W2 (Or.inl (neA (by omega)))).keep K3 (ninS (neA (by omega)) nin0)
      refine g_getfield C (Wx47 hw) Via.refl (fy76) d_prog_102_method_1_328 (pc' := 331) rfl ?_
      refine g_iload C d_prog_102_method_1_331 rfl (pc' := 333) rfl ?_
      have fy77 := (((Ap).ext X1).other W2 (neA (by omega))).keep K3 (ninS (neA (by omega)) nin0)
      refine g_iaload C (fy77) (i32_nn (by omega)) (i := (0 + n)) (i32_clamp (by omega)) (by omega) (v := (.int (Int32.ofNat (cF 1 p (0 + n))))) (rfl) d_prog_102_method_1_333 (pc' := 334) rfl ?_
      refine g_bipush C d_prog_102_method_1_334 (x := (6 : Int32)) rfl (pc' := 336) rfl ?_
      refine g_iushr C d_prog_102_method_1_336 (pc' := 337) rfl ?_
      refine g_norm (cells' := 8) (slots' := 334) (st' := [(.int (Int32.ofNat ((cF 1 p (0 + n)) / 64))), (.ref br)]) (Nat.le_refl _) (Nat.le_refl _) (congrArg (fun z : Int32 => (Value.int z :: [(.ref br)] : List Value)) (ush6 _ hc6)) ?_
      refine g_dup2 C d_prog_102_method_1_337 rfl rfl (pc' := 338) rfl ?_
      refine g_laload C (B3) (i32_nn (by omega)) (i := ((cF 1 p (0 + n)) / 64)) (i32_clamp (by omega)) (by omega) (v := (.long (if (cF 1 p (0 + n)) / 64 = 0 then bo0 (cF 1 p) 0 n else bo1 (cF 1 p) 0 n))) (two_at) d_prog_102_method_1_338 (pc' := 339) rfl ?_
      refine g_lconst C d_prog_102_method_1_339 (x := (1 : Int64)) rfl (pc' := 340) rfl ?_
      refine g_aload_n C d_prog_102_method_1_340 rfl rfl (pc' := 341) rfl ?_
      refine g_getfield C (Wx47 hw) Via.refl (fy76) d_prog_102_method_1_341 (pc' := 344) rfl ?_
      refine g_iload C d_prog_102_method_1_344 rfl (pc' := 346) rfl ?_
      refine g_iaload C (fy77) (i32_nn (by omega)) (i := (0 + n)) (i32_clamp (by omega)) (by omega) (v := (.int (Int32.ofNat (cF 1 p (0 + n))))) (rfl) d_prog_102_method_1_346 (pc' := 347) rfl ?_
      refine g_lshl C d_prog_102_method_1_347 (pc' := 348) rfl ?_
      refine g_lor C d_prog_102_method_1_348 (pc' := 349) rfl ?_
      refine g_lastore C (B3) (i32_nn (by omega)) (i := ((cF 1 p (0 + n)) / 64)) (i32_clamp (by omega)) (by omega) (Or.inr hbr0) d_prog_102_method_1_349 (pc' := 350) rfl ?_
      intro h4 W4 B4
      refine g_iinc C d_prog_102_method_1_350 rfl (y := (Int32.ofNat (0 + n + 1))) (i32_succ) (Ls' := #[.val (.ref o), .val (.ref av), .val (.ref bv), .val (.int (2 : Int32)), .val (.ref wd), .val (.int (Int32.ofNat (dF y))), .val (.ref nu), .val (.ref nx), .val (.int (0 : Int32)), .val (.int (Int32.ofNat (0 + n + 1)))]) rfl (pc' := 353) rfl ?_
      refine g_goto C d_prog_102_method_1_353 (by decide) (pc' := 306) rfl ?_
      exact IH (n + 1) h4 ⟨by omega, K3.wr W4 (Or.inl (by simp)), B4.congr fun j hj => by
        refine Eq.trans ?_ (upd_two hj (by omega)).symm
        show two (if (cF 1 p (0 + n)) / 64 = 0 then bo0 (cF 1 p) 0 n ||| bit1 (cF 1 p (0 + n)) else bo0 (cF 1 p) 0 n) (if (cF 1 p (0 + n)) / 64 = 0 then bo1 (cF 1 p) 0 n else bo1 (cF 1 p) 0 n ||| bit1 (cF 1 p (0 + n))) j = two (if (cF 1 p (0 + n)) / 64 = 0 then (if (cF 1 p (0 + n)) / 64 = 0 then bo0 (cF 1 p) 0 n else bo1 (cF 1 p) 0 n) ||| bit1 (cF 1 p (0 + n)) else bo0 (cF 1 p) 0 n) (if (cF 1 p (0 + n)) / 64 = 0 then bo1 (cF 1 p) 0 n else (if (cF 1 p (0 + n)) / 64 = 0 then bo0 (cF 1 p) 0 n else bo1 (cF 1 p) 0 n) ||| bit1 (cF 1 p (0 + n))) j
        by_cases z : (cF 1 p (0 + n)) / 64 = 0
        · simp only [if_pos z]
        · simp only [if_neg z]⟩ (by omega)
    · obtain rfl : n = 65 := by omega
      refine g_if_icmpge C d_prog_102_method_1_317 (by decide) (pcT := 356) rfl (pcF := 320) rfl (fun _ => ?_) (fun zz_ => absurd zz_ (by first | decide | exact Nat.le_of_ble_eq_true rfl))
      refine g_iinc C d_prog_102_method_1_356 rfl (y := (1 : Int32)) (by first | decide | exact Nat.le_of_ble_eq_true rfl) (Ls' := #[.val (.ref o), .val (.ref av), .val (.ref bv), .val (.int (2 : Int32)), .val (.ref wd), .val (.int (Int32.ofNat (dF y))), .val (.ref nu), .val (.ref nx), .val (.int (1 : Int32)), .val (.int (Int32.ofNat (0 + 65)))]) rfl (pc' := 359) rfl ?_
      refine g_goto C d_prog_102_method_1_359 (by decide) (pc' := 259) rfl ?_
      refine g_iload C d_prog_102_method_1_259 rfl (pc' := 261) rfl ?_
      refine g_iload C d_prog_102_method_1_261 rfl (pc' := 263) rfl ?_
      refine g_if_icmpge C d_prog_102_method_1_263 (by decide) (pcT := 362) rfl (pcF := 266) rfl (fun zz_ => absurd (by rw [show (1 : Int32) = Int32.ofNat 1 from rfl]; exact (lt_n (by omega) (by omega)).2 (by omega)) zz_) (fun _ => ?_)
      refine g_aload_n C d_prog_102_method_1_266 rfl rfl (pc' := 267) rfl ?_
      refine g_getfield C (Wx45 hw) Via.refl (fy72) d_prog_102_method_1_267 (pc' := 270) rfl ?_
      refine g_iload C d_prog_102_method_1_270 rfl (pc' := 272) rfl ?_
      refine g_iconst C d_prog_102_method_1_272 (x := (1 : Int32)) rfl (pc' := 273) rfl ?_
      refine g_iadd C d_prog_102_method_1_273 (pc' := 274) rfl ?_
      refine g_norm (cells' := 8) (slots' := 334) (st' := [(.int (2 : Int32)), (.ref st)]) (Nat.le_refl _) (Nat.le_refl _) (congrArg (fun z : Int32 => (Value.int z :: [(.ref st)] : List Value)) (by first | decide | exact Nat.le_of_ble_eq_true rfl)) ?_
      refine g_iaload C (fy73) (by first | decide | exact Nat.le_of_ble_eq_true rfl) (i := 2) rfl (by omega) (v := (.int (66 : Int32))) (rfl) d_prog_102_method_1_274 (pc' := 275) rfl ?_
      refine g_aload_n C d_prog_102_method_1_275 rfl rfl (pc' := 276) rfl ?_
      refine g_getfield C (Wx45 hw) Via.refl (fy72) d_prog_102_method_1_276 (pc' := 279) rfl ?_
      refine g_iload C d_prog_102_method_1_279 rfl (pc' := 281) rfl ?_
      refine g_iaload C (fy73) (by first | decide | exact Nat.le_of_ble_eq_true rfl) (i := 1) rfl (by omega) (v := (.int (65 : Int32))) (rfl) d_prog_102_method_1_281 (pc' := 282) rfl ?_
      refine g_isub C d_prog_102_method_1_282 (pc' := 283) rfl ?_
      refine g_norm (cells' := 8) (slots' := 334) (st' := [(.int (1 : Int32))]) (Nat.le_refl _) (Nat.le_refl _) (congrArg (fun z : Int32 => (Value.int z :: [] : List Value)) (by first | decide | exact Nat.le_of_ble_eq_true rfl)) ?_
      refine g_iload_n C d_prog_102_method_1_283 rfl (pc' := 284) rfl ?_
      refine g_if_icmplt C d_prog_102_method_1_284 (by decide) (pcT := 356) rfl (pcF := 287) rfl (fun _ => ?_) (fun zz_ => absurd (by first | decide | exact Nat.le_of_ble_eq_true rfl) zz_)
      refine g_iinc C d_prog_102_method_1_356 rfl (y := (2 : Int32)) (by first | decide | exact Nat.le_of_ble_eq_true rfl) (Ls' := #[.val (.ref o), .val (.ref av), .val (.ref bv), .val (.int (2 : Int32)), .val (.ref wd), .val (.int (Int32.ofNat (dF y))), .val (.ref nu), .val (.ref nx), .val (.int (2 : Int32)), .val (.int (Int32.ofNat (0 + 65)))]) rfl (pc' := 359) rfl ?_
      refine g_goto C d_prog_102_method_1_359 (by decide) (pc' := 259) rfl ?_
      refine g_iload C d_prog_102_method_1_259 rfl (pc' := 261) rfl ?_
      refine g_iload C d_prog_102_method_1_261 rfl (pc' := 263) rfl ?_
      refine g_if_icmpge C d_prog_102_method_1_263 (by decide) (pcT := 362) rfl (pcF := 266) rfl (fun _ => ?_) (fun zz_ => absurd zz_ (by rw [show (2 : Int32) = Int32.ofNat 2 from rfl]; exact fun q => absurd ((lt_n (by omega) (by omega)).1 q) (by omega)))
      have fy78 := (B2).keep K3 (ninS (neA (by omega)) nin0)
      exact k _ br _ _ (by first | exact One.u | exact One.val rfl | assumption) (by first | exact One.u | exact One.val rfl | assumption) hlt (by rw [hbr]; exact Nat.le_refl _) ((((Keep.refl h [bi]).ext X1).wr W2 (Or.inl (by simp))).trans K3 (fun x hx => by cases List.mem_singleton.mp hx; exact Or.inr (by rw [hbr]; exact Nat.le_refl _))) ((fy78).congr fun i hi => by
        by_cases z : i = 0
        · rw [if_pos z, z, upd_same]
        · rw [if_neg z, upd_other z]) (by rw [← hz.1, ← hz.2]; exact B3)
  · have hkd := kd_n hy
    have hd := dF_n hy
    have hz := bo_n p hp
    have hiz := (fun_n hy).2.2.2
    have hkz : (if y = 0 then 1 else 2) = 2 := if_neg (neg_nn hy).2
    rw [hkd] at As Ap
    rw [hiz, hkz] at k
    refine g_iconst C d_prog_102_method_1_256 (x := (0 : Int32)) rfl (pc' := 257) rfl ?_
    refine g_istore C d_prog_102_method_1_257 (Ls' := #[.val (.ref o), .val (.ref av), .val (.ref bv), .val (.int (2 : Int32)), .val (.ref wd), .val (.int (Int32.ofNat (dF y))), .val (.ref nu), .val (.ref nx), .val (.int (0 : Int32)), o9]) rfl (pc' := 259) rfl ?_
    refine g_iload C d_prog_102_method_1_259 rfl (pc' := 261) rfl ?_
    refine g_iload C d_prog_102_method_1_261 rfl (pc' := 263) rfl ?_
    refine g_if_icmpge C d_prog_102_method_1_263 (by decide) (pcT := 362) rfl (pcF := 266) rfl (fun zz_ => absurd (by rw [show (0 : Int32) = Int32.ofNat 0 from rfl]; exact (lt_n (by omega) (by omega)).2 (by omega)) zz_) (fun _ => ?_)
    refine g_aload_n C d_prog_102_method_1_266 rfl rfl (pc' := 267) rfl ?_
    refine g_getfield C (Wx45 hw) Via.refl (Fstarts) d_prog_102_method_1_267 (pc' := 270) rfl ?_
    refine g_iload C d_prog_102_method_1_270 rfl (pc' := 272) rfl ?_
    refine g_iconst C d_prog_102_method_1_272 (x := (1 : Int32)) rfl (pc' := 273) rfl ?_
    refine g_iadd C d_prog_102_method_1_273 (pc' := 274) rfl ?_
    refine g_norm (cells' := 7) (slots' := 332) (st' := [(.int (1 : Int32)), (.ref st)]) (Nat.le_refl _) (Nat.le_refl _) (congrArg (fun z : Int32 => (Value.int z :: [(.ref st)] : List Value)) (by first | decide | exact Nat.le_of_ble_eq_true rfl)) ?_
    refine g_iaload C (As) (by first | decide | exact Nat.le_of_ble_eq_true rfl) (i := 1) rfl (by omega) (v := (.int (1 : Int32))) (rfl) d_prog_102_method_1_274 (pc' := 275) rfl ?_
    refine g_aload_n C d_prog_102_method_1_275 rfl rfl (pc' := 276) rfl ?_
    refine g_getfield C (Wx45 hw) Via.refl (Fstarts) d_prog_102_method_1_276 (pc' := 279) rfl ?_
    refine g_iload C d_prog_102_method_1_279 rfl (pc' := 281) rfl ?_
    refine g_iaload C (As) (by first | decide | exact Nat.le_of_ble_eq_true rfl) (i := 0) rfl (by omega) (v := (.int (0 : Int32))) (rfl) d_prog_102_method_1_281 (pc' := 282) rfl ?_
    refine g_isub C d_prog_102_method_1_282 (pc' := 283) rfl ?_
    refine g_norm (cells' := 7) (slots' := 332) (st' := [(.int (1 : Int32))]) (Nat.le_refl _) (Nat.le_refl _) (congrArg (fun z : Int32 => (Value.int z :: [] : List Value)) (by first | decide | exact Nat.le_of_ble_eq_true rfl)) ?_
    refine g_iload_n C d_prog_102_method_1_283 rfl (pc' := 284) rfl ?_
    refine g_if_icmplt C d_prog_102_method_1_284 (by decide) (pcT := 356) rfl (pcF := 287) rfl (fun _ => ?_) (fun zz_ => absurd (by first | decide | exact Nat.le_of_ble_eq_true rfl) zz_)
    refine g_iinc C d_prog_102_method_1_356 rfl (y := (1 : Int32)) (by first | decide | exact Nat.le_of_ble_eq_true rfl) (Ls' := #[.val (.ref o), .val (.ref av), .val (.ref bv), .val (.int (2 : Int32)), .val (.ref wd), .val (.int (Int32.ofNat (dF y))), .val (.ref nu), .val (.ref nx), .val (.int (1 : Int32)), o9]) rfl (pc' := 359) rfl ?_
    refine g_goto C d_prog_102_method_1_359 (by decide) (pc' := 259) rfl ?_
    refine g_iload C d_prog_102_method_1_259 rfl (pc' := 261) rfl ?_
    refine g_iload C d_prog_102_method_1_261 rfl (pc' := 263) rfl ?_
    refine g_if_icmpge C d_prog_102_method_1_263 (by decide) (pcT := 362) rfl (pcF := 266) rfl (fun zz_ => absurd (by rw [show (1 : Int32) = Int32.ofNat 1 from rfl]; exact (lt_n (by omega) (by omega)).2 (by omega)) zz_) (fun _ => ?_)
    refine g_aload_n C d_prog_102_method_1_266 rfl rfl (pc' := 267) rfl ?_
    refine g_getfield C (Wx45 hw) Via.refl (Fstarts) d_prog_102_method_1_267 (pc' := 270) rfl ?_
    refine g_iload C d_prog_102_method_1_270 rfl (pc' := 272) rfl ?_
    refine g_iconst C d_prog_102_method_1_272 (x := (1 : Int32)) rfl (pc' := 273) rfl ?_
    refine g_iadd C d_prog_102_method_1_273 (pc' := 274) rfl ?_
    refine g_norm (cells' := 7) (slots' := 332) (st' := [(.int (2 : Int32)), (.ref st)]) (Nat.le_refl _) (Nat.le_refl _) (congrArg (fun z : Int32 => (Value.int z :: [(.ref st)] : List Value)) (by first | decide | exact Nat.le_of_ble_eq_true rfl)) ?_
    refine g_iaload C (As) (by first | decide | exact Nat.le_of_ble_eq_true rfl) (i := 2) rfl (by omega) (v := (.int (66 : Int32))) (rfl) d_prog_102_method_1_274 (pc' := 275) rfl ?_
    refine g_aload_n C d_prog_102_method_1_275 rfl rfl (pc' := 276) rfl ?_
    refine g_getfield C (Wx45 hw) Via.refl (Fstarts) d_prog_102_method_1_276 (pc' := 279) rfl ?_
    refine g_iload C d_prog_102_method_1_279 rfl (pc' := 281) rfl ?_
    refine g_iaload C (As) (by first | decide | exact Nat.le_of_ble_eq_true rfl) (i := 1) rfl (by omega) (v := (.int (1 : Int32))) (rfl) d_prog_102_method_1_281 (pc' := 282) rfl ?_
    refine g_isub C d_prog_102_method_1_282 (pc' := 283) rfl ?_
    refine g_norm (cells' := 7) (slots' := 332) (st' := [(.int (65 : Int32))]) (Nat.le_refl _) (Nat.le_refl _) (congrArg (fun z : Int32 => (Value.int z :: [] : List Value)) (by first | decide | exact Nat.le_of_ble_eq_true rfl)) ?_
    refine g_iload_n C d_prog_102_method_1_283 rfl (pc' := 284) rfl ?_
    refine g_if_icmplt C d_prog_102_method_1_284 (by decide) (pcT := 356) rfl (pcF := 287) rfl (fun zz_ => absurd zz_ (by first | decide | exact Nat.le_of_ble_eq_true rfl)) (fun _ => ?_)
    refine g_aload_n C d_prog_102_method_1_287 rfl rfl (pc' := 288) rfl ?_
    refine g_getfield C (Wx71 hw) Via.refl (Fbits) d_prog_102_method_1_288 (pc' := 291) rfl ?_
    refine g_iload C d_prog_102_method_1_291 rfl (pc' := 293) rfl ?_
    refine g_iload_n C d_prog_102_method_1_293 rfl (pc' := 294) rfl ?_
    refine g_newarrayE C (aty := .long) (n := 2) (Wx73 hw) (ad := "[J") (by first | rfl | decide +kernel) (by first | decide | exact Nat.le_of_ble_eq_true rfl) rfl (by omega) d_prog_102_method_1_294 (pc' := 296) rfl (by first | decide | exact Nat.le_of_ble_eq_true rfl) (Nat.le_trans (show 332 + 2 ≤ 334 by omega) (by first | decide | exact Nat.le_of_ble_eq_true rfl)) ?_
    intro h1 br hbr hbr0 X1 E1 B1
    refine g_norm (cells' := 8) (slots' := 334) (st' := [(.ref br), (.int (1 : Int32)), (.ref bi)]) (by first | decide | exact Nat.le_of_ble_eq_true rfl) (show 332 + 2 ≤ 334 by omega) rfl ?_
    have hlt : @LT.lt Nat instLTNat bi br := by rw [hbr]; exact (Abi).lt
    have fy79 := (Abi).ext X1
    have fy80 := (Ob).ext X1
    refine g_aastore C (fy79) rfl ((fy80).sto fy79 (Ins.self E1)) rfl (by first | decide | exact Nat.le_of_ble_eq_true rfl) (i := 1) rfl (by omega) (Or.inr hbi) d_prog_102_method_1_296 (pc' := 297) rfl ?_
    intro h2 W2 B2
    have B1' : Af Z h2 br .long 2 (two (bo0 (cF 2 p) 1 0) (bo1 (cF 2 p) 1 0)) := (B1.other W2 (neA (by omega))).congr fun j hj => by rcases (show j = 0 ∨ j = 1 by omega) with rfl | rfl <;> rfl
    refine g_aload_n C d_prog_102_method_1_297 rfl rfl (pc' := 298) rfl ?_
    have fy81 := ((Fstarts).ext X1).other W2 (Or.inl (neA (by omega)))
    refine g_getfield C (Wx45 hw) Via.refl (fy81) d_prog_102_method_1_298 (pc' := 301) rfl ?_
    refine g_iload C d_prog_102_method_1_301 rfl (pc' := 303) rfl ?_
    have fy82 := ((As).ext X1).other W2 (neA (by omega))
    refine g_iaload C (fy82) (by first | decide | exact Nat.le_of_ble_eq_true rfl) (i := 1) rfl (by omega) (v := (.int (1 : Int32))) (rfl) d_prog_102_method_1_303 (pc' := 304) rfl ?_
    refine g_istore C d_prog_102_method_1_304 (Ls' := #[.val (.ref o), .val (.ref av), .val (.ref bv), .val (.int (2 : Int32)), .val (.ref wd), .val (.int (Int32.ofNat (dF y))), .val (.ref nu), .val (.ref nx), .val (.int (1 : Int32)), .val (.int (1 : Int32))]) (by rw [XS.store1 (o := o9) rfl ho9 rfl]; rfl) (pc' := 306) rfl ?_
    refine g_loopH (α := Nat) (fun n h' => n ≤ 65 ∧ Keep h2 h' [br] ∧ Af Z h' br .long 2 (two (bo0 (cF 2 p) 1 n) (bo1 (cF 2 p) 1 n))) (fun n => 65 - n) (fun n => #[.val (.ref o), .val (.ref av), .val (.ref bv), .val (.int (2 : Int32)), .val (.ref wd), .val (.int (Int32.ofNat (dF y))), .val (.ref nu), .val (.ref nx), .val (.int (1 : Int32)), .val (.int (Int32.ofNat (1 + n)))]) 0 ⟨Nat.zero_le _, Keep.refl _ _, B1'⟩ rfl ?_
    rintro n h3 ⟨hn, K3, B3⟩ IH
    try dsimp only
    refine g_iload C d_prog_102_method_1_306 rfl (pc' := 308) rfl ?_
    refine g_aload_n C d_prog_102_method_1_308 rfl rfl (pc' := 309) rfl ?_
    have fy83 := (fy81).keep K3 (ninS (neA (by omega)) nin0)
    refine g_getfield C (Wx45 hw) Via.refl (fy83) d_prog_102_method_1_309 (pc' := 312) rfl ?_
    refine g_iload C d_prog_102_method_1_312 rfl (pc' := 314) rfl ?_
    refine g_iconst C d_prog_102_method_1_314 (x := (1 : Int32)) rfl (pc' := 315) rfl ?_
    refine g_iadd C d_prog_102_method_1_315 (pc' := 316) rfl ?_
    refine g_norm (cells' := 8) (slots' := 334) (st' := [(.int (2 : Int32)), (.ref st), (.int (Int32.ofNat (1 + n)))]) (Nat.le_refl _) (Nat.le_refl _) (congrArg (fun z : Int32 => (Value.int z :: [(.ref st), (.int (Int32.ofNat (1 + n)))] : List Value)) (by first | decide | exact Nat.le_of_ble_eq_true rfl)) ?_
    have fy84 := (fy82).keep K3 (ninS (neA (by omega)) nin0)
    refine g_iaload C (fy84) (by first | decide | exact Nat.le_of_ble_eq_true rfl) (i := 2) rfl (by omega) (v := (.int (66 : Int32))) (rfl) d_prog_102_method_1_316 (pc' := 317) rfl ?_
    rcases Nat.lt_or_ge n 65 with hc | hc
    · refine g_if_icmpge C d_prog_102_method_1_317 (by decide) (pcT := 356) rfl (pcF := 320) rfl (fun zz_ => absurd (by rw [show (66 : Int32) = Int32.ofNat 66 from rfl]; exact (lt_n (by omega) (by omega)).2 (by omega)) zz_) (fun _ => ?_)
      have hc6 := (cF_in 2 (by first | decide | exact Nat.le_of_ble_eq_true rfl) p hp (1 + n) (by omega)).1
      refine g_aload_n C d_prog_102_method_1_320 rfl rfl (pc' := 321) rfl ?_
      have fy85 := (((Fbits).ext X1).other W2 (Or.inl (neA (by omega)))).keep K3 (ninS (neA (by omega)) nin0)
      refine g_getfield C (Wx71 hw) Via.refl (fy85) d_prog_102_method_1_321 (pc' := 324) rfl ?_
      refine g_iload C d_prog_102_method_1_324 rfl (pc' := 326) rfl ?_
      have fy86 := (B2).keep K3 (ninS (neA (by omega)) nin0)
      refine g_aaload C (fy86) rfl (by first | decide | exact Nat.le_of_ble_eq_true rfl) (i := 1) rfl (by omega) (v := .ref br) upd_same d_prog_102_method_1_326 (pc' := 327) rfl ?_
      refine g_aload_n C d_prog_102_method_1_327 rfl rfl (pc' := 328) rfl ?_
      have fy87 := (((Fplaces).ext X1).other W2 (Or.inl (neA (by omega)))).keep K3 (ninS (neA (by omega)) nin0)
      refine g_getfield C (Wx47 hw) Via.refl (fy87) d_prog_102_method_1_328 (pc' := 331) rfl ?_
      refine g_iload C d_prog_102_method_1_331 rfl (pc' := 333) rfl ?_
      have fy88 := (((Ap).ext X1).other W2 (neA (by omega))).keep K3 (ninS (neA (by omega)) nin0)
      refine g_iaload C (fy88) (i32_nn (by omega)) (i := (1 + n)) (i32_clamp (by omega)) (by omega) (v := (.int (Int32.ofNat (cF 2 p (1 + n))))) (rfl) d_prog_102_method_1_333 (pc' := 334) rfl ?_
      refine g_bipush C d_prog_102_method_1_334 (x := (6 : Int32)) rfl (pc' := 336) rfl ?_
      refine g_iushr C d_prog_102_method_1_336 (pc' := 337) rfl ?_
      refine g_norm (cells' := 8) (slots' := 334) (st' := [(.int (Int32.ofNat ((cF 2 p (1 + n)) / 64))), (.ref br)]) (Nat.le_refl _) (Nat.le_refl _) (congrArg (fun z : Int32 => (Value.int z :: [(.ref br)] : List Value)) (ush6 _ hc6)) ?_
      refine g_dup2 C d_prog_102_method_1_337 rfl rfl (pc' := 338) rfl ?_
      refine g_laload C (B3) (i32_nn (by omega)) (i := ((cF 2 p (1 + n)) / 64)) (i32_clamp (by omega)) (by omega) (v := (.long (if (cF 2 p (1 + n)) / 64 = 0 then bo0 (cF 2 p) 1 n else bo1 (cF 2 p) 1 n))) (two_at) d_prog_102_method_1_338 (pc' := 339) rfl ?_
      refine g_lconst C d_prog_102_method_1_339 (x := (1 : Int64)) rfl (pc' := 340) rfl ?_
      refine g_aload_n C d_prog_102_method_1_340 rfl rfl (pc' := 341) rfl ?_
      refine g_getfield C (Wx47 hw) Via.refl (fy87) d_prog_102_method_1_341 (pc' := 344) rfl ?_
      refine g_iload C d_prog_102_method_1_344 rfl (pc' := 346) rfl ?_
      refine g_iaload C (fy88) (i32_nn (by omega)) (i := (1 + n)) (i32_clamp (by omega)) (by omega) (v := (.int (Int32.ofNat (cF 2 p (1 + n))))) (rfl) d_prog_102_method_1_346 (pc' := 347) rfl ?_
      refine g_lshl C d_prog_102_method_1_347 (pc' := 348) rfl ?_
      refine g_lor C d_prog_102_method_1_348 (pc' := 349) rfl ?_
      refine g_lastore C (B3) (i32_nn (by omega)) (i := ((cF 2 p (1 + n)) / 64)) (i32_clamp (by omega)) (by omega) (Or.inr hbr0) d_prog_102_method_1_349 (pc' := 350) rfl ?_
      intro h4 W4 B4
      refine g_iinc C d_prog_102_method_1_350 rfl (y := (Int32.ofNat (1 + n + 1))) (i32_succ) (Ls' := #[.val (.ref o), .val (.ref av), .val (.ref bv), .val (.int (2 : Int32)), .val (.ref wd), .val (.int (Int32.ofNat (dF y))), .val (.ref nu), .val (.ref nx), .val (.int (1 : Int32)), .val (.int (Int32.ofNat (1 + n + 1)))]) rfl (pc' := 353) rfl ?_
      refine g_goto C d_prog_102_method_1_353 (by decide) (pc' := 306) rfl ?_
      exact IH (n + 1) h4 ⟨by omega, K3.wr W4 (Or.inl (by simp)), B4.congr fun j hj => by
        refine Eq.trans ?_ (upd_two hj (by omega)).symm
        show two (if (cF 2 p (1 + n)) / 64 = 0 then bo0 (cF 2 p) 1 n ||| bit1 (cF 2 p (1 + n)) else bo0 (cF 2 p) 1 n) (if (cF 2 p (1 + n)) / 64 = 0 then bo1 (cF 2 p) 1 n else bo1 (cF 2 p) 1 n ||| bit1 (cF 2 p (1 + n))) j = two (if (cF 2 p (1 + n)) / 64 = 0 then (if (cF 2 p (1 + n)) / 64 = 0 then bo0 (cF 2 p) 1 n else bo1 (cF 2 p) 1 n) ||| bit1 (cF 2 p (1 + n)) else bo0 (cF 2 p) 1 n) (if (cF 2 p (1 + n)) / 64 = 0 then bo1 (cF 2 p) 1 n else (if (cF 2 p (1 + n)) / 64 = 0 then bo0 (cF 2 p) 1 n else bo1 (cF 2 p) 1 n) ||| bit1 (cF 2 p (1 + n))) j
        by_cases z : (cF 2 p (1 + n)) / 64 = 0
        · simp only [if_pos z]
        · simp only [if_neg z]⟩ (by omega)
    · obtain rfl : n = 65 := by omega
      refine g_if_icmpge C d_prog_102_method_1_317 (by decide) (pcT := 356) rfl (pcF := 320) rfl (fun _ => ?_) (fun zz_ => absurd zz_ (by first | decide | exact Nat.le_of_ble_eq_true rfl))
      refine g_iinc C d_prog_102_method_1_356 rfl (y := (2 : Int32)) (by first | decide | exact Nat.le_of_ble_eq_true rfl) (Ls' := #[.val (.ref o), .val (.ref av), .val (.ref bv), .val (.int (2 : Int32)), .val (.ref wd), .val (.int (Int32.ofNat (dF y))), .val (.ref nu), .val (.ref nx), .val (.int (2 : Int32)), .val (.int (Int32.ofNat (1 + 65)))]) rfl (pc' := 359) rfl ?_
      refine g_goto C d_prog_102_method_1_359 (by decide) (pc' := 259) rfl ?_
      refine g_iload C d_prog_102_method_1_259 rfl (pc' := 261) rfl ?_
      refine g_iload C d_prog_102_method_1_261 rfl (pc' := 263) rfl ?_
      refine g_if_icmpge C d_prog_102_method_1_263 (by decide) (pcT := 362) rfl (pcF := 266) rfl (fun _ => ?_) (fun zz_ => absurd zz_ (by rw [show (2 : Int32) = Int32.ofNat 2 from rfl]; exact fun q => absurd ((lt_n (by omega) (by omega)).1 q) (by omega)))
      have fy89 := (B2).keep K3 (ninS (neA (by omega)) nin0)
      exact k _ br _ _ (by first | exact One.u | exact One.val rfl | assumption) (by first | exact One.u | exact One.val rfl | assumption) hlt (by rw [hbr]; exact Nat.le_refl _) ((((Keep.refl h [bi]).ext X1).wr W2 (Or.inl (by simp))).trans K3 (fun x hx => by cases List.mem_singleton.mp hx; exact Or.inr (by rw [hbr]; exact Nat.le_refl _))) ((fy89).congr fun i hi => by
        by_cases z : i = 1
        · rw [if_pos z, z, upd_same]
        · rw [if_neg z, upd_other z]) (by rw [← hz.1, ← hz.2]; exact B3)
set_option maxRecDepth 65536 in
set_option maxHeartbeats 40000000 in
theorem con_init (l : Launch) (Z : State) (a0 : Array Value) (hw : ∀ d ∈ tables_1, d.before a0 Z = true)  (h : Heap) (x y : Int32) (p : Nat) (hp : p < 66) (o av bv : Addr) (E : Exa Z h o "com/example/corpusmith/corpusmith/ocr/EditRows") (Fm : (Fld Z h o "com/example/corpusmith/corpusmith/ocr/EditRows" "m" "I" (.int 0))) (Fstarts : (Fld Z h o "com/example/corpusmith/corpusmith/ocr/EditRows" "starts" "[I" .null)) (Fplaces : (Fld Z h o "com/example/corpusmith/corpusmith/ocr/EditRows" "places" "[I" .null)) (Fbits : (Fld Z h o "com/example/corpusmith/corpusmith/ocr/EditRows" "bits" "[[J" .null)) (Fa : (Fld Z h o "com/example/corpusmith/corpusmith/ocr/EditRows" "a" "[I" .null)) (Flisted : (Fld Z h o "com/example/corpusmith/corpusmith/ocr/EditRows" "listed" "[J" .null)) (Fplus : (Fld Z h o "com/example/corpusmith/corpusmith/ocr/EditRows" "plus" "[J" .null)) (Fminus : (Fld Z h o "com/example/corpusmith/corpusmith/ocr/EditRows" "minus" "[J" .null)) (Frow : (Fld Z h o "com/example/corpusmith/corpusmith/ocr/EditRows" "row" "I" (.int 0))) (Aav : Af Z h av .int 1 (fun _ => .int x)) (Abv : Af Z h bv .int 66 (one p y)) (Ebv : Exa Z h bv "[I") (c0 : @LT.lt Nat instLTNat av bv) (c1 : @LT.lt Nat instLTNat bv o) : Con l Z [o] (⟨"com/example/corpusmith/corpusmith/ocr/EditRows", "<init>", "([I[I)V"⟩ : MethodName) prog_102_method_1_code 10 (none) ({ frames := 8, cells := 36, slots := 945, locals := 250 } : Room) #[(.ref o), (.ref av), (.ref bv)] h [] (fun v h' => v = none ∧ ∃ (aw : Int32) (aa st pl bi br li pu mi : Addr), Wd x y aw ∧ Exa Z h' o "com/example/corpusmith/corpusmith/ocr/EditRows" ∧ (Fld Z h' o "com/example/corpusmith/corpusmith/ocr/EditRows" "m" "I" (.int 66)) ∧ (Fld Z h' o "com/example/corpusmith/corpusmith/ocr/EditRows" "starts" "[I" (.ref st)) ∧ (Fld Z h' o "com/example/corpusmith/corpusmith/ocr/EditRows" "places" "[I" (.ref pl)) ∧ (Fld Z h' o "com/example/corpusmith/corpusmith/ocr/EditRows" "bits" "[[J" (.ref bi)) ∧ (Fld Z h' o "com/example/corpusmith/corpusmith/ocr/EditRows" "a" "[I" (.ref aa)) ∧ (Fld Z h' o "com/example/corpusmith/corpusmith/ocr/EditRows" "listed" "[J" (.ref li)) ∧ (Fld Z h' o "com/example/corpusmith/corpusmith/ocr/EditRows" "plus" "[J" (.ref pu)) ∧ (Fld Z h' o "com/example/corpusmith/corpusmith/ocr/EditRows" "minus" "[J" (.ref mi)) ∧ (Fld Z h' o "com/example/corpusmith/corpusmith/ocr/EditRows" "row" "I" (.int 0)) ∧ Af Z h' aa .int 1 (fun _ => .int aw) ∧ Af Z h' bi (.array .long) (dF y) (fun i => if i = izF y then .ref br else .null) ∧ Af Z h' br .long 2 (two (sm (if y = 0 then 1 else 2) p).1 (sm (if y = 0 then 1 else 2) p).2) ∧ Af Z h' st .int (dF y + 1) (fun i => .int (Int32.ofNat (s3 (kd y) i))) ∧ Af Z h' pl .int 66 (fun t => .int (Int32.ofNat (cF (kd y) p t))) ∧ Af Z h' li .long 2 (two 0 0) ∧ Af Z h' pu .long 2 (two (-1) (-1)) ∧ Af Z h' mi .long 2 (two 0 0) ∧ @LT.lt Nat instLTNat o st ∧ @LT.lt Nat instLTNat st pl ∧ @LT.lt Nat instLTNat pl bi ∧ @LT.lt Nat instLTNat bi br ∧ @LT.lt Nat instLTNat br aa ∧ @LT.lt Nat instLTNat aa li ∧ @LT.lt Nat instLTNat li pu ∧ @LT.lt Nat instLTNat pu mi ∧ h.size ≤ st) := by
  refine Con.of (plainFor_of_name pn1) (Ls := #[.val (.ref o), .val (.ref av), .val (.ref bv), .unset, .unset, .unset, .unset, .unset, .unset, .unset]) (fun m => by first | (simp [entryFrame, mkF, argsToLocals, Value.category]; done) | rfl) ?_
  intro p_ e_ s_ m_ bel_ mt_ cd_ C
  have hdl := dF_le y
  refine g_aload_n C d_prog_102_method_1_0 rfl rfl (pc' := 1) rfl ?_
  refine g_objinit C (Wx8 hw) (Wx9 hw) (Wx10 hw) rfl (by first | decide | exact Nat.le_of_ble_eq_true rfl) (by first | decide | exact Nat.le_of_ble_eq_true rfl) d_prog_102_method_1_1 (pc' := 4) rfl ?_
  refine g_aload_n C d_prog_102_method_1_4 rfl rfl (pc' := 5) rfl ?_
  refine g_arraylength C (Abv) (z := (66 : Int32)) rfl d_prog_102_method_1_5 (pc' := 6) rfl ?_
  refine g_staticC C (W := 0) (argsL := [(.int (66 : Int32))]) (rest := []) (con_longs l Z a0 hw h) (Wx11 hw) (Wx12 hw) (Wx4 hw) (Wx13 hw) (by first | decide | exact Nat.le_of_ble_eq_true rfl) rfl (lenOf pd9 rfl) rfl (Nat.le_of_eq rfl) d_prog_102_method_1_6 (pc' := 9) rfl (by first | decide | exact Nat.le_of_ble_eq_true rfl) (by first | decide | exact Nat.le_of_ble_eq_true rfl) (fun _ q => nomatch q) (by first | decide | exact Nat.le_of_ble_eq_true rfl) (by first | decide | exact Nat.le_of_ble_eq_true rfl) ?_
  rintro _ hh ⟨rfl, eh_⟩ Kl
  subst hh
  refine g_norm (cells' := 0) (slots' := 0) (st' := [(.int (2 : Int32))]) (by first | decide | exact Nat.le_of_ble_eq_true rfl) (by first | decide | exact Nat.le_of_ble_eq_true rfl) rfl ?_
  refine g_istore_n C d_prog_102_method_1_9 (Ls' := #[.val (.ref o), .val (.ref av), .val (.ref bv), .val (.int (2 : Int32)), .unset, .unset, .unset, .unset, .unset, .unset]) rfl (pc' := 10) rfl ?_
  refine g_aload_n C d_prog_102_method_1_10 rfl rfl (pc' := 11) rfl ?_
  refine g_clone C (Wx14 hw) (Wx15 hw) (Wx19 hw) (Wx17 hw) (Wx18 hw) (Wx20 hw) Abv Ebv rfl d_prog_102_method_1_11 (pc' := 14) rfl (by first | decide | exact Nat.le_of_ble_eq_true rfl) (by first | decide | exact Nat.le_of_ble_eq_true rfl) (by first | decide | exact Nat.le_of_ble_eq_true rfl) (by first | decide | exact Nat.le_of_ble_eq_true rfl) ?_
  intro h1 wd hwd hwd0 X1 Ewd Awd
  have c2 : @LT.lt Nat instLTNat o wd := by rw [hwd]; exact E.lt
  refine g_norm (cells' := 1) (slots' := 66) (st' := [(.ref wd)]) (by first | decide | exact Nat.le_of_ble_eq_true rfl) (by first | decide | exact Nat.le_of_ble_eq_true rfl) rfl ?_
  refine g_checkcast C (Wx21 hw) (Ins.self Ewd) d_prog_102_method_1_14 (pc' := 17) rfl ?_
  refine g_astore C d_prog_102_method_1_17 rfl (Ls' := #[.val (.ref o), .val (.ref av), .val (.ref bv), .val (.int (2 : Int32)), .val (.ref wd), .unset, .unset, .unset, .unset, .unset]) rfl (pc' := 19) rfl ?_
  refine g_aload C d_prog_102_method_1_19 rfl rfl (pc' := 21) rfl ?_
  refine g_staticC C (W := 0) (argsL := [(.ref wd)]) (rest := []) (con_as l Z a0 hw h1 wd p hp y Awd) (Wx23 hw) (Wx24 hw) (Wx25 hw) (Wx26 hw) (by first | decide | exact Nat.le_of_ble_eq_true rfl) rfl (lenOf pd10 rfl) rfl (Nat.le_of_eq rfl) d_prog_102_method_1_21 (pc' := 24) rfl (by first | decide | exact Nat.le_of_ble_eq_true rfl) (by first | decide | exact Nat.le_of_ble_eq_true rfl) (allS (Or.inr hwd0) all0) (by first | decide | exact Nat.le_of_ble_eq_true rfl) (by first | decide | exact Nat.le_of_ble_eq_true rfl) ?_
  rintro _ h2 ⟨rfl, Aw2⟩ K2
  refine g_norm (cells' := 2) (slots' := 193) (st' := []) (by first | decide | exact Nat.le_of_ble_eq_true rfl) (by first | decide | exact Nat.le_of_ble_eq_true rfl) rfl ?_
  refine g_iconst C d_prog_102_method_1_24 (x := (0 : Int32)) rfl (pc' := 25) rfl ?_
  refine g_istore C d_prog_102_method_1_25 (Ls' := #[.val (.ref o), .val (.ref av), .val (.ref bv), .val (.int (2 : Int32)), .val (.ref wd), .val (.int (0 : Int32)), .unset, .unset, .unset, .unset]) rfl (pc' := 27) rfl ?_
  refine g_aload C d_prog_102_method_1_27 rfl rfl (pc' := 29) rfl ?_
  refine g_astore C d_prog_102_method_1_29 rfl (Ls' := #[.val (.ref o), .val (.ref av), .val (.ref bv), .val (.int (2 : Int32)), .val (.ref wd), .val (.int (0 : Int32)), .val (.ref wd), .unset, .unset, .unset]) rfl (pc' := 31) rfl ?_
  refine g_aload C d_prog_102_method_1_31 rfl rfl (pc' := 33) rfl ?_
  refine g_arraylength C (Aw2) (z := (66 : Int32)) rfl d_prog_102_method_1_33 (pc' := 34) rfl ?_
  refine g_istore C d_prog_102_method_1_34 (Ls' := #[.val (.ref o), .val (.ref av), .val (.ref bv), .val (.int (2 : Int32)), .val (.ref wd), .val (.int (0 : Int32)), .val (.ref wd), .val (.int (66 : Int32)), .unset, .unset]) rfl (pc' := 36) rfl ?_
  refine g_iconst C d_prog_102_method_1_36 (x := (0 : Int32)) rfl (pc' := 37) rfl ?_
  refine g_istore C d_prog_102_method_1_37 (Ls' := #[.val (.ref o), .val (.ref av), .val (.ref bv), .val (.int (2 : Int32)), .val (.ref wd), .val (.int (0 : Int32)), .val (.ref wd), .val (.int (66 : Int32)), .val (.int (0 : Int32)), .unset]) rfl (pc' := 39) rfl ?_
  refine st_dist l Z a0 hw C h2 y wd hwd0 Aw2 ?_
  intro h3 W o9 ho9 K3 Aw3 hW0 hW1
  refine g_aload_n C d_prog_102_method_1_86 rfl rfl (pc' := 87) rfl ?_
  refine g_aload_n C d_prog_102_method_1_87 rfl rfl (pc' := 88) rfl ?_
  have fy90 := (((Abv).ext X1).keep K2 (ninS (neA (by omega)) nin0)).keep K3 (ninS (neA (by omega)) nin0)
  refine g_arraylength C (fy90) (z := (66 : Int32)) rfl d_prog_102_method_1_88 (pc' := 89) rfl ?_
  have fy91 := (((Fm).ext X1).keep K2 (ninS (neA (by omega)) nin0)).keep K3 (ninS (neA (by omega)) nin0)
  have fy92 := (((E).ext X1).keep K2).keep K3
  refine g_putfield C (Wx43 hw) Via.refl (v' := (.int (66 : Int32))) (fy91) (fy92) (Or.inr ⟨(Wx44 hw), rfl, rfl⟩) (Wx3 hw) (ty := .int) (by first | decide | exact Nat.le_of_ble_eq_true rfl) rfl rfl (Or.inl (List.mem_cons_self ..)) d_prog_102_method_1_89 (pc' := 92) rfl ?_
  intro h4 Vh4
  refine g_aload_n C d_prog_102_method_1_92 rfl rfl (pc' := 93) rfl ?_
  refine g_iload C d_prog_102_method_1_93 rfl (pc' := 95) rfl ?_
  refine g_iconst C d_prog_102_method_1_95 (x := (1 : Int32)) rfl (pc' := 96) rfl ?_
  refine g_iadd C d_prog_102_method_1_96 (pc' := 97) rfl ?_
  refine g_norm (cells' := 2) (slots' := 193) (st' := [(.int (Int32.ofNat (dF y + 1))), (.ref o)]) (Nat.le_refl _) (Nat.le_refl _) (congrArg (fun z : Int32 => (Value.int z :: [(.ref o)] : List Value)) (i32_succ)) ?_
  have fy93 := (Aw3).other Vh4 (neA (by omega))
  refine g_newarray C (aty := .int) (n := (dF y + 1)) (Wx1 hw) (i32_nn (by omega)) (i32_clamp (by omega)) (by omega) d_prog_102_method_1_97 (pc' := 99) rfl (by first | decide | exact Nat.le_of_ble_eq_true rfl) (Nat.le_trans (show 193 + (dF y + 1) ≤ 196 by omega) (by first | decide | exact Nat.le_of_ble_eq_true rfl)) ?_
  intro h5 st hst hst0 Xh5 Ast0
  refine g_norm (cells' := 3) (slots' := 196) (st' := [(.ref st), (.ref o)]) (by first | decide | exact Nat.le_of_ble_eq_true rfl) (show 193 + (dF y + 1) ≤ 196 by omega) rfl ?_
  have lt_st : @LT.lt Nat instLTNat wd st := by rw [hst]; exact (fy93).lt
  have fy94 := (((((Fstarts).ext X1).keep K2 (ninS (neA (by omega)) nin0)).keep K3 (ninS (neA (by omega)) nin0)).other Vh4 (Or.inr (slot_ne (Or.inr (Wx46 hw)) (Or.inr (Wx44 hw)) (by first | decide | exact Nat.le_of_ble_eq_true rfl) (t := (.array .int)) (by first | decide | exact Nat.le_of_ble_eq_true rfl) (t' := .int) (by first | decide | exact Nat.le_of_ble_eq_true rfl)))).ext Xh5
  have fy95 := ((fy92).wr Vh4).ext Xh5
  refine g_putfield C (Wx45 hw) Via.refl (v' := (.ref st)) (fy94) (fy95) (Or.inr ⟨(Wx46 hw), rfl, rfl⟩) (Wx3 hw) (ty := (.array .int)) (by first | decide | exact Nat.le_of_ble_eq_true rfl) rfl rfl (Or.inl (List.mem_cons_self ..)) d_prog_102_method_1_99 (pc' := 102) rfl ?_
  intro h6 Vh6
  refine g_aload_n C d_prog_102_method_1_102 rfl rfl (pc' := 103) rfl ?_
  refine g_aload_n C d_prog_102_method_1_103 rfl rfl (pc' := 104) rfl ?_
  have fy96 := (((fy90).other Vh4 (neA (by omega))).ext Xh5).other Vh6 (neA (by omega))
  refine g_arraylength C (fy96) (z := (66 : Int32)) rfl d_prog_102_method_1_104 (pc' := 105) rfl ?_
  have fy97 := (Ast0).other Vh6 (neA (by omega))
  refine g_newarray C (aty := .int) (n := 66) (Wx1 hw) (by first | decide | exact Nat.le_of_ble_eq_true rfl) rfl (by first | decide | exact Nat.le_of_ble_eq_true rfl) d_prog_102_method_1_105 (pc' := 107) rfl (by first | decide | exact Nat.le_of_ble_eq_true rfl) (by first | decide | exact Nat.le_of_ble_eq_true rfl) ?_
  intro h7 pl hpl hpl0 Xh7 Apl0
  refine g_norm (cells' := 4) (slots' := 262) (st' := [(.ref pl), (.ref o)]) (by first | decide | exact Nat.le_of_ble_eq_true rfl) (by first | decide | exact Nat.le_of_ble_eq_true rfl) rfl ?_
  have lt_pl : @LT.lt Nat instLTNat st pl := by rw [hpl]; exact (fy97).lt
  have fy98 := (((((((Fplaces).ext X1).keep K2 (ninS (neA (by omega)) nin0)).keep K3 (ninS (neA (by omega)) nin0)).other Vh4 (Or.inr (slot_ne (Or.inr (Wx48 hw)) (Or.inr (Wx44 hw)) (by first | decide | exact Nat.le_of_ble_eq_true rfl) (t := (.array .int)) (by first | decide | exact Nat.le_of_ble_eq_true rfl) (t' := .int) (by first | decide | exact Nat.le_of_ble_eq_true rfl)))).ext Xh5).other Vh6 (Or.inr (slot_ne (Or.inr (Wx48 hw)) (Or.inr (Wx46 hw)) (by first | decide | exact Nat.le_of_ble_eq_true rfl) (t := (.array .int)) (by first | decide | exact Nat.le_of_ble_eq_true rfl) (t' := (.array .int)) (by first | decide | exact Nat.le_of_ble_eq_true rfl)))).ext Xh7
  have fy99 := ((fy95).wr Vh6).ext Xh7
  refine g_putfield C (Wx47 hw) Via.refl (v' := (.ref pl)) (fy98) (fy99) (Or.inr ⟨(Wx48 hw), rfl, rfl⟩) (Wx3 hw) (ty := (.array .int)) (by first | decide | exact Nat.le_of_ble_eq_true rfl) rfl rfl (Or.inl (List.mem_cons_self ..)) d_prog_102_method_1_107 (pc' := 110) rfl ?_
  intro h8 Vh8
  refine g_aload_n C d_prog_102_method_1_110 rfl rfl (pc' := 111) rfl ?_
  have fy100 := ((fy96).ext Xh7).other Vh8 (neA (by omega))
  refine g_arraylength C (fy100) (z := (66 : Int32)) rfl d_prog_102_method_1_111 (pc' := 112) rfl ?_
  have fy101 := (Apl0).other Vh8 (neA (by omega))
  refine g_newarray C (aty := .int) (n := 66) (Wx1 hw) (by first | decide | exact Nat.le_of_ble_eq_true rfl) rfl (by first | decide | exact Nat.le_of_ble_eq_true rfl) d_prog_102_method_1_112 (pc' := 114) rfl (by first | decide | exact Nat.le_of_ble_eq_true rfl) (by first | decide | exact Nat.le_of_ble_eq_true rfl) ?_
  intro h9 nu hnu hnu0 Xh9 Anu0
  refine g_norm (cells' := 5) (slots' := 328) (st' := [(.ref nu)]) (by first | decide | exact Nat.le_of_ble_eq_true rfl) (by first | decide | exact Nat.le_of_ble_eq_true rfl) rfl ?_
  have lt_nu : @LT.lt Nat instLTNat pl nu := by rw [hnu]; exact (fy101).lt
  refine g_astore C d_prog_102_method_1_114 rfl (Ls' := #[.val (.ref o), .val (.ref av), .val (.ref bv), .val (.int (2 : Int32)), .val (.ref wd), .val (.int (Int32.ofNat (dF y))), .val (.ref nu), .val (.int (66 : Int32)), .val (.int (66 : Int32)), o9]) rfl (pc' := 116) rfl ?_
  refine g_iconst C d_prog_102_method_1_116 (x := (0 : Int32)) rfl (pc' := 117) rfl ?_
  refine g_istore C d_prog_102_method_1_117 (Ls' := #[.val (.ref o), .val (.ref av), .val (.ref bv), .val (.int (2 : Int32)), .val (.ref wd), .val (.int (Int32.ofNat (dF y))), .val (.ref nu), .val (.int (0 : Int32)), .val (.int (66 : Int32)), o9]) rfl (pc' := 119) rfl ?_
  have fy102 := (fy100).ext Xh9
  have fy103 := (((((fy93).ext Xh5).other Vh6 (neA (by omega))).ext Xh7).other Vh8 (neA (by omega))).ext Xh9
  have fy104 := ((((fy94).same Vh6).ext Xh7).other Vh8 (Or.inr (slot_ne (Or.inr (Wx46 hw)) (Or.inr (Wx48 hw)) (by first | decide | exact Nat.le_of_ble_eq_true rfl) (t := (.array .int)) (by first | decide | exact Nat.le_of_ble_eq_true rfl) (t' := (.array .int)) (by first | decide | exact Nat.le_of_ble_eq_true rfl)))).ext Xh9
  have fy105 := (((fy97).ext Xh7).other Vh8 (neA (by omega))).ext Xh9
  refine st_num l Z a0 hw C h9 y p hp wd st nu o9 W hnu0 hst0 (fy102) (fy103) hW0 hW1 (fy104) (Anu0) (fy105) c1 c2 lt_st (by omega) ?_
  intro h10 Kh10 An1 As1
  rw [num_n3] at As1
  have fy106 := (fy104).keep Kh10 (ninS (neA (by omega)) (ninS (neA (by omega)) nin0))
  refine st_pre l Z a0 hw C h10 y p hp wd st nu o9 hst0 (fy106) (As1) (by omega) ?_
  intro h11 o7 ho7 Kh11 As2
  refine g_aload_n C d_prog_102_method_1_200 rfl rfl (pc' := 201) rfl ?_
  have fy107 := (fy106).keep Kh11 (ninS (neA (by omega)) nin0)
  refine g_getfield C (Wx45 hw) Via.refl (fy107) d_prog_102_method_1_201 (pc' := 204) rfl ?_
  refine g_iload C d_prog_102_method_1_204 rfl (pc' := 206) rfl ?_
  have fy108 := (An1).keep Kh11 (ninS (neA (by omega)) nin0)
  refine g_staticC C (W := 0) (argsL := [(.ref st), (.int (Int32.ofNat (dF y)))]) (rest := []) (con_cp l Z a0 hw h11 y st _ (As2)) (Wx58 hw) (Wx59 hw) (Wx25 hw) (Wx60 hw) (by first | decide | exact Nat.le_of_ble_eq_true rfl) rfl (lenOf pd11 rfl) rfl (Nat.le_of_eq rfl) d_prog_102_method_1_206 (pc' := 209) rfl (by first | decide | exact Nat.le_of_ble_eq_true rfl) (by first | decide | exact Nat.le_of_ble_eq_true rfl) (fun _ q => nomatch q) (by first | decide | exact Nat.le_of_ble_eq_true rfl) (by first | decide | exact Nat.le_of_ble_eq_true rfl) ?_
  rintro _ h12 ⟨nx, rfl, hnx, Anx⟩ Kh12
  refine g_norm (cells' := 6) (slots' := 330) (st' := [(.ref nx)]) (by first | decide | exact Nat.le_of_ble_eq_true rfl) (by first | decide | exact Nat.le_of_ble_eq_true rfl) rfl ?_
  have lt_nx : @LT.lt Nat instLTNat nu nx := Nat.lt_of_lt_of_le (fy108).lt hnx
  have hnx0 : h.size ≤ nx := by have q1 := (fy108).lt; have q2 := hnu0; omega
  refine g_astore C d_prog_102_method_1_209 rfl (Ls' := #[.val (.ref o), .val (.ref av), .val (.ref bv), .val (.int (2 : Int32)), .val (.ref wd), .val (.int (Int32.ofNat (dF y))), .val (.ref nu), .val (.ref nx), .val (.int (66 : Int32)), o9]) (by rw [XS.store1 (o := o7) rfl ho7 rfl]; rfl) (pc' := 211) rfl ?_
  refine g_iconst C d_prog_102_method_1_211 (x := (0 : Int32)) rfl (pc' := 212) rfl ?_
  refine g_istore C d_prog_102_method_1_212 (Ls' := #[.val (.ref o), .val (.ref av), .val (.ref bv), .val (.int (2 : Int32)), .val (.ref wd), .val (.int (Int32.ofNat (dF y))), .val (.ref nu), .val (.ref nx), .val (.int (0 : Int32)), o9]) rfl (pc' := 214) rfl ?_
  have fy109 := (((fy102).keep Kh10 (ninS (neA (by omega)) (ninS (neA (by omega)) nin0))).keep Kh11 (ninS (neA (by omega)) nin0)).keep Kh12 nin0
  have fy110 := (fy108).keep Kh12 nin0
  have fy111 := (((((fy98).same Vh8).ext Xh9).keep Kh10 (ninS (neA (by omega)) (ninS (neA (by omega)) nin0))).keep Kh11 (ninS (neA (by omega)) nin0)).keep Kh12 nin0
  have fy112 := ((((fy101).ext Xh9).keep Kh10 (ninS (neA (by omega)) (ninS (neA (by omega)) nin0))).keep Kh11 (ninS (neA (by omega)) nin0)).keep Kh12 nin0
  refine st_pla l Z a0 hw C h12 y p hp wd pl nu nx o9 hnx0 hpl0 (fy109) (fy110) (Anx) (fy111) (fy112) c1 (by omega) (by omega) (by omega) ?_
  intro h13 Kh13 Ap1
  refine g_aload_n C d_prog_102_method_1_247 rfl rfl (pc' := 248) rfl ?_
  refine g_iload C d_prog_102_method_1_248 rfl (pc' := 250) rfl ?_
  have fy113 := (fy110).keep Kh13 (ninS (neA (by omega)) (ninS (neA (by omega)) nin0))
  refine g_anewA C (Cn := "[J") (ty := .long) (n := dF y) (by first | rfl | decide +kernel) (Wx69 hw) (Wx70 hw) (i32_nn (by omega)) (i32_clamp (by omega)) (by omega) d_prog_102_method_1_250 (pc' := 253) rfl (by first | decide | exact Nat.le_of_ble_eq_true rfl) (Nat.le_trans (show 330 + dF y ≤ 332 by omega) (by first | decide | exact Nat.le_of_ble_eq_true rfl)) ?_
  intro h14 bi hbi hbi0 Xh14 Abi0 Ob0
  have lt_bi : @LT.lt Nat instLTNat pl bi := by rw [hbi]; exact (Ap1).lt
  refine g_norm (cells' := 7) (slots' := 332) (st' := [(.ref bi), (.ref o)]) (by first | decide | exact Nat.le_of_ble_eq_true rfl) (by show 330 + dF y ≤ 332; omega) rfl ?_
  have fy114 := ((((((((((((((Fbits).ext X1).keep K2 (ninS (neA (by omega)) nin0)).keep K3 (ninS (neA (by omega)) nin0)).other Vh4 (Or.inr (slot_ne (Or.inr (Wx72 hw)) (Or.inr (Wx44 hw)) (by first | decide | exact Nat.le_of_ble_eq_true rfl) (t := (.array (.array .long))) (by first | decide | exact Nat.le_of_ble_eq_true rfl) (t' := .int) (by first | decide | exact Nat.le_of_ble_eq_true rfl)))).ext Xh5).other Vh6 (Or.inr (slot_ne (Or.inr (Wx72 hw)) (Or.inr (Wx46 hw)) (by first | decide | exact Nat.le_of_ble_eq_true rfl) (t := (.array (.array .long))) (by first | decide | exact Nat.le_of_ble_eq_true rfl) (t' := (.array .int)) (by first | decide | exact Nat.le_of_ble_eq_true rfl)))).ext Xh7).other Vh8 (Or.inr (slot_ne (Or.inr (Wx72 hw)) (Or.inr (Wx48 hw)) (by first | decide | exact Nat.le_of_ble_eq_true rfl) (t := (.array (.array .long))) (by first | decide | exact Nat.le_of_ble_eq_true rfl) (t' := (.array .int)) (by first | decide | exact Nat.le_of_ble_eq_true rfl)))).ext Xh9).keep Kh10 (ninS (neA (by omega)) (ninS (neA (by omega)) nin0))).keep Kh11 (ninS (neA (by omega)) nin0)).keep Kh12 nin0).keep Kh13 (ninS (neA (by omega)) (ninS (neA (by omega)) nin0))).ext Xh14
  have fy115 := (((((((fy99).wr Vh8).ext Xh9).keep Kh10).keep Kh11).keep Kh12).keep Kh13).ext Xh14
  refine g_putfield C (Wx71 hw) Via.refl (v' := (.ref bi)) (fy114) (fy115) (Or.inr ⟨(Wx72 hw), rfl, rfl⟩) (Wx3 hw) (ty := (.array (.array .long))) (by first | decide | exact Nat.le_of_ble_eq_true rfl) rfl rfl (Or.inl (List.mem_cons_self ..)) d_prog_102_method_1_253 (pc' := 256) rfl ?_
  intro h15 Vh15
  have fy116 := ((((fy107).keep Kh12 nin0).keep Kh13 (ninS (neA (by omega)) (ninS (neA (by omega)) nin0))).ext Xh14).other Vh15 (Or.inr (slot_ne (Or.inr (Wx46 hw)) (Or.inr (Wx72 hw)) (by first | decide | exact Nat.le_of_ble_eq_true rfl) (t := (.array .int)) (by first | decide | exact Nat.le_of_ble_eq_true rfl) (t' := (.array (.array .long))) (by first | decide | exact Nat.le_of_ble_eq_true rfl)))
  have fy117 := (((fy111).keep Kh13 (ninS (neA (by omega)) (ninS (neA (by omega)) nin0))).ext Xh14).other Vh15 (Or.inr (slot_ne (Or.inr (Wx48 hw)) (Or.inr (Wx72 hw)) (by first | decide | exact Nat.le_of_ble_eq_true rfl) (t := (.array .int)) (by first | decide | exact Nat.le_of_ble_eq_true rfl) (t' := (.array (.array .long))) (by first | decide | exact Nat.le_of_ble_eq_true rfl)))
  have fy118 := ((((As2).keep Kh12 nin0).keep Kh13 (ninS (neA (by omega)) (ninS (neA (by omega)) nin0))).ext Xh14).other Vh15 (neA (by omega))
  have fy119 := ((Ap1).ext Xh14).other Vh15 (neA (by omega))
  have fy120 := (Abi0).other Vh15 (neA (by omega))
  have fy121 := (Ob0).keep (Keep.of_wr Vh15)
  refine st_bits l Z a0 hw C h15 y p hp wd st pl nu nx bi o9 ho9 hbi0 (fy116) (fy117) ((fy114).same Vh15) (fy118) (fy119) (fy120) (fy121) (by omega) lt_pl lt_bi ?_
  intro h16 br o8 o9' ho8 ho9' lt_br hbr0 Kh16 Ab1 Abr1
  refine g_aload_n C d_prog_102_method_1_362 rfl rfl (pc' := 363) rfl ?_
  refine g_aload_n C d_prog_102_method_1_363 rfl rfl (pc' := 364) rfl ?_
  have fy122 := ((((((((((((((((Aav).ext X1).keep K2 (ninS (neA (by omega)) nin0)).keep K3 (ninS (neA (by omega)) nin0)).other Vh4 (neA (by omega))).ext Xh5).other Vh6 (neA (by omega))).ext Xh7).other Vh8 (neA (by omega))).ext Xh9).keep Kh10 (ninS (neA (by omega)) (ninS (neA (by omega)) nin0))).keep Kh11 (ninS (neA (by omega)) nin0)).keep Kh12 nin0).keep Kh13 (ninS (neA (by omega)) (ninS (neA (by omega)) nin0))).ext Xh14).other Vh15 (neA (by omega))).keep Kh16 (ninS (neA (by omega)) nin0)
  refine g_arraylength C (fy122) (z := (1 : Int32)) rfl d_prog_102_method_1_364 (pc' := 365) rfl ?_
  refine g_newarray C (aty := .int) (n := 1) (Wx1 hw) (by first | decide | exact Nat.le_of_ble_eq_true rfl) rfl (by first | decide | exact Nat.le_of_ble_eq_true rfl) d_prog_102_method_1_365 (pc' := 367) rfl (by first | decide | exact Nat.le_of_ble_eq_true rfl) (by first | decide | exact Nat.le_of_ble_eq_true rfl) ?_
  intro h17 aa haa haa0 Xh17 Aa0
  refine g_norm (cells' := 9) (slots' := 335) (st' := [(.ref aa), (.ref o)]) (by first | decide | exact Nat.le_of_ble_eq_true rfl) (by first | decide | exact Nat.le_of_ble_eq_true rfl) rfl ?_
  have lt_aa : @LT.lt Nat instLTNat br aa := by rw [haa]; exact (Abr1).lt
  have fy123 := (((((((((((((((((Fa).ext X1).keep K2 (ninS (neA (by omega)) nin0)).keep K3 (ninS (neA (by omega)) nin0)).other Vh4 (Or.inr (slot_ne (Or.inr (Wx76 hw)) (Or.inr (Wx44 hw)) (by first | decide | exact Nat.le_of_ble_eq_true rfl) (t := (.array .int)) (by first | decide | exact Nat.le_of_ble_eq_true rfl) (t' := .int) (by first | decide | exact Nat.le_of_ble_eq_true rfl)))).ext Xh5).other Vh6 (Or.inr (slot_ne (Or.inr (Wx76 hw)) (Or.inr (Wx46 hw)) (by first | decide | exact Nat.le_of_ble_eq_true rfl) (t := (.array .int)) (by first | decide | exact Nat.le_of_ble_eq_true rfl) (t' := (.array .int)) (by first | decide | exact Nat.le_of_ble_eq_true rfl)))).ext Xh7).other Vh8 (Or.inr (slot_ne (Or.inr (Wx76 hw)) (Or.inr (Wx48 hw)) (by first | decide | exact Nat.le_of_ble_eq_true rfl) (t := (.array .int)) (by first | decide | exact Nat.le_of_ble_eq_true rfl) (t' := (.array .int)) (by first | decide | exact Nat.le_of_ble_eq_true rfl)))).ext Xh9).keep Kh10 (ninS (neA (by omega)) (ninS (neA (by omega)) nin0))).keep Kh11 (ninS (neA (by omega)) nin0)).keep Kh12 nin0).keep Kh13 (ninS (neA (by omega)) (ninS (neA (by omega)) nin0))).ext Xh14).other Vh15 (Or.inr (slot_ne (Or.inr (Wx76 hw)) (Or.inr (Wx72 hw)) (by first | decide | exact Nat.le_of_ble_eq_true rfl) (t := (.array .int)) (by first | decide | exact Nat.le_of_ble_eq_true rfl) (t' := (.array (.array .long))) (by first | decide | exact Nat.le_of_ble_eq_true rfl)))).keep Kh16 (ninS (neA (by omega)) nin0)).ext Xh17
  have fy124 := (((fy115).wr Vh15).keep Kh16).ext Xh17
  refine g_putfield C (Wx75 hw) Via.refl (v' := (.ref aa)) (fy123) (fy124) (Or.inr ⟨(Wx76 hw), rfl, rfl⟩) (Wx3 hw) (ty := (.array .int)) (by first | decide | exact Nat.le_of_ble_eq_true rfl) rfl rfl (Or.inl (List.mem_cons_self ..)) d_prog_102_method_1_367 (pc' := 370) rfl ?_
  intro h18 Vh18
  refine g_iconst C d_prog_102_method_1_370 (x := (0 : Int32)) rfl (pc' := 371) rfl ?_
  refine g_istore C d_prog_102_method_1_371 (Ls' := #[.val (.ref o), .val (.ref av), .val (.ref bv), .val (.int (2 : Int32)), .val (.ref wd), .val (.int (Int32.ofNat (dF y))), .val (.ref nu), .val (.ref nx), .val (.int (0 : Int32)), o9']) (by rw [XS.store1 (o := o8) rfl ho8 rfl]; rfl) (pc' := 373) rfl ?_
  refine g_iload C d_prog_102_method_1_373 rfl (pc' := 375) rfl ?_
  refine g_aload_n C d_prog_102_method_1_375 rfl rfl (pc' := 376) rfl ?_
  have fy125 := ((fy122).ext Xh17).other Vh18 (neA (by omega))
  refine g_arraylength C (fy125) (z := (1 : Int32)) rfl d_prog_102_method_1_376 (pc' := 377) rfl ?_
  refine g_if_icmpge C d_prog_102_method_1_377 (by decide) (pcT := 409) rfl (pcF := 380) rfl (fun zz_ => absurd (by first | decide | exact Nat.le_of_ble_eq_true rfl) zz_) (fun _ => ?_)
  refine g_aload_n C d_prog_102_method_1_380 rfl rfl (pc' := 381) rfl ?_
  refine g_getfield C (Wx75 hw) Via.refl ((fy123).same Vh18) d_prog_102_method_1_381 (pc' := 384) rfl ?_
  refine g_iload C d_prog_102_method_1_384 rfl (pc' := 386) rfl ?_
  refine g_iconst C d_prog_102_method_1_386 (x := (-1 : Int32)) rfl (pc' := 387) rfl ?_
  refine g_aload C d_prog_102_method_1_387 rfl rfl (pc' := 389) rfl ?_
  refine g_iconst C d_prog_102_method_1_389 (x := (0 : Int32)) rfl (pc' := 390) rfl ?_
  refine g_iload C d_prog_102_method_1_390 rfl (pc' := 392) rfl ?_
  refine g_aload_n C d_prog_102_method_1_392 rfl rfl (pc' := 393) rfl ?_
  refine g_iload C d_prog_102_method_1_393 rfl (pc' := 395) rfl ?_
  refine g_iaload C (fy125) (by first | decide | exact Nat.le_of_ble_eq_true rfl) (i := 0) rfl (by first | decide | exact Nat.le_of_ble_eq_true rfl) (v := (.int x)) (rfl) d_prog_102_method_1_395 (pc' := 396) rfl ?_
  have fy126 := (((((((((fy103).keep Kh10 (ninS (neA (by omega)) (ninS (neA (by omega)) nin0))).keep Kh11 (ninS (neA (by omega)) nin0)).keep Kh12 nin0).keep Kh13 (ninS (neA (by omega)) (ninS (neA (by omega)) nin0))).ext Xh14).other Vh15 (neA (by omega))).keep Kh16 (ninS (neA (by omega)) nin0)).ext Xh17).other Vh18 (neA (by omega))
  refine g_staticC C (W := 3) (argsL := [(.ref wd), (.int (0 : Int32)), (.int (Int32.ofNat (dF y))), (.int x)]) (rest := [(.int (-1 : Int32)), (.int (0 : Int32)), (.ref aa)]) (con_bs l Z a0 hw h18 y x wd W (fy126) hW0 hW1) (Wx49 hw) (Wx50 hw) (Wx25 hw) (Wx51 hw) (by first | decide | exact Nat.le_of_ble_eq_true rfl) rfl (lenOf pd1 rfl) rfl (Nat.le_of_eq rfl) d_prog_102_method_1_396 (pc' := 399) rfl (by first | decide | exact Nat.le_of_ble_eq_true rfl) (by first | decide | exact Nat.le_of_ble_eq_true rfl) (fun _ q => nomatch q) (by first | decide | exact Nat.le_of_ble_eq_true rfl) (by first | decide | exact Nat.le_of_ble_eq_true rfl) ?_
  rintro _ hh ⟨⟨r, rfl, B⟩, eh_⟩ Kb
  subst hh
  refine g_norm (cells' := 9) (slots' := 335) (st' := [(.int r), (.int (-1 : Int32)), (.int (0 : Int32)), (.ref aa)]) (by first | decide | exact Nat.le_of_ble_eq_true rfl) (by first | decide | exact Nat.le_of_ble_eq_true rfl) rfl ?_
  refine g_staticC C (W := 2) (argsL := [(.int (-1 : Int32)), (.int r)]) (rest := [(.int (0 : Int32)), (.ref aa)]) (con_max l Z a0 hw h18 (-1) r) (Wx77 hw) (Wx78 hw) (Wx63 hw) (Wx79 hw) (by first | decide | exact Nat.le_of_ble_eq_true rfl) rfl (lenOf pd2 rfl) rfl (Nat.le_of_eq rfl) d_prog_102_method_1_399 (pc' := 402) rfl (by first | decide | exact Nat.le_of_ble_eq_true rfl) (by first | decide | exact Nat.le_of_ble_eq_true rfl) (fun _ q => nomatch q) (by first | decide | exact Nat.le_of_ble_eq_true rfl) (by first | decide | exact Nat.le_of_ble_eq_true rfl) ?_
  rintro _ hh ⟨rfl, eh_⟩ Km
  subst hh
  refine g_norm (cells' := 9) (slots' := 335) (st' := [(.int (if (-1 : Int32) < r then r else -1)), (.int (0 : Int32)), (.ref aa)]) (by first | decide | exact Nat.le_of_ble_eq_true rfl) (by first | decide | exact Nat.le_of_ble_eq_true rfl) rfl ?_
  have fy127 := (Aa0).other Vh18 (neA (by omega))
  refine g_iastore C (fy127) (by first | decide | exact Nat.le_of_ble_eq_true rfl) (i := 0) rfl (by first | decide | exact Nat.le_of_ble_eq_true rfl) (Or.inr haa0) d_prog_102_method_1_402 (pc' := 403) rfl ?_
  intro h19 Vh19 Aa1
  have Aa2 : Af Z h19 aa .int 1 (fun _ => .int (if (-1 : Int32) < r then r else -1)) := Aa1.congr fun i hi => by rcases (show i = 0 by omega) with rfl; rfl
  refine g_iinc C d_prog_102_method_1_403 rfl (y := (1 : Int32)) (by first | decide | exact Nat.le_of_ble_eq_true rfl) (Ls' := #[.val (.ref o), .val (.ref av), .val (.ref bv), .val (.int (2 : Int32)), .val (.ref wd), .val (.int (Int32.ofNat (dF y))), .val (.ref nu), .val (.ref nx), .val (.int (1 : Int32)), o9']) rfl (pc' := 406) rfl ?_
  refine g_goto C d_prog_102_method_1_406 (by decide) (pc' := 373) rfl ?_
  refine g_iload C d_prog_102_method_1_373 rfl (pc' := 375) rfl ?_
  refine g_aload_n C d_prog_102_method_1_375 rfl rfl (pc' := 376) rfl ?_
  have fy128 := (fy125).other Vh19 (neA (by omega))
  refine g_arraylength C (fy128) (z := (1 : Int32)) rfl d_prog_102_method_1_376 (pc' := 377) rfl ?_
  refine g_if_icmpge C d_prog_102_method_1_377 (by decide) (pcT := 409) rfl (pcF := 380) rfl (fun _ => ?_) (fun zz_ => absurd zz_ (by first | decide | exact Nat.le_of_ble_eq_true rfl))
  refine g_aload_n C d_prog_102_method_1_409 rfl rfl (pc' := 410) rfl ?_
  refine g_iload_n C d_prog_102_method_1_410 rfl (pc' := 411) rfl ?_
  refine g_newarray C (aty := .long) (n := 2) (Wx73 hw) (by first | decide | exact Nat.le_of_ble_eq_true rfl) rfl (by first | decide | exact Nat.le_of_ble_eq_true rfl) d_prog_102_method_1_411 (pc' := 413) rfl (by first | decide | exact Nat.le_of_ble_eq_true rfl) (by first | decide | exact Nat.le_of_ble_eq_true rfl) ?_
  intro h20 li hli hli0 Xh20 Al0
  refine g_norm (cells' := 10) (slots' := 337) (st' := [(.ref li), (.ref o)]) (by first | decide | exact Nat.le_of_ble_eq_true rfl) (by first | decide | exact Nat.le_of_ble_eq_true rfl) rfl ?_
  have lt_li : @LT.lt Nat instLTNat aa li := by rw [hli]; exact (Aa2).lt
  have Al1 : Af Z h20 li .long 2 (two 0 0) := Al0.congr fun i hi => by rcases (show i = 0 ∨ i = 1 by omega) with rfl | rfl <;> rfl
  have fy129 := ((((((((((((((((((((Flisted).ext X1).keep K2 (ninS (neA (by omega)) nin0)).keep K3 (ninS (neA (by omega)) nin0)).other Vh4 (Or.inr (slot_ne (Or.inr (Wx81 hw)) (Or.inr (Wx44 hw)) (by first | decide | exact Nat.le_of_ble_eq_true rfl) (t := (.array .long)) (by first | decide | exact Nat.le_of_ble_eq_true rfl) (t' := .int) (by first | decide | exact Nat.le_of_ble_eq_true rfl)))).ext Xh5).other Vh6 (Or.inr (slot_ne (Or.inr (Wx81 hw)) (Or.inr (Wx46 hw)) (by first | decide | exact Nat.le_of_ble_eq_true rfl) (t := (.array .long)) (by first | decide | exact Nat.le_of_ble_eq_true rfl) (t' := (.array .int)) (by first | decide | exact Nat.le_of_ble_eq_true rfl)))).ext Xh7).other Vh8 (Or.inr (slot_ne (Or.inr (Wx81 hw)) (Or.inr (Wx48 hw)) (by first | decide | exact Nat.le_of_ble_eq_true rfl) (t := (.array .long)) (by first | decide | exact Nat.le_of_ble_eq_true rfl) (t' := (.array .int)) (by first | decide | exact Nat.le_of_ble_eq_true rfl)))).ext Xh9).keep Kh10 (ninS (neA (by omega)) (ninS (neA (by omega)) nin0))).keep Kh11 (ninS (neA (by omega)) nin0)).keep Kh12 nin0).keep Kh13 (ninS (neA (by omega)) (ninS (neA (by omega)) nin0))).ext Xh14).other Vh15 (Or.inr (slot_ne (Or.inr (Wx81 hw)) (Or.inr (Wx72 hw)) (by first | decide | exact Nat.le_of_ble_eq_true rfl) (t := (.array .long)) (by first | decide | exact Nat.le_of_ble_eq_true rfl) (t' := (.array (.array .long))) (by first | decide | exact Nat.le_of_ble_eq_true rfl)))).keep Kh16 (ninS (neA (by omega)) nin0)).ext Xh17).other Vh18 (Or.inr (slot_ne (Or.inr (Wx81 hw)) (Or.inr (Wx76 hw)) (by first | decide | exact Nat.le_of_ble_eq_true rfl) (t := (.array .long)) (by first | decide | exact Nat.le_of_ble_eq_true rfl) (t' := (.array .int)) (by first | decide | exact Nat.le_of_ble_eq_true rfl)))).other Vh19 (Or.inl (neA (by omega)))).ext Xh20
  have fy130 := (((fy124).wr Vh18).wr Vh19).ext Xh20
  refine g_putfield C (Wx80 hw) Via.refl (v' := (.ref li)) (fy129) (fy130) (Or.inr ⟨(Wx81 hw), rfl, rfl⟩) (Wx3 hw) (ty := (.array .long)) (by first | decide | exact Nat.le_of_ble_eq_true rfl) rfl rfl (Or.inl (List.mem_cons_self ..)) d_prog_102_method_1_413 (pc' := 416) rfl ?_
  intro h21 Vh21
  refine g_aload_n C d_prog_102_method_1_416 rfl rfl (pc' := 417) rfl ?_
  refine g_iload_n C d_prog_102_method_1_417 rfl (pc' := 418) rfl ?_
  have fy131 := (Al1).other Vh21 (neA (by omega))
  refine g_newarray C (aty := .long) (n := 2) (Wx73 hw) (by first | decide | exact Nat.le_of_ble_eq_true rfl) rfl (by first | decide | exact Nat.le_of_ble_eq_true rfl) d_prog_102_method_1_418 (pc' := 420) rfl (by first | decide | exact Nat.le_of_ble_eq_true rfl) (by first | decide | exact Nat.le_of_ble_eq_true rfl) ?_
  intro h22 pu hpu hpu0 Xh22 Au0
  refine g_norm (cells' := 11) (slots' := 339) (st' := [(.ref pu), (.ref o)]) (by first | decide | exact Nat.le_of_ble_eq_true rfl) (by first | decide | exact Nat.le_of_ble_eq_true rfl) rfl ?_
  have lt_pu : @LT.lt Nat instLTNat li pu := by rw [hpu]; exact (fy131).lt
  have Au1 : Af Z h22 pu .long 2 (two 0 0) := Au0.congr fun i hi => by rcases (show i = 0 ∨ i = 1 by omega) with rfl | rfl <;> rfl
  have fy132 := ((((((((((((((((((((((Fplus).ext X1).keep K2 (ninS (neA (by omega)) nin0)).keep K3 (ninS (neA (by omega)) nin0)).other Vh4 (Or.inr (slot_ne (Or.inr (Wx83 hw)) (Or.inr (Wx44 hw)) (by first | decide | exact Nat.le_of_ble_eq_true rfl) (t := (.array .long)) (by first | decide | exact Nat.le_of_ble_eq_true rfl) (t' := .int) (by first | decide | exact Nat.le_of_ble_eq_true rfl)))).ext Xh5).other Vh6 (Or.inr (slot_ne (Or.inr (Wx83 hw)) (Or.inr (Wx46 hw)) (by first | decide | exact Nat.le_of_ble_eq_true rfl) (t := (.array .long)) (by first | decide | exact Nat.le_of_ble_eq_true rfl) (t' := (.array .int)) (by first | decide | exact Nat.le_of_ble_eq_true rfl)))).ext Xh7).other Vh8 (Or.inr (slot_ne (Or.inr (Wx83 hw)) (Or.inr (Wx48 hw)) (by first | decide | exact Nat.le_of_ble_eq_true rfl) (t := (.array .long)) (by first | decide | exact Nat.le_of_ble_eq_true rfl) (t' := (.array .int)) (by first | decide | exact Nat.le_of_ble_eq_true rfl)))).ext Xh9).keep Kh10 (ninS (neA (by omega)) (ninS (neA (by omega)) nin0))).keep Kh11 (ninS (neA (by omega)) nin0)).keep Kh12 nin0).keep Kh13 (ninS (neA (by omega)) (ninS (neA (by omega)) nin0))).ext Xh14).other Vh15 (Or.inr (slot_ne (Or.inr (Wx83 hw)) (Or.inr (Wx72 hw)) (by first | decide | exact Nat.le_of_ble_eq_true rfl) (t := (.array .long)) (by first | decide | exact Nat.le_of_ble_eq_true rfl) (t' := (.array (.array .long))) (by first | decide | exact Nat.le_of_ble_eq_true rfl)))).keep Kh16 (ninS (neA (by omega)) nin0)).ext Xh17).other Vh18 (Or.inr (slot_ne (Or.inr (Wx83 hw)) (Or.inr (Wx76 hw)) (by first | decide | exact Nat.le_of_ble_eq_true rfl) (t := (.array .long)) (by first | decide | exact Nat.le_of_ble_eq_true rfl) (t' := (.array .int)) (by first | decide | exact Nat.le_of_ble_eq_true rfl)))).other Vh19 (Or.inl (neA (by omega)))).ext Xh20).other Vh21 (Or.inr (slot_ne (Or.inr (Wx83 hw)) (Or.inr (Wx81 hw)) (by first | decide | exact Nat.le_of_ble_eq_true rfl) (t := (.array .long)) (by first | decide | exact Nat.le_of_ble_eq_true rfl) (t' := (.array .long)) (by first | decide | exact Nat.le_of_ble_eq_true rfl)))).ext Xh22
  have fy133 := ((fy130).wr Vh21).ext Xh22
  refine g_putfield C (Wx82 hw) Via.refl (v' := (.ref pu)) (fy132) (fy133) (Or.inr ⟨(Wx83 hw), rfl, rfl⟩) (Wx3 hw) (ty := (.array .long)) (by first | decide | exact Nat.le_of_ble_eq_true rfl) rfl rfl (Or.inl (List.mem_cons_self ..)) d_prog_102_method_1_420 (pc' := 423) rfl ?_
  intro h23 Vh23
  refine g_aload_n C d_prog_102_method_1_423 rfl rfl (pc' := 424) rfl ?_
  refine g_iload_n C d_prog_102_method_1_424 rfl (pc' := 425) rfl ?_
  have fy134 := (Au1).other Vh23 (neA (by omega))
  refine g_newarray C (aty := .long) (n := 2) (Wx73 hw) (by first | decide | exact Nat.le_of_ble_eq_true rfl) rfl (by first | decide | exact Nat.le_of_ble_eq_true rfl) d_prog_102_method_1_425 (pc' := 427) rfl (by first | decide | exact Nat.le_of_ble_eq_true rfl) (by first | decide | exact Nat.le_of_ble_eq_true rfl) ?_
  intro h24 mi hmi hmi0 Xh24 An0
  refine g_norm (cells' := 12) (slots' := 341) (st' := [(.ref mi), (.ref o)]) (by first | decide | exact Nat.le_of_ble_eq_true rfl) (by first | decide | exact Nat.le_of_ble_eq_true rfl) rfl ?_
  have lt_mi : @LT.lt Nat instLTNat pu mi := by rw [hmi]; exact (fy134).lt
  have An1 : Af Z h24 mi .long 2 (two 0 0) := An0.congr fun i hi => by rcases (show i = 0 ∨ i = 1 by omega) with rfl | rfl <;> rfl
  have fy135 := ((((((((((((((((((((((((Fminus).ext X1).keep K2 (ninS (neA (by omega)) nin0)).keep K3 (ninS (neA (by omega)) nin0)).other Vh4 (Or.inr (slot_ne (Or.inr (Wx85 hw)) (Or.inr (Wx44 hw)) (by first | decide | exact Nat.le_of_ble_eq_true rfl) (t := (.array .long)) (by first | decide | exact Nat.le_of_ble_eq_true rfl) (t' := .int) (by first | decide | exact Nat.le_of_ble_eq_true rfl)))).ext Xh5).other Vh6 (Or.inr (slot_ne (Or.inr (Wx85 hw)) (Or.inr (Wx46 hw)) (by first | decide | exact Nat.le_of_ble_eq_true rfl) (t := (.array .long)) (by first | decide | exact Nat.le_of_ble_eq_true rfl) (t' := (.array .int)) (by first | decide | exact Nat.le_of_ble_eq_true rfl)))).ext Xh7).other Vh8 (Or.inr (slot_ne (Or.inr (Wx85 hw)) (Or.inr (Wx48 hw)) (by first | decide | exact Nat.le_of_ble_eq_true rfl) (t := (.array .long)) (by first | decide | exact Nat.le_of_ble_eq_true rfl) (t' := (.array .int)) (by first | decide | exact Nat.le_of_ble_eq_true rfl)))).ext Xh9).keep Kh10 (ninS (neA (by omega)) (ninS (neA (by omega)) nin0))).keep Kh11 (ninS (neA (by omega)) nin0)).keep Kh12 nin0).keep Kh13 (ninS (neA (by omega)) (ninS (neA (by omega)) nin0))).ext Xh14).other Vh15 (Or.inr (slot_ne (Or.inr (Wx85 hw)) (Or.inr (Wx72 hw)) (by first | decide | exact Nat.le_of_ble_eq_true rfl) (t := (.array .long)) (by first | decide | exact Nat.le_of_ble_eq_true rfl) (t' := (.array (.array .long))) (by first | decide | exact Nat.le_of_ble_eq_true rfl)))).keep Kh16 (ninS (neA (by omega)) nin0)).ext Xh17).other Vh18 (Or.inr (slot_ne (Or.inr (Wx85 hw)) (Or.inr (Wx76 hw)) (by first | decide | exact Nat.le_of_ble_eq_true rfl) (t := (.array .long)) (by first | decide | exact Nat.le_of_ble_eq_true rfl) (t' := (.array .int)) (by first | decide | exact Nat.le_of_ble_eq_true rfl)))).other Vh19 (Or.inl (neA (by omega)))).ext Xh20).other Vh21 (Or.inr (slot_ne (Or.inr (Wx85 hw)) (Or.inr (Wx81 hw)) (by first | decide | exact Nat.le_of_ble_eq_true rfl) (t := (.array .long)) (by first | decide | exact Nat.le_of_ble_eq_true rfl) (t' := (.array .long)) (by first | decide | exact Nat.le_of_ble_eq_true rfl)))).ext Xh22).other Vh23 (Or.inr (slot_ne (Or.inr (Wx85 hw)) (Or.inr (Wx83 hw)) (by first | decide | exact Nat.le_of_ble_eq_true rfl) (t := (.array .long)) (by first | decide | exact Nat.le_of_ble_eq_true rfl) (t' := (.array .long)) (by first | decide | exact Nat.le_of_ble_eq_true rfl)))).ext Xh24
  have fy136 := ((fy133).wr Vh23).ext Xh24
  refine g_putfield C (Wx84 hw) Via.refl (v' := (.ref mi)) (fy135) (fy136) (Or.inr ⟨(Wx85 hw), rfl, rfl⟩) (Wx3 hw) (ty := (.array .long)) (by first | decide | exact Nat.le_of_ble_eq_true rfl) rfl rfl (Or.inl (List.mem_cons_self ..)) d_prog_102_method_1_427 (pc' := 430) rfl ?_
  intro h25 Vh25
  refine g_aload_n C d_prog_102_method_1_430 rfl rfl (pc' := 431) rfl ?_
  have fy137 := (((fy132).same Vh23).ext Xh24).other Vh25 (Or.inr (slot_ne (Or.inr (Wx83 hw)) (Or.inr (Wx85 hw)) (by first | decide | exact Nat.le_of_ble_eq_true rfl) (t := (.array .long)) (by first | decide | exact Nat.le_of_ble_eq_true rfl) (t' := (.array .long)) (by first | decide | exact Nat.le_of_ble_eq_true rfl)))
  refine g_getfield C (Wx82 hw) Via.refl (fy137) d_prog_102_method_1_431 (pc' := 434) rfl ?_
  refine g_ldc2Long C (Wx86 hw) d_prog_102_method_1_434 (pc' := 437) rfl ?_
  have fy138 := ((fy134).ext Xh24).other Vh25 (neA (by omega))
  refine g_staticC C (W := 0) (argsL := [(.ref pu), (.long (-1 : Int64))]) (rest := []) (con_fill l Z a0 hw h25 pu (-1) _ (fy138)) (Wx87 hw) (Wx88 hw) (Wx25 hw) (Wx89 hw) (by first | decide | exact Nat.le_of_ble_eq_true rfl) rfl (lenOf pd12 rfl) rfl (Nat.le_of_eq rfl) d_prog_102_method_1_437 (pc' := 440) rfl (by first | decide | exact Nat.le_of_ble_eq_true rfl) (by first | decide | exact Nat.le_of_ble_eq_true rfl) (allS (Or.inr hpu0) all0) (by first | decide | exact Nat.le_of_ble_eq_true rfl) (by first | decide | exact Nat.le_of_ble_eq_true rfl) ?_
  rintro _ h26 ⟨rfl, Au2⟩ Kh26
  refine g_norm (cells' := 12) (slots' := 341) (st' := []) (by first | decide | exact Nat.le_of_ble_eq_true rfl) (by first | decide | exact Nat.le_of_ble_eq_true rfl) rfl ?_
  have fy139 := (((((((((((((((((((((((fy91).same Vh4).ext Xh5).other Vh6 (Or.inr (slot_ne (Or.inr (Wx44 hw)) (Or.inr (Wx46 hw)) (by first | decide | exact Nat.le_of_ble_eq_true rfl) (t := .int) (by first | decide | exact Nat.le_of_ble_eq_true rfl) (t' := (.array .int)) (by first | decide | exact Nat.le_of_ble_eq_true rfl)))).ext Xh7).other Vh8 (Or.inr (slot_ne (Or.inr (Wx44 hw)) (Or.inr (Wx48 hw)) (by first | decide | exact Nat.le_of_ble_eq_true rfl) (t := .int) (by first | decide | exact Nat.le_of_ble_eq_true rfl) (t' := (.array .int)) (by first | decide | exact Nat.le_of_ble_eq_true rfl)))).ext Xh9).keep Kh10 (ninS (neA (by omega)) (ninS (neA (by omega)) nin0))).keep Kh11 (ninS (neA (by omega)) nin0)).keep Kh12 nin0).keep Kh13 (ninS (neA (by omega)) (ninS (neA (by omega)) nin0))).ext Xh14).other Vh15 (Or.inr (slot_ne (Or.inr (Wx44 hw)) (Or.inr (Wx72 hw)) (by first | decide | exact Nat.le_of_ble_eq_true rfl) (t := .int) (by first | decide | exact Nat.le_of_ble_eq_true rfl) (t' := (.array (.array .long))) (by first | decide | exact Nat.le_of_ble_eq_true rfl)))).keep Kh16 (ninS (neA (by omega)) nin0)).ext Xh17).other Vh18 (Or.inr (slot_ne (Or.inr (Wx44 hw)) (Or.inr (Wx76 hw)) (by first | decide | exact Nat.le_of_ble_eq_true rfl) (t := .int) (by first | decide | exact Nat.le_of_ble_eq_true rfl) (t' := (.array .int)) (by first | decide | exact Nat.le_of_ble_eq_true rfl)))).other Vh19 (Or.inl (neA (by omega)))).ext Xh20).other Vh21 (Or.inr (slot_ne (Or.inr (Wx44 hw)) (Or.inr (Wx81 hw)) (by first | decide | exact Nat.le_of_ble_eq_true rfl) (t := .int) (by first | decide | exact Nat.le_of_ble_eq_true rfl) (t' := (.array .long)) (by first | decide | exact Nat.le_of_ble_eq_true rfl)))).ext Xh22).other Vh23 (Or.inr (slot_ne (Or.inr (Wx44 hw)) (Or.inr (Wx83 hw)) (by first | decide | exact Nat.le_of_ble_eq_true rfl) (t := .int) (by first | decide | exact Nat.le_of_ble_eq_true rfl) (t' := (.array .long)) (by first | decide | exact Nat.le_of_ble_eq_true rfl)))).ext Xh24).other Vh25 (Or.inr (slot_ne (Or.inr (Wx44 hw)) (Or.inr (Wx85 hw)) (by first | decide | exact Nat.le_of_ble_eq_true rfl) (t := .int) (by first | decide | exact Nat.le_of_ble_eq_true rfl) (t' := (.array .long)) (by first | decide | exact Nat.le_of_ble_eq_true rfl)))).keep Kh26 (ninS (neA (by omega)) nin0)
  have fy140 := (((((((((((fy116).keep Kh16 (ninS (neA (by omega)) nin0)).ext Xh17).other Vh18 (Or.inr (slot_ne (Or.inr (Wx46 hw)) (Or.inr (Wx76 hw)) (by first | decide | exact Nat.le_of_ble_eq_true rfl) (t := (.array .int)) (by first | decide | exact Nat.le_of_ble_eq_true rfl) (t' := (.array .int)) (by first | decide | exact Nat.le_of_ble_eq_true rfl)))).other Vh19 (Or.inl (neA (by omega)))).ext Xh20).other Vh21 (Or.inr (slot_ne (Or.inr (Wx46 hw)) (Or.inr (Wx81 hw)) (by first | decide | exact Nat.le_of_ble_eq_true rfl) (t := (.array .int)) (by first | decide | exact Nat.le_of_ble_eq_true rfl) (t' := (.array .long)) (by first | decide | exact Nat.le_of_ble_eq_true rfl)))).ext Xh22).other Vh23 (Or.inr (slot_ne (Or.inr (Wx46 hw)) (Or.inr (Wx83 hw)) (by first | decide | exact Nat.le_of_ble_eq_true rfl) (t := (.array .int)) (by first | decide | exact Nat.le_of_ble_eq_true rfl) (t' := (.array .long)) (by first | decide | exact Nat.le_of_ble_eq_true rfl)))).ext Xh24).other Vh25 (Or.inr (slot_ne (Or.inr (Wx46 hw)) (Or.inr (Wx85 hw)) (by first | decide | exact Nat.le_of_ble_eq_true rfl) (t := (.array .int)) (by first | decide | exact Nat.le_of_ble_eq_true rfl) (t' := (.array .long)) (by first | decide | exact Nat.le_of_ble_eq_true rfl)))).keep Kh26 (ninS (neA (by omega)) nin0)
  have fy141 := (((((((((((fy117).keep Kh16 (ninS (neA (by omega)) nin0)).ext Xh17).other Vh18 (Or.inr (slot_ne (Or.inr (Wx48 hw)) (Or.inr (Wx76 hw)) (by first | decide | exact Nat.le_of_ble_eq_true rfl) (t := (.array .int)) (by first | decide | exact Nat.le_of_ble_eq_true rfl) (t' := (.array .int)) (by first | decide | exact Nat.le_of_ble_eq_true rfl)))).other Vh19 (Or.inl (neA (by omega)))).ext Xh20).other Vh21 (Or.inr (slot_ne (Or.inr (Wx48 hw)) (Or.inr (Wx81 hw)) (by first | decide | exact Nat.le_of_ble_eq_true rfl) (t := (.array .int)) (by first | decide | exact Nat.le_of_ble_eq_true rfl) (t' := (.array .long)) (by first | decide | exact Nat.le_of_ble_eq_true rfl)))).ext Xh22).other Vh23 (Or.inr (slot_ne (Or.inr (Wx48 hw)) (Or.inr (Wx83 hw)) (by first | decide | exact Nat.le_of_ble_eq_true rfl) (t := (.array .int)) (by first | decide | exact Nat.le_of_ble_eq_true rfl) (t' := (.array .long)) (by first | decide | exact Nat.le_of_ble_eq_true rfl)))).ext Xh24).other Vh25 (Or.inr (slot_ne (Or.inr (Wx48 hw)) (Or.inr (Wx85 hw)) (by first | decide | exact Nat.le_of_ble_eq_true rfl) (t := (.array .int)) (by first | decide | exact Nat.le_of_ble_eq_true rfl) (t' := (.array .long)) (by first | decide | exact Nat.le_of_ble_eq_true rfl)))).keep Kh26 (ninS (neA (by omega)) nin0)
  have fy142 := ((((((((((((fy114).same Vh15).keep Kh16 (ninS (neA (by omega)) nin0)).ext Xh17).other Vh18 (Or.inr (slot_ne (Or.inr (Wx72 hw)) (Or.inr (Wx76 hw)) (by first | decide | exact Nat.le_of_ble_eq_true rfl) (t := (.array (.array .long))) (by first | decide | exact Nat.le_of_ble_eq_true rfl) (t' := (.array .int)) (by first | decide | exact Nat.le_of_ble_eq_true rfl)))).other Vh19 (Or.inl (neA (by omega)))).ext Xh20).other Vh21 (Or.inr (slot_ne (Or.inr (Wx72 hw)) (Or.inr (Wx81 hw)) (by first | decide | exact Nat.le_of_ble_eq_true rfl) (t := (.array (.array .long))) (by first | decide | exact Nat.le_of_ble_eq_true rfl) (t' := (.array .long)) (by first | decide | exact Nat.le_of_ble_eq_true rfl)))).ext Xh22).other Vh23 (Or.inr (slot_ne (Or.inr (Wx72 hw)) (Or.inr (Wx83 hw)) (by first | decide | exact Nat.le_of_ble_eq_true rfl) (t := (.array (.array .long))) (by first | decide | exact Nat.le_of_ble_eq_true rfl) (t' := (.array .long)) (by first | decide | exact Nat.le_of_ble_eq_true rfl)))).ext Xh24).other Vh25 (Or.inr (slot_ne (Or.inr (Wx72 hw)) (Or.inr (Wx85 hw)) (by first | decide | exact Nat.le_of_ble_eq_true rfl) (t := (.array (.array .long))) (by first | decide | exact Nat.le_of_ble_eq_true rfl) (t' := (.array .long)) (by first | decide | exact Nat.le_of_ble_eq_true rfl)))).keep Kh26 (ninS (neA (by omega)) nin0)
  have fy143 := (((((((((fy123).same Vh18).other Vh19 (Or.inl (neA (by omega)))).ext Xh20).other Vh21 (Or.inr (slot_ne (Or.inr (Wx76 hw)) (Or.inr (Wx81 hw)) (by first | decide | exact Nat.le_of_ble_eq_true rfl) (t := (.array .int)) (by first | decide | exact Nat.le_of_ble_eq_true rfl) (t' := (.array .long)) (by first | decide | exact Nat.le_of_ble_eq_true rfl)))).ext Xh22).other Vh23 (Or.inr (slot_ne (Or.inr (Wx76 hw)) (Or.inr (Wx83 hw)) (by first | decide | exact Nat.le_of_ble_eq_true rfl) (t := (.array .int)) (by first | decide | exact Nat.le_of_ble_eq_true rfl) (t' := (.array .long)) (by first | decide | exact Nat.le_of_ble_eq_true rfl)))).ext Xh24).other Vh25 (Or.inr (slot_ne (Or.inr (Wx76 hw)) (Or.inr (Wx85 hw)) (by first | decide | exact Nat.le_of_ble_eq_true rfl) (t := (.array .int)) (by first | decide | exact Nat.le_of_ble_eq_true rfl) (t' := (.array .long)) (by first | decide | exact Nat.le_of_ble_eq_true rfl)))).keep Kh26 (ninS (neA (by omega)) nin0)
  have fy144 := ((((((fy129).same Vh21).ext Xh22).other Vh23 (Or.inr (slot_ne (Or.inr (Wx81 hw)) (Or.inr (Wx83 hw)) (by first | decide | exact Nat.le_of_ble_eq_true rfl) (t := (.array .long)) (by first | decide | exact Nat.le_of_ble_eq_true rfl) (t' := (.array .long)) (by first | decide | exact Nat.le_of_ble_eq_true rfl)))).ext Xh24).other Vh25 (Or.inr (slot_ne (Or.inr (Wx81 hw)) (Or.inr (Wx85 hw)) (by first | decide | exact Nat.le_of_ble_eq_true rfl) (t := (.array .long)) (by first | decide | exact Nat.le_of_ble_eq_true rfl) (t' := (.array .long)) (by first | decide | exact Nat.le_of_ble_eq_true rfl)))).keep Kh26 (ninS (neA (by omega)) nin0)
  have fy145 := (fy137).keep Kh26 (ninS (neA (by omega)) nin0)
  have fy146 := ((fy135).same Vh25).keep Kh26 (ninS (neA (by omega)) nin0)
  have fy147 := ((((((((((((((((((((((((((Frow).ext X1).keep K2 (ninS (neA (by omega)) nin0)).keep K3 (ninS (neA (by omega)) nin0)).other Vh4 (Or.inr (slot_ne (Or.inl (Wx96 hw)) (Or.inr (Wx44 hw)) (by first | decide | exact Nat.le_of_ble_eq_true rfl) (t := .int) (by first | decide | exact Nat.le_of_ble_eq_true rfl) (t' := .int) (by first | decide | exact Nat.le_of_ble_eq_true rfl)))).ext Xh5).other Vh6 (Or.inr (slot_ne (Or.inl (Wx96 hw)) (Or.inr (Wx46 hw)) (by first | decide | exact Nat.le_of_ble_eq_true rfl) (t := .int) (by first | decide | exact Nat.le_of_ble_eq_true rfl) (t' := (.array .int)) (by first | decide | exact Nat.le_of_ble_eq_true rfl)))).ext Xh7).other Vh8 (Or.inr (slot_ne (Or.inl (Wx96 hw)) (Or.inr (Wx48 hw)) (by first | decide | exact Nat.le_of_ble_eq_true rfl) (t := .int) (by first | decide | exact Nat.le_of_ble_eq_true rfl) (t' := (.array .int)) (by first | decide | exact Nat.le_of_ble_eq_true rfl)))).ext Xh9).keep Kh10 (ninS (neA (by omega)) (ninS (neA (by omega)) nin0))).keep Kh11 (ninS (neA (by omega)) nin0)).keep Kh12 nin0).keep Kh13 (ninS (neA (by omega)) (ninS (neA (by omega)) nin0))).ext Xh14).other Vh15 (Or.inr (slot_ne (Or.inl (Wx96 hw)) (Or.inr (Wx72 hw)) (by first | decide | exact Nat.le_of_ble_eq_true rfl) (t := .int) (by first | decide | exact Nat.le_of_ble_eq_true rfl) (t' := (.array (.array .long))) (by first | decide | exact Nat.le_of_ble_eq_true rfl)))).keep Kh16 (ninS (neA (by omega)) nin0)).ext Xh17).other Vh18 (Or.inr (slot_ne (Or.inl (Wx96 hw)) (Or.inr (Wx76 hw)) (by first | decide | exact Nat.le_of_ble_eq_true rfl) (t := .int) (by first | decide | exact Nat.le_of_ble_eq_true rfl) (t' := (.array .int)) (by first | decide | exact Nat.le_of_ble_eq_true rfl)))).other Vh19 (Or.inl (neA (by omega)))).ext Xh20).other Vh21 (Or.inr (slot_ne (Or.inl (Wx96 hw)) (Or.inr (Wx81 hw)) (by first | decide | exact Nat.le_of_ble_eq_true rfl) (t := .int) (by first | decide | exact Nat.le_of_ble_eq_true rfl) (t' := (.array .long)) (by first | decide | exact Nat.le_of_ble_eq_true rfl)))).ext Xh22).other Vh23 (Or.inr (slot_ne (Or.inl (Wx96 hw)) (Or.inr (Wx83 hw)) (by first | decide | exact Nat.le_of_ble_eq_true rfl) (t := .int) (by first | decide | exact Nat.le_of_ble_eq_true rfl) (t' := (.array .long)) (by first | decide | exact Nat.le_of_ble_eq_true rfl)))).ext Xh24).other Vh25 (Or.inr (slot_ne (Or.inl (Wx96 hw)) (Or.inr (Wx85 hw)) (by first | decide | exact Nat.le_of_ble_eq_true rfl) (t := .int) (by first | decide | exact Nat.le_of_ble_eq_true rfl) (t' := (.array .long)) (by first | decide | exact Nat.le_of_ble_eq_true rfl)))).keep Kh26 (ninS (neA (by omega)) nin0)
  have fy148 := (((((((Aa2).ext Xh20).other Vh21 (neA (by omega))).ext Xh22).other Vh23 (neA (by omega))).ext Xh24).other Vh25 (neA (by omega))).keep Kh26 (ninS (neA (by omega)) nin0)
  have fy149 := ((((((((((Ab1).ext Xh17).other Vh18 (neA (by omega))).other Vh19 (neA (by omega))).ext Xh20).other Vh21 (neA (by omega))).ext Xh22).other Vh23 (neA (by omega))).ext Xh24).other Vh25 (neA (by omega))).keep Kh26 (ninS (neA (by omega)) nin0)
  have fy150 := ((((((((((Abr1).ext Xh17).other Vh18 (neA (by omega))).other Vh19 (neA (by omega))).ext Xh20).other Vh21 (neA (by omega))).ext Xh22).other Vh23 (neA (by omega))).ext Xh24).other Vh25 (neA (by omega))).keep Kh26 (ninS (neA (by omega)) nin0)
  have fy151 := (((((((((((fy118).keep Kh16 (ninS (neA (by omega)) nin0)).ext Xh17).other Vh18 (neA (by omega))).other Vh19 (neA (by omega))).ext Xh20).other Vh21 (neA (by omega))).ext Xh22).other Vh23 (neA (by omega))).ext Xh24).other Vh25 (neA (by omega))).keep Kh26 (ninS (neA (by omega)) nin0)
  have fy152 := (((((((((((fy119).keep Kh16 (ninS (neA (by omega)) nin0)).ext Xh17).other Vh18 (neA (by omega))).other Vh19 (neA (by omega))).ext Xh20).other Vh21 (neA (by omega))).ext Xh22).other Vh23 (neA (by omega))).ext Xh24).other Vh25 (neA (by omega))).keep Kh26 (ninS (neA (by omega)) nin0)
  have fy153 := (((((fy131).ext Xh22).other Vh23 (neA (by omega))).ext Xh24).other Vh25 (neA (by omega))).keep Kh26 (ninS (neA (by omega)) nin0)
  have fy154 := ((An1).other Vh25 (neA (by omega))).keep Kh26 (ninS (neA (by omega)) nin0)
  have fy155 := ((fy136).wr Vh25).keep Kh26
  exact g_return C d_prog_102_method_1_440 (⟨rfl, _, aa, st, pl, bi, br, li, pu, mi, wd_of B, fy155, (fy139), (fy140), (fy141), (fy142), (fy143), (fy144), (fy145), (fy146), (fy147), (fy148), (fy149), (fy150), (fy151), (fy152), (fy153), (Au2), (fy154), by omega, by omega, by omega, by omega, by omega, by omega, by omega, by omega, hst0⟩) (by first | decide | exact Nat.le_of_ble_eq_true rfl) (by first | decide | exact Nat.le_of_ble_eq_true rfl)
set_option maxRecDepth 65536 in
set_option maxHeartbeats 40000000 in
theorem con_law (l : Launch) (Z : State) (a0 : Array Value) (hw : ∀ d ∈ tables_1, d.before a0 Z = true)  (h : Heap) (xa y pp jj flag : Int32) : Con l Z [] x code maxLocals (ret) room_1 #[(.int xa), (.int y), (.int pp), (.int jj), (.int flag)] h tables_1 (fun v h' => v = some (.int 1)) := by
  refine Con.of (plainFor_of_name pn3) (Ls := #[.val (.int xa), .val (.int y), .val (.int pp), .val (.int jj), .val (.int flag), .unset, .unset, .unset, .unset, .unset, .unset, .unset]) (fun m => by first | (simp [entryFrame, mkF, argsToLocals, Value.category, maxLocals]; done) | rfl) ?_
  intro p_ e_ s_ m_ bel_ mt_ cd_ C
  refine g_iload_n C at_0 rfl (pc' := 1) rfl ?_
  refine g_ldcInt C (Wx0 hw) at_1 (pc' := 3) rfl ?_
  refine g_iand C at_3 (pc' := 4) rfl ?_
  refine g_bipush C at_4 (x := (66 : Int32)) rfl (pc' := 6) rfl ?_
  refine g_irem C at_6 (by first | decide | exact Nat.le_of_ble_eq_true rfl) (pc' := 7) rfl ?_
  obtain ⟨p, hp, ep⟩ := idx_nat pp 66 66 rfl (by first | decide | exact Nat.le_of_ble_eq_true rfl) (by first | decide | exact Nat.le_of_ble_eq_true rfl)
  rw [ep]
  refine g_istore C at_7 (Ls' := #[.val (.int xa), .val (.int y), .val (.int pp), .val (.int jj), .val (.int flag), .val (.int (Int32.ofNat p)), .unset, .unset, .unset, .unset, .unset, .unset]) rfl (pc' := 9) rfl ?_
  refine g_iload_n C at_9 rfl (pc' := 10) rfl ?_
  refine g_ldcInt C (Wx0 hw) at_10 (pc' := 12) rfl ?_
  refine g_iand C at_12 (pc' := 13) rfl ?_
  refine g_bipush C at_13 (x := (67 : Int32)) rfl (pc' := 15) rfl ?_
  refine g_irem C at_15 (by first | decide | exact Nat.le_of_ble_eq_true rfl) (pc' := 16) rfl ?_
  obtain ⟨j, hj, ej⟩ := idx_nat jj 67 67 rfl (by first | decide | exact Nat.le_of_ble_eq_true rfl) (by first | decide | exact Nat.le_of_ble_eq_true rfl)
  rw [ej]
  refine g_istore C at_16 (Ls' := #[.val (.int xa), .val (.int y), .val (.int pp), .val (.int jj), .val (.int flag), .val (.int (Int32.ofNat p)), .val (.int (Int32.ofNat j)), .unset, .unset, .unset, .unset, .unset]) rfl (pc' := 18) rfl ?_
  refine g_iload C at_18 rfl (pc' := 20) rfl ?_
  refine g_iconst C at_20 (x := (1 : Int32)) rfl (pc' := 21) rfl ?_
  refine g_iand C at_21 (pc' := 22) rfl ?_
  refine g_istore C at_22 (Ls' := #[.val (.int xa), .val (.int y), .val (.int pp), .val (.int jj), .val (.int flag), .val (.int (Int32.ofNat p)), .val (.int (Int32.ofNat j)), .val (.int (flag &&& (1 : Int32))), .unset, .unset, .unset, .unset]) rfl (pc' := 24) rfl ?_
  refine g_iconst C at_24 (x := (1 : Int32)) rfl (pc' := 25) rfl ?_
  refine g_newarray C (aty := .int) (n := 1) (Wx1 hw) (by first | decide | exact Nat.le_of_ble_eq_true rfl) rfl (by first | decide | exact Nat.le_of_ble_eq_true rfl) at_25 (pc' := 27) rfl (by first | decide | exact Nat.le_of_ble_eq_true rfl) (by first | decide | exact Nat.le_of_ble_eq_true rfl) ?_
  intro h1 av hav hav0 X1 Aa0
  refine g_norm (cells' := 1) (slots' := 1) (st' := [(.ref av)]) (by first | decide | exact Nat.le_of_ble_eq_true rfl) (by first | decide | exact Nat.le_of_ble_eq_true rfl) rfl ?_
  refine g_dup C at_27 rfl (pc' := 28) rfl ?_
  refine g_iconst C at_28 (x := (0 : Int32)) rfl (pc' := 29) rfl ?_
  refine g_iload_n C at_29 rfl (pc' := 30) rfl ?_
  refine g_iastore C (Aa0) (by first | decide | exact Nat.le_of_ble_eq_true rfl) (i := 0) rfl (by first | decide | exact Nat.le_of_ble_eq_true rfl) (Or.inr hav0) at_30 (pc' := 31) rfl ?_
  intro h2 W2 Aa1
  have Aa2 : Af Z h2 av .int 1 (fun _ => .int xa) := Aa1.congr fun i hi => by rcases (show i = 0 by omega) with rfl; rfl
  refine g_astore C at_31 rfl (Ls' := #[.val (.int xa), .val (.int y), .val (.int pp), .val (.int jj), .val (.int flag), .val (.int (Int32.ofNat p)), .val (.int (Int32.ofNat j)), .val (.int (flag &&& (1 : Int32))), .val (.ref av), .unset, .unset, .unset]) rfl (pc' := 33) rfl ?_
  refine g_bipush C at_33 (x := (66 : Int32)) rfl (pc' := 35) rfl ?_
  refine g_newarrayE C (aty := .int) (n := 66) (Wx1 hw) (ad := "[I") (by first | rfl | decide +kernel) (by first | decide | exact Nat.le_of_ble_eq_true rfl) rfl (by omega) at_35 (pc' := 37) rfl (by first | decide | exact Nat.le_of_ble_eq_true rfl) (Nat.le_trans (show 1 + 66 ≤ 67 by omega) (by first | decide | exact Nat.le_of_ble_eq_true rfl)) ?_
  intro h3 bv hbv hbv0 X3 Eb0 Ab0
  refine g_norm (cells' := 2) (slots' := 67) (st' := [(.ref bv)]) (by first | decide | exact Nat.le_of_ble_eq_true rfl) (show 1 + 66 ≤ 67 by omega) rfl ?_
  have c0 : @LT.lt Nat instLTNat av bv := by rw [hbv]; exact Aa2.lt
  refine g_astore C at_37 rfl (Ls' := #[.val (.int xa), .val (.int y), .val (.int pp), .val (.int jj), .val (.int flag), .val (.int (Int32.ofNat p)), .val (.int (Int32.ofNat j)), .val (.int (flag &&& (1 : Int32))), .val (.ref av), .val (.ref bv), .unset, .unset]) rfl (pc' := 39) rfl ?_
  refine g_aload C at_39 rfl rfl (pc' := 41) rfl ?_
  refine g_iload C at_41 rfl (pc' := 43) rfl ?_
  refine g_iload_n C at_43 rfl (pc' := 44) rfl ?_
  refine g_iastore C (Ab0) (i32_nn (by omega)) (i := p) (i32_clamp (by omega)) (by omega) (Or.inr hbv0) at_44 (pc' := 45) rfl ?_
  intro h4 W4 Ab1
  have Ab2 : Af Z h4 bv .int 66 (one p y) := Ab1.congr fun i hi => by
    by_cases z : i = p
    · rw [z, upd_same, one_eq rfl]
    · rw [upd_other z, one_ne z]; rfl
  have Eb1 := Eb0.wr W4
  refine g_bipush C at_45 (x := (67 : Int32)) rfl (pc' := 47) rfl ?_
  refine g_newarray C (aty := .int) (n := 67) (Wx1 hw) (by first | decide | exact Nat.le_of_ble_eq_true rfl) rfl (by first | decide | exact Nat.le_of_ble_eq_true rfl) at_47 (pc' := 49) rfl (by first | decide | exact Nat.le_of_ble_eq_true rfl) (by first | decide | exact Nat.le_of_ble_eq_true rfl) ?_
  intro h5 ou hou hou0 X5 Ao0
  refine g_norm (cells' := 3) (slots' := 134) (st' := [(.ref ou)]) (by first | decide | exact Nat.le_of_ble_eq_true rfl) (by first | decide | exact Nat.le_of_ble_eq_true rfl) rfl ?_
  have c2 : @LT.lt Nat instLTNat bv ou := by rw [hou]; exact Ab2.lt
  refine g_astore C at_49 rfl (Ls' := #[.val (.int xa), .val (.int y), .val (.int pp), .val (.int jj), .val (.int flag), .val (.int (Int32.ofNat p)), .val (.int (Int32.ofNat j)), .val (.int (flag &&& (1 : Int32))), .val (.ref av), .val (.ref bv), .val (.ref ou), .unset]) rfl (pc' := 51) rfl ?_
  refine g_new C (Wx2 hw) (Wx3 hw) (Wx4 hw) at_51 (pc' := 54) rfl (by first | decide | exact Nat.le_of_ble_eq_true rfl) (by first | decide | exact Nat.le_of_ble_eq_true rfl) ?_
  intro h6 o ho ho0 X6 E6 D6
  refine g_norm (cells' := 4) (slots' := 143) (st' := [(.ref o)]) (by first | decide | exact Nat.le_of_ble_eq_true rfl) (by first | decide | exact Nat.le_of_ble_eq_true rfl) rfl ?_
  have c3 : @LT.lt Nat instLTNat ou o := by rw [ho]; exact Ao0.lt
  refine g_dup C at_54 rfl (pc' := 55) rfl ?_
  refine g_aload C at_55 rfl rfl (pc' := 57) rfl ?_
  refine g_aload C at_57 rfl rfl (pc' := 59) rfl ?_
  have fy156 := ((((Aa2).ext X3).other W4 (neA (by omega))).ext X5).ext X6
  have fy157 := ((Ab2).ext X5).ext X6
  have fy158 := ((Eb1).ext X5).ext X6
  refine g_specialC C (W := 1) (argsL := [(.ref av), (.ref bv)]) (rest := [(.ref o)]) (con_init l Z a0 hw h6 xa y p hp o av bv E6 (D6 (Or.inr (Wx44 hw)) (ty := .int) (by first | decide | exact Nat.le_of_ble_eq_true rfl)) (D6 (Or.inr (Wx46 hw)) (ty := (.array .int)) (by first | decide | exact Nat.le_of_ble_eq_true rfl)) (D6 (Or.inr (Wx48 hw)) (ty := (.array .int)) (by first | decide | exact Nat.le_of_ble_eq_true rfl)) (D6 (Or.inr (Wx72 hw)) (ty := (.array (.array .long))) (by first | decide | exact Nat.le_of_ble_eq_true rfl)) (D6 (Or.inr (Wx76 hw)) (ty := (.array .int)) (by first | decide | exact Nat.le_of_ble_eq_true rfl)) (D6 (Or.inr (Wx81 hw)) (ty := (.array .long)) (by first | decide | exact Nat.le_of_ble_eq_true rfl)) (D6 (Or.inr (Wx83 hw)) (ty := (.array .long)) (by first | decide | exact Nat.le_of_ble_eq_true rfl)) (D6 (Or.inr (Wx85 hw)) (ty := (.array .long)) (by first | decide | exact Nat.le_of_ble_eq_true rfl)) (D6 (Or.inl (Wx96 hw)) (ty := .int) (by first | decide | exact Nat.le_of_ble_eq_true rfl)) (fy156) (fy157) (fy158) c0 (by omega)) rfl (Wx5 hw) (Wx6 hw) (Wx4 hw) (Wx7 hw) (by first | decide | exact Nat.le_of_ble_eq_true rfl) rfl (lenOf pd13 rfl) rfl (Nat.le_of_eq rfl) at_59 (pc' := 62) rfl (by first | decide | exact Nat.le_of_ble_eq_true rfl) (by first | decide | exact Nat.le_of_ble_eq_true rfl) (allS (Or.inr ho0) all0) (by first | decide | exact Nat.le_of_ble_eq_true rfl) (by first | decide | exact Nat.le_of_ble_eq_true rfl) ?_
  rintro _ h7 ⟨rfl, aw, aa, st, pl, bi, br, li, pu, mi, hW, E7, Fm, Fstarts, Fplaces, Fbits, Fa, Flisted, Fplus, Fminus, Frow, Aa, Ab, Abr, Ast, Apl, Al, Au, An, l1, l2, l3, l4, l5, l6, l7, l8, hst⟩ K7
  refine g_norm (cells' := 40) (slots' := 1088) (st' := [(.ref o)]) (by first | decide | exact Nat.le_of_ble_eq_true rfl) (by first | decide | exact Nat.le_of_ble_eq_true rfl) rfl ?_
  have hot := l1
  refine g_astore C at_62 rfl (Ls' := #[.val (.int xa), .val (.int y), .val (.int pp), .val (.int jj), .val (.int flag), .val (.int (Int32.ofNat p)), .val (.int (Int32.ofNat j)), .val (.int (flag &&& (1 : Int32))), .val (.ref av), .val (.ref bv), .val (.ref ou), .val (.ref o)]) rfl (pc' := 64) rfl ?_
  refine g_iload C at_64 rfl (pc' := 66) rfl ?_
  refine g_iconst C at_66 (x := (1 : Int32)) rfl (pc' := 67) rfl ?_
  rcases bit_01 flag with hb | hb
  · rw [hb]
    refine g_if_icmpne C at_67 (by decide) (pcT := 75) rfl (pcF := 70) rfl (fun _ => ?_) (fun zz_ => absurd zz_ (by first | decide | exact Nat.le_of_ble_eq_true rfl))
    refine g_aload C at_75 rfl rfl (pc' := 77) rfl ?_
    refine g_aload C at_77 rfl rfl (pc' := 79) rfl ?_
    have fy159 := ((Ao0).ext X6).keep K7 (ninS (neA (by omega)) nin0)
    refine g_virtualC C (W := 0) (argsL := [(.ref ou)]) (rest := []) (con_values l Z a0 hw h7 o ou pu mi 0 (-1) (-1) 0 0 Frow Fm Fplus Fminus (fy159) Au An (neA (by omega)) (neA (by omega)) (neA (by omega))) (Wx90 hw) (Wx91 hw) (Wx93 hw) (nfOf (Wx93 hw) rfl) (Wx92 hw) (Wx4 hw) (Wx94 hw) (by first | decide | exact Nat.le_of_ble_eq_true rfl) (E7) rfl (lenOf pd10 rfl) rfl (Nat.le_of_eq rfl) at_79 (pc' := 82) rfl (by first | decide | exact Nat.le_of_ble_eq_true rfl) (by first | decide | exact Nat.le_of_ble_eq_true rfl) (allS (Or.inr hou0) all0) (by first | decide | exact Nat.le_of_ble_eq_true rfl) (by first | decide | exact Nat.le_of_ble_eq_true rfl) ?_
    rintro _ h9 ⟨rfl, Av⟩ K9
    refine g_norm (cells' := 40) (slots' := 1088) (st' := []) (by first | decide | exact Nat.le_of_ble_eq_true rfl) (by first | decide | exact Nat.le_of_ble_eq_true rfl) rfl ?_
    refine g_aload C at_82 rfl rfl (pc' := 84) rfl ?_
    have Fr9 := Frow.keep K9 (ninS (neA (by omega)) nin0)
    refine g_virtualC C (W := 0) (argsL := []) (rest := []) (con_row l Z a0 hw h9 o 0 Fr9) (Wx97 hw) (Wx98 hw) (Wx100 hw) (nfOf (Wx100 hw) rfl) (Wx99 hw) (Wx4 hw) (Wx101 hw) (by first | decide | exact Nat.le_of_ble_eq_true rfl) ((E7).keep K9) rfl (lenOf pd14 rfl) rfl (Nat.le_of_eq rfl) at_84 (pc' := 87) rfl (by first | decide | exact Nat.le_of_ble_eq_true rfl) (by first | decide | exact Nat.le_of_ble_eq_true rfl) (fun _ q => nomatch q) (by first | decide | exact Nat.le_of_ble_eq_true rfl) (by first | decide | exact Nat.le_of_ble_eq_true rfl) ?_
    rintro _ hh ⟨rfl, eh_⟩ Kr
    subst hh
    refine g_norm (cells' := 40) (slots' := 1088) (st' := [(.int (0 : Int32))]) (by first | decide | exact Nat.le_of_ble_eq_true rfl) (by first | decide | exact Nat.le_of_ble_eq_true rfl) rfl ?_
    refine g_iload C at_87 rfl (pc' := 89) rfl ?_
    refine g_if_icmpne C at_89 (by decide) (pcT := 151) rfl (pcF := 92) rfl (fun zz_ => absurd (rfl) zz_) (fun _ => ?_)
    refine g_aload C at_92 rfl rfl (pc' := 94) rfl ?_
    refine g_iconst C at_94 (x := (0 : Int32)) rfl (pc' := 95) rfl ?_
    have ev : ∀ i, i < 67 → V (-1) (-1) 0 0 0 i = exF 0 xa y (Int32.ofNat p) (Int32.ofNat i) := fun i hi => by
      rw [ex_row0, V_row0 i (by omega)]
    refine g_iaload C (Av) (by first | decide | exact Nat.le_of_ble_eq_true rfl) (i := 0) rfl (by first | decide | exact Nat.le_of_ble_eq_true rfl) (v := (.int (V (-1) (-1) 0 0 0 0))) (rfl) at_95 (pc' := 96) rfl ?_
    refine g_iload C at_96 rfl (pc' := 98) rfl ?_
    refine g_iload_n C at_98 rfl (pc' := 99) rfl ?_
    refine g_iload_n C at_99 rfl (pc' := 100) rfl ?_
    refine g_iload C at_100 rfl (pc' := 102) rfl ?_
    refine g_iconst C at_102 (x := (0 : Int32)) rfl (pc' := 103) rfl ?_
    refine g_staticC C (W := 1) (argsL := [(.int (0 : Int32)), (.int xa), (.int y), (.int (Int32.ofNat p)), (.int (0 : Int32))]) (rest := [(.int (V (-1) (-1) 0 0 0 0))]) (con_exp l Z a0 hw h9 0 xa y (Int32.ofNat p) (0 : Int32)) (Wx102 hw) (Wx103 hw) (Wx104 hw) (Wx105 hw) (by first | decide | exact Nat.le_of_ble_eq_true rfl) rfl (lenOf pd15 rfl) rfl (Nat.le_of_eq rfl) at_103 (pc' := 106) rfl (by first | decide | exact Nat.le_of_ble_eq_true rfl) (by first | decide | exact Nat.le_of_ble_eq_true rfl) (fun _ q => nomatch q) (by first | decide | exact Nat.le_of_ble_eq_true rfl) (by first | decide | exact Nat.le_of_ble_eq_true rfl) ?_
    rintro _ hh ⟨rfl, eh_⟩ Ke0
    subst hh
    refine g_norm (cells' := 40) (slots' := 1088) (st' := [(.int (exF 0 xa y (Int32.ofNat p) (0 : Int32))), (.int (V (-1) (-1) 0 0 0 0))]) (by first | decide | exact Nat.le_of_ble_eq_true rfl) (by first | decide | exact Nat.le_of_ble_eq_true rfl) rfl ?_
    refine g_if_icmpne C at_106 (by decide) (pcT := 151) rfl (pcF := 109) rfl (fun zz_ => absurd (ev 0 (by omega)) zz_) (fun _ => ?_)
    refine g_aload C at_109 rfl rfl (pc' := 111) rfl ?_
    refine g_iload C at_111 rfl (pc' := 113) rfl ?_
    refine g_iaload C (Av) (i32_nn (by omega)) (i := j) (i32_clamp (by omega)) (by omega) (v := (.int (V (-1) (-1) 0 0 0 j))) (rfl) at_113 (pc' := 114) rfl ?_
    refine g_iload C at_114 rfl (pc' := 116) rfl ?_
    refine g_iload_n C at_116 rfl (pc' := 117) rfl ?_
    refine g_iload_n C at_117 rfl (pc' := 118) rfl ?_
    refine g_iload C at_118 rfl (pc' := 120) rfl ?_
    refine g_iload C at_120 rfl (pc' := 122) rfl ?_
    refine g_staticC C (W := 1) (argsL := [(.int (0 : Int32)), (.int xa), (.int y), (.int (Int32.ofNat p)), (.int (Int32.ofNat j))]) (rest := [(.int (V (-1) (-1) 0 0 0 j))]) (con_exp l Z a0 hw h9 0 xa y (Int32.ofNat p) (Int32.ofNat j)) (Wx102 hw) (Wx103 hw) (Wx104 hw) (Wx105 hw) (by first | decide | exact Nat.le_of_ble_eq_true rfl) rfl (lenOf pd15 rfl) rfl (Nat.le_of_eq rfl) at_122 (pc' := 125) rfl (by first | decide | exact Nat.le_of_ble_eq_true rfl) (by first | decide | exact Nat.le_of_ble_eq_true rfl) (fun _ q => nomatch q) (by first | decide | exact Nat.le_of_ble_eq_true rfl) (by first | decide | exact Nat.le_of_ble_eq_true rfl) ?_
    rintro _ hh ⟨rfl, eh_⟩ Ke1
    subst hh
    refine g_norm (cells' := 40) (slots' := 1088) (st' := [(.int (exF 0 xa y (Int32.ofNat p) (Int32.ofNat j))), (.int (V (-1) (-1) 0 0 0 j))]) (by first | decide | exact Nat.le_of_ble_eq_true rfl) (by first | decide | exact Nat.le_of_ble_eq_true rfl) rfl ?_
    refine g_if_icmpne C at_125 (by decide) (pcT := 151) rfl (pcF := 128) rfl (fun zz_ => absurd (ev j (by omega)) zz_) (fun _ => ?_)
    refine g_aload C at_128 rfl rfl (pc' := 130) rfl ?_
    refine g_bipush C at_130 (x := (66 : Int32)) rfl (pc' := 132) rfl ?_
    refine g_iaload C (Av) (by first | decide | exact Nat.le_of_ble_eq_true rfl) (i := 66) rfl (by first | decide | exact Nat.le_of_ble_eq_true rfl) (v := (.int (V (-1) (-1) 0 0 0 66))) (rfl) at_132 (pc' := 133) rfl ?_
    refine g_iload C at_133 rfl (pc' := 135) rfl ?_
    refine g_iload_n C at_135 rfl (pc' := 136) rfl ?_
    refine g_iload_n C at_136 rfl (pc' := 137) rfl ?_
    refine g_iload C at_137 rfl (pc' := 139) rfl ?_
    refine g_bipush C at_139 (x := (66 : Int32)) rfl (pc' := 141) rfl ?_
    refine g_staticC C (W := 1) (argsL := [(.int (0 : Int32)), (.int xa), (.int y), (.int (Int32.ofNat p)), (.int (66 : Int32))]) (rest := [(.int (V (-1) (-1) 0 0 0 66))]) (con_exp l Z a0 hw h9 0 xa y (Int32.ofNat p) (66 : Int32)) (Wx102 hw) (Wx103 hw) (Wx104 hw) (Wx105 hw) (by first | decide | exact Nat.le_of_ble_eq_true rfl) rfl (lenOf pd15 rfl) rfl (Nat.le_of_eq rfl) at_141 (pc' := 144) rfl (by first | decide | exact Nat.le_of_ble_eq_true rfl) (by first | decide | exact Nat.le_of_ble_eq_true rfl) (fun _ q => nomatch q) (by first | decide | exact Nat.le_of_ble_eq_true rfl) (by first | decide | exact Nat.le_of_ble_eq_true rfl) ?_
    rintro _ hh ⟨rfl, eh_⟩ Ke2
    subst hh
    refine g_norm (cells' := 40) (slots' := 1088) (st' := [(.int (exF 0 xa y (Int32.ofNat p) (66 : Int32))), (.int (V (-1) (-1) 0 0 0 66))]) (by first | decide | exact Nat.le_of_ble_eq_true rfl) (by first | decide | exact Nat.le_of_ble_eq_true rfl) rfl ?_
    refine g_if_icmpne C at_144 (by decide) (pcT := 151) rfl (pcF := 147) rfl (fun zz_ => absurd (ev 66 (by omega)) zz_) (fun _ => ?_)
    refine g_iconst C at_147 (x := (1 : Int32)) rfl (pc' := 148) rfl ?_
    refine g_goto C at_148 (by decide) (pc' := 152) rfl ?_
    exact g_ireturnN C (by simp) at_152 (rfl) (by first | decide | exact Nat.le_of_ble_eq_true rfl) (by first | decide | exact Nat.le_of_ble_eq_true rfl)
  · rw [hb]
    refine g_if_icmpne C at_67 (by decide) (pcT := 75) rfl (pcF := 70) rfl (fun zz_ => absurd (rfl) zz_) (fun _ => ?_)
    refine g_aload C at_70 rfl rfl (pc' := 72) rfl ?_
    refine g_virtualC C (W := 0) (argsL := []) (rest := []) (con_adv l Z a0 hw h7 xa y p hp aw hW o aa st pl bi br li pu mi E7 Fm Fa Frow Fbits Flisted Fstarts Fplaces Fplus Fminus Aa Ab Abr Ast Apl Al Au An l1 l2 l3 l4 l5 l6 l7 l8) (Wx106 hw) (Wx107 hw) (Wx109 hw) (nfOf (Wx109 hw) rfl) (Wx108 hw) (Wx4 hw) (Wx110 hw) (by first | decide | exact Nat.le_of_ble_eq_true rfl) (E7) rfl (lenOf pd16 rfl) rfl (Nat.le_of_eq rfl) at_72 (pc' := 75) rfl (by first | decide | exact Nat.le_of_ble_eq_true rfl) (by first | decide | exact Nat.le_of_ble_eq_true rfl) (allS (Or.inr ho0) (allS (Or.inr (by omega)) (allS (Or.inr (by omega)) (allS (Or.inr (by omega)) all0)))) (by first | decide | exact Nat.le_of_ble_eq_true rfl) (by first | decide | exact Nat.le_of_ble_eq_true rfl) ?_
    rintro _ h8 ⟨rfl, Fr8, Fm8, Fp8, Fn8, Au8, An8⟩ K8
    refine g_norm (cells' := 40) (slots' := 1088) (st' := []) (by first | decide | exact Nat.le_of_ble_eq_true rfl) (by first | decide | exact Nat.le_of_ble_eq_true rfl) rfl ?_
    refine g_aload C at_75 rfl rfl (pc' := 77) rfl ?_
    refine g_aload C at_77 rfl rfl (pc' := 79) rfl ?_
    have fy160 := (((Ao0).ext X6).keep K7 (ninS (neA (by omega)) nin0)).keep K8 (ninS (neA (by omega)) (ninS (neA (by omega)) (ninS (neA (by omega)) (ninS (neA (by omega)) nin0))))
    refine g_virtualC C (W := 0) (argsL := [(.ref ou)]) (rest := []) (con_values l Z a0 hw h8 o ou pu mi 1 (rw2 (sm (kx xa y) p).1 (sm (kx xa y) p).2).1 (rw2 (sm (kx xa y) p).1 (sm (kx xa y) p).2).2.1 (rw2 (sm (kx xa y) p).1 (sm (kx xa y) p).2).2.2.1 (rw2 (sm (kx xa y) p).1 (sm (kx xa y) p).2).2.2.2 Fr8 Fm8 Fp8 Fn8 (fy160) Au8 An8 (neA (by omega)) (neA (by omega)) (neA (by omega))) (Wx90 hw) (Wx91 hw) (Wx93 hw) (nfOf (Wx93 hw) rfl) (Wx92 hw) (Wx4 hw) (Wx94 hw) (by first | decide | exact Nat.le_of_ble_eq_true rfl) (E7.keep K8) rfl (lenOf pd10 rfl) rfl (Nat.le_of_eq rfl) at_79 (pc' := 82) rfl (by first | decide | exact Nat.le_of_ble_eq_true rfl) (by first | decide | exact Nat.le_of_ble_eq_true rfl) (allS (Or.inr hou0) all0) (by first | decide | exact Nat.le_of_ble_eq_true rfl) (by first | decide | exact Nat.le_of_ble_eq_true rfl) ?_
    rintro _ h9 ⟨rfl, Av⟩ K9
    refine g_norm (cells' := 40) (slots' := 1088) (st' := []) (by first | decide | exact Nat.le_of_ble_eq_true rfl) (by first | decide | exact Nat.le_of_ble_eq_true rfl) rfl ?_
    refine g_aload C at_82 rfl rfl (pc' := 84) rfl ?_
    have Fr9 := Fr8.keep K9 (ninS (neA (by omega)) nin0)
    refine g_virtualC C (W := 0) (argsL := []) (rest := []) (con_row l Z a0 hw h9 o 1 Fr9) (Wx97 hw) (Wx98 hw) (Wx100 hw) (nfOf (Wx100 hw) rfl) (Wx99 hw) (Wx4 hw) (Wx101 hw) (by first | decide | exact Nat.le_of_ble_eq_true rfl) ((E7.keep K8).keep K9) rfl (lenOf pd14 rfl) rfl (Nat.le_of_eq rfl) at_84 (pc' := 87) rfl (by first | decide | exact Nat.le_of_ble_eq_true rfl) (by first | decide | exact Nat.le_of_ble_eq_true rfl) (fun _ q => nomatch q) (by first | decide | exact Nat.le_of_ble_eq_true rfl) (by first | decide | exact Nat.le_of_ble_eq_true rfl) ?_
    rintro _ hh ⟨rfl, eh_⟩ Kr
    subst hh
    refine g_norm (cells' := 40) (slots' := 1088) (st' := [(.int (1 : Int32))]) (by first | decide | exact Nat.le_of_ble_eq_true rfl) (by first | decide | exact Nat.le_of_ble_eq_true rfl) rfl ?_
    refine g_iload C at_87 rfl (pc' := 89) rfl ?_
    refine g_if_icmpne C at_89 (by decide) (pcT := 151) rfl (pcF := 92) rfl (fun zz_ => absurd (rfl) zz_) (fun _ => ?_)
    refine g_aload C at_92 rfl rfl (pc' := 94) rfl ?_
    refine g_iconst C at_94 (x := (0 : Int32)) rfl (pc' := 95) rfl ?_
    have ev : ∀ i, i < 67 → V (rw2 (sm (kx xa y) p).1 (sm (kx xa y) p).2).1 (rw2 (sm (kx xa y) p).1 (sm (kx xa y) p).2).2.1 (rw2 (sm (kx xa y) p).1 (sm (kx xa y) p).2).2.2.1 (rw2 (sm (kx xa y) p).1 (sm (kx xa y) p).2).2.2.2 1 i = exF 1 xa y (Int32.ofNat p) (Int32.ofNat i) := fun i hi => by
      rw [ex_row1 hp hi]; exact V_row1 (kx_lt xa y) hp i (by omega)
    refine g_iaload C (Av) (by first | decide | exact Nat.le_of_ble_eq_true rfl) (i := 0) rfl (by first | decide | exact Nat.le_of_ble_eq_true rfl) (v := (.int (V (rw2 (sm (kx xa y) p).1 (sm (kx xa y) p).2).1 (rw2 (sm (kx xa y) p).1 (sm (kx xa y) p).2).2.1 (rw2 (sm (kx xa y) p).1 (sm (kx xa y) p).2).2.2.1 (rw2 (sm (kx xa y) p).1 (sm (kx xa y) p).2).2.2.2 1 0))) (rfl) at_95 (pc' := 96) rfl ?_
    refine g_iload C at_96 rfl (pc' := 98) rfl ?_
    refine g_iload_n C at_98 rfl (pc' := 99) rfl ?_
    refine g_iload_n C at_99 rfl (pc' := 100) rfl ?_
    refine g_iload C at_100 rfl (pc' := 102) rfl ?_
    refine g_iconst C at_102 (x := (0 : Int32)) rfl (pc' := 103) rfl ?_
    refine g_staticC C (W := 1) (argsL := [(.int (1 : Int32)), (.int xa), (.int y), (.int (Int32.ofNat p)), (.int (0 : Int32))]) (rest := [(.int (V (rw2 (sm (kx xa y) p).1 (sm (kx xa y) p).2).1 (rw2 (sm (kx xa y) p).1 (sm (kx xa y) p).2).2.1 (rw2 (sm (kx xa y) p).1 (sm (kx xa y) p).2).2.2.1 (rw2 (sm (kx xa y) p).1 (sm (kx xa y) p).2).2.2.2 1 0))]) (con_exp l Z a0 hw h9 1 xa y (Int32.ofNat p) (0 : Int32)) (Wx102 hw) (Wx103 hw) (Wx104 hw) (Wx105 hw) (by first | decide | exact Nat.le_of_ble_eq_true rfl) rfl (lenOf pd15 rfl) rfl (Nat.le_of_eq rfl) at_103 (pc' := 106) rfl (by first | decide | exact Nat.le_of_ble_eq_true rfl) (by first | decide | exact Nat.le_of_ble_eq_true rfl) (fun _ q => nomatch q) (by first | decide | exact Nat.le_of_ble_eq_true rfl) (by first | decide | exact Nat.le_of_ble_eq_true rfl) ?_
    rintro _ hh ⟨rfl, eh_⟩ Ke0
    subst hh
    refine g_norm (cells' := 40) (slots' := 1088) (st' := [(.int (exF 1 xa y (Int32.ofNat p) (0 : Int32))), (.int (V (rw2 (sm (kx xa y) p).1 (sm (kx xa y) p).2).1 (rw2 (sm (kx xa y) p).1 (sm (kx xa y) p).2).2.1 (rw2 (sm (kx xa y) p).1 (sm (kx xa y) p).2).2.2.1 (rw2 (sm (kx xa y) p).1 (sm (kx xa y) p).2).2.2.2 1 0))]) (by first | decide | exact Nat.le_of_ble_eq_true rfl) (by first | decide | exact Nat.le_of_ble_eq_true rfl) rfl ?_
    refine g_if_icmpne C at_106 (by decide) (pcT := 151) rfl (pcF := 109) rfl (fun zz_ => absurd (ev 0 (by omega)) zz_) (fun _ => ?_)
    refine g_aload C at_109 rfl rfl (pc' := 111) rfl ?_
    refine g_iload C at_111 rfl (pc' := 113) rfl ?_
    refine g_iaload C (Av) (i32_nn (by omega)) (i := j) (i32_clamp (by omega)) (by omega) (v := (.int (V (rw2 (sm (kx xa y) p).1 (sm (kx xa y) p).2).1 (rw2 (sm (kx xa y) p).1 (sm (kx xa y) p).2).2.1 (rw2 (sm (kx xa y) p).1 (sm (kx xa y) p).2).2.2.1 (rw2 (sm (kx xa y) p).1 (sm (kx xa y) p).2).2.2.2 1 j))) (rfl) at_113 (pc' := 114) rfl ?_
    refine g_iload C at_114 rfl (pc' := 116) rfl ?_
    refine g_iload_n C at_116 rfl (pc' := 117) rfl ?_
    refine g_iload_n C at_117 rfl (pc' := 118) rfl ?_
    refine g_iload C at_118 rfl (pc' := 120) rfl ?_
    refine g_iload C at_120 rfl (pc' := 122) rfl ?_
    refine g_staticC C (W := 1) (argsL := [(.int (1 : Int32)), (.int xa), (.int y), (.int (Int32.ofNat p)), (.int (Int32.ofNat j))]) (rest := [(.int (V (rw2 (sm (kx xa y) p).1 (sm (kx xa y) p).2).1 (rw2 (sm (kx xa y) p).1 (sm (kx xa y) p).2).2.1 (rw2 (sm (kx xa y) p).1 (sm (kx xa y) p).2).2.2.1 (rw2 (sm (kx xa y) p).1 (sm (kx xa y) p).2).2.2.2 1 j))]) (con_exp l Z a0 hw h9 1 xa y (Int32.ofNat p) (Int32.ofNat j)) (Wx102 hw) (Wx103 hw) (Wx104 hw) (Wx105 hw) (by first | decide | exact Nat.le_of_ble_eq_true rfl) rfl (lenOf pd15 rfl) rfl (Nat.le_of_eq rfl) at_122 (pc' := 125) rfl (by first | decide | exact Nat.le_of_ble_eq_true rfl) (by first | decide | exact Nat.le_of_ble_eq_true rfl) (fun _ q => nomatch q) (by first | decide | exact Nat.le_of_ble_eq_true rfl) (by first | decide | exact Nat.le_of_ble_eq_true rfl) ?_
    rintro _ hh ⟨rfl, eh_⟩ Ke1
    subst hh
    refine g_norm (cells' := 40) (slots' := 1088) (st' := [(.int (exF 1 xa y (Int32.ofNat p) (Int32.ofNat j))), (.int (V (rw2 (sm (kx xa y) p).1 (sm (kx xa y) p).2).1 (rw2 (sm (kx xa y) p).1 (sm (kx xa y) p).2).2.1 (rw2 (sm (kx xa y) p).1 (sm (kx xa y) p).2).2.2.1 (rw2 (sm (kx xa y) p).1 (sm (kx xa y) p).2).2.2.2 1 j))]) (by first | decide | exact Nat.le_of_ble_eq_true rfl) (by first | decide | exact Nat.le_of_ble_eq_true rfl) rfl ?_
    refine g_if_icmpne C at_125 (by decide) (pcT := 151) rfl (pcF := 128) rfl (fun zz_ => absurd (ev j (by omega)) zz_) (fun _ => ?_)
    refine g_aload C at_128 rfl rfl (pc' := 130) rfl ?_
    refine g_bipush C at_130 (x := (66 : Int32)) rfl (pc' := 132) rfl ?_
    refine g_iaload C (Av) (by first | decide | exact Nat.le_of_ble_eq_true rfl) (i := 66) rfl (by first | decide | exact Nat.le_of_ble_eq_true rfl) (v := (.int (V (rw2 (sm (kx xa y) p).1 (sm (kx xa y) p).2).1 (rw2 (sm (kx xa y) p).1 (sm (kx xa y) p).2).2.1 (rw2 (sm (kx xa y) p).1 (sm (kx xa y) p).2).2.2.1 (rw2 (sm (kx xa y) p).1 (sm (kx xa y) p).2).2.2.2 1 66))) (rfl) at_132 (pc' := 133) rfl ?_
    refine g_iload C at_133 rfl (pc' := 135) rfl ?_
    refine g_iload_n C at_135 rfl (pc' := 136) rfl ?_
    refine g_iload_n C at_136 rfl (pc' := 137) rfl ?_
    refine g_iload C at_137 rfl (pc' := 139) rfl ?_
    refine g_bipush C at_139 (x := (66 : Int32)) rfl (pc' := 141) rfl ?_
    refine g_staticC C (W := 1) (argsL := [(.int (1 : Int32)), (.int xa), (.int y), (.int (Int32.ofNat p)), (.int (66 : Int32))]) (rest := [(.int (V (rw2 (sm (kx xa y) p).1 (sm (kx xa y) p).2).1 (rw2 (sm (kx xa y) p).1 (sm (kx xa y) p).2).2.1 (rw2 (sm (kx xa y) p).1 (sm (kx xa y) p).2).2.2.1 (rw2 (sm (kx xa y) p).1 (sm (kx xa y) p).2).2.2.2 1 66))]) (con_exp l Z a0 hw h9 1 xa y (Int32.ofNat p) (66 : Int32)) (Wx102 hw) (Wx103 hw) (Wx104 hw) (Wx105 hw) (by first | decide | exact Nat.le_of_ble_eq_true rfl) rfl (lenOf pd15 rfl) rfl (Nat.le_of_eq rfl) at_141 (pc' := 144) rfl (by first | decide | exact Nat.le_of_ble_eq_true rfl) (by first | decide | exact Nat.le_of_ble_eq_true rfl) (fun _ q => nomatch q) (by first | decide | exact Nat.le_of_ble_eq_true rfl) (by first | decide | exact Nat.le_of_ble_eq_true rfl) ?_
    rintro _ hh ⟨rfl, eh_⟩ Ke2
    subst hh
    refine g_norm (cells' := 40) (slots' := 1088) (st' := [(.int (exF 1 xa y (Int32.ofNat p) (66 : Int32))), (.int (V (rw2 (sm (kx xa y) p).1 (sm (kx xa y) p).2).1 (rw2 (sm (kx xa y) p).1 (sm (kx xa y) p).2).2.1 (rw2 (sm (kx xa y) p).1 (sm (kx xa y) p).2).2.2.1 (rw2 (sm (kx xa y) p).1 (sm (kx xa y) p).2).2.2.2 1 66))]) (by first | decide | exact Nat.le_of_ble_eq_true rfl) (by first | decide | exact Nat.le_of_ble_eq_true rfl) rfl ?_
    refine g_if_icmpne C at_144 (by decide) (pcT := 151) rfl (pcF := 147) rfl (fun zz_ => absurd (ev 66 (by omega)) zz_) (fun _ => ?_)
    refine g_iconst C at_147 (x := (1 : Int32)) rfl (pc' := 148) rfl ?_
    refine g_goto C at_148 (by decide) (pc' := 152) rfl ?_
    exact g_ireturnN C (by simp) at_152 (rfl) (by first | decide | exact Nat.le_of_ble_eq_true rfl) (by first | decide | exact Nat.le_of_ble_eq_true rfl)
set_option maxRecDepth 65536 in
set_option maxHeartbeats 40000000 in
theorem comes_1 {Post : Tables → Env → Array Value → State → Outcome → State → Prop} (hpost : ∀ tb e args s v u, (limb_1_1.after args s (.returned v) u = true ∧ limb_1_2.after args s (.returned v) u = true ∧ True) → FrameEnd s (.returned v) u (Jvm.fieldLocs frame_1_writes args s ++ Jvm.arrayLocs frame_1_arrays args s ++ Jvm.staticLocs frame_1_statics s) 40 1088 → Post tb e args s (.returned v) u) :
    ArmFor flags0 classFile x code maxLocals ret World_1 tables_1 room_1 Calls_1 rest_1 Pre_1 Post := by
  intro l hfl _ _ p e ha hc hk s m args below hf hA hF happ hP
  obtain ⟨hcalls, hrest, hpre⟩ := hP
  obtain ⟨-, -, -, hnamed, -, -, -, hat⟩ := (Spec.applies_iff hf).mp happ
  obtain ⟨hg, hn⟩ := and_e (Cond.before_iff.mp (show (Jvm.Cond.and given_1 narrow_1).before args s = true from hpre))
  obtain ⟨hcount, g0⟩ := and_e hg
  obtain ⟨k0, g1⟩ := and_e g0
  obtain ⟨k1, g2⟩ := and_e g1
  obtain ⟨k2, g3⟩ := and_e g2
  obtain ⟨k3, g4⟩ := and_e g3
  have k4 := g4
  obtain ⟨w0, w1, w2, w3, w4, rfl⟩ : ∃ w0 w1 w2 w3 w4 : Value, args = #[w0, w1, w2, w3, w4] := by
    have hs : args.size = 5 := by simpa [Cond.value, given_1] using hcount
    obtain ⟨L⟩ := args
    match L, hs with
    | [w0, w1, w2, w3, w4], _ => exact ⟨w0, w1, w2, w3, w4, rfl⟩
  have hw := fun d (hd : d ∈ tables_1) => atoms_spec (ws := Jvm.Cond.code x code maxLocals ret :: tables_1) hat d (List.mem_cons_of_mem _ hd)
  obtain ⟨i0, e0⟩ := is_v k0
  obtain rfl : w0 = (.int i0) := Option.some.inj e0
  obtain ⟨i1, e1⟩ := is_v k1
  obtain rfl : w1 = (.int i1) := Option.some.inj e1
  obtain ⟨i2, e2⟩ := is_v k2
  obtain rfl : w2 = (.int i2) := Option.some.inj e2
  obtain ⟨i3, e3⟩ := is_v k3
  obtain rfl : w3 = (.int i3) := Option.some.inj e3
  obtain ⟨i4, e4⟩ := is_v k4
  obtain rfl : w4 = (.int i4) := Option.some.inj e4
  obtain ⟨n, o, h1, h2, h3, _, L, rfl, ⟨rfl, K, N⟩, hq⟩ := con_law l s _ hw s.heap i0 i1 i2 i3 i4 ⟨Nat.le_refl _, fun _ _ q => q⟩ (fun _ q => nomatch q) p e ha hc hk s m _ below hf ((Spec.applies_iff_loose hf).mp happ).1 ⟨rfl, State.Warmed39.refl s, rfl⟩ trivial
  exact ⟨n, _, h1, h2, h3, hpost _ _ _ _ _ _ ⟨Cond.after_iff.mpr rfl, Cond.after_iff.mpr (eq_i res_at (Term.int_eval (1)) rfl), trivial⟩ ⟨hq.1, hq.2.1, (hq.2.2.sift fun y hy => Or.inr ((N y hy).elim (fun q => nomatch q) id)).mono (by decide) (by decide)⟩⟩
theorem main_1_1 : Claimed_1_1 := comes_1 fun _ _ _ _ _ _ h hF => ⟨h.1, hF⟩
theorem main_1_2 : Claimed_1_2 := comes_1 fun _ _ _ _ _ _ h hF => ⟨h.2.1, hF⟩
end Jvm.Pilot.@@N@@
namespace Jvm.Pilot.@@N@@
open Jvm Jvm.ClassFile Sem Op Lib Jvm.Free Jvm.Stand Jvm.Pilot.@@N@@.Jvm.D
/-! MADE BY PROGRAM (witnessworld.py) out of the Statement's table words and the real class files: 15 classes; the members and pool entries that the words name. The judged class is class 1, her method 2. -/
namespace start1
open Jvm.ClassFile
def u (s : String) : CpInfo := .utf8 (stringToUtf16 s)
/-- a pool by its gaps: so many unusable entries, then the entry; so many at the end -/
def gap : Nat → List CpInfo → List CpInfo
  | 0, r => r
  | n + 1, r => .unusable :: gap n r
def poolList (es : List (Nat × CpInfo)) (last : Nat) : List CpInfo := es.foldr (fun e r => gap e.1 (e.2 :: r)) (gap last [])
def pool (es : List (Nat × CpInfo)) (last : Nat) : Array CpInfo := ⟨poolList es last⟩
def fileOf (pool : Array CpInfo) (this : Nat) (attrs : Array Attribute := #[]) (ms : Array MethodInfo := #[]) (fl : Nat := 33) (sup : Nat := 0) (ifs : Array Nat := #[]) (fds : Array FieldInfo := #[]) : ClassFile where
  minorVersion := 0
  majorVersion := 65
  constantPool := pool
  accessFlags := fl
  thisClass := this
  superClass := sup
  interfaces := ifs
  fields := fds
  methods := ms
  attributes := attrs
def plain (name : String) (sup : Option ClassId) : Class where
  name := name
  kind := .ordinary
  loader := none
  accessFlags := 33
  super := sup
  interfaces := #[]
  cf := none
  fields := #[]
  methods := #[]
  instanceTypes := #[]
  staticTypes := #[]
  resolved := #[]
  callSites := []
  init := .initialized
  statics := none
  mirror := none

def pool0 : Array CpInfo := pool [(5, u "<init>"), (0, u "()V"), (1, .class_ 10), (1, u "java/lang/Object"), (85, u "clone"), (0, u "()Ljava/lang/Object;")] 26

def k0c0 : Code := { maxStack := 0, maxLocals := 1, code := object_method_1_code, exceptionTable := #[], attributes := #[] }
def k0m0 : Method := { name := "<init>", desc := "()V", sig := { parameters := [], returnType := none }, accessFlags := 1, code := some k0c0 }
def k0m1 : Method := { name := "clone", desc := "()Ljava/lang/Object;", sig := { parameters := [], returnType := some (.object "java/lang/Object") }, accessFlags := 260, code := none }
/-- java/lang/Object -/
def k0 : Class := { plain "java/lang/Object" none with
  accessFlags := 33
  interfaces := #[]
  cf := some (fileOf pool0 8 #[] #[{ accessFlags := 1, nameIndex := 5, descriptorIndex := 6, attributes := #[] }, { accessFlags := 260, nameIndex := 96, descriptorIndex := 97, attributes := #[] }] 33 0 #[] #[])
  fields := #[]
  methods := #[k0m0, k0m1]
  instanceTypes := #[]
  staticTypes := #[]
  resolved := Array.replicate 124 none
  statics := none }

def pool1 : Array CpInfo := pool [(2, .class_ 4), (1, u "java/lang/Object"), (0, u "<init>"), (0, u "()V"), (0, .integer 2147483647), (0, .class_ 9), (0, u "com/example/corpusmith/corpusmith/ocr/EditRows"), (0, .methodref 8 11), (0, .nameAndType 5 12), (0, u "([I[I)V"), (0, .methodref 8 14), (0, .nameAndType 15 6), (0, u "advance"), (0, .methodref 8 17), (0, .nameAndType 18 19), (0, u "values"), (0, u "([I)V"), (0, .methodref 8 21), (0, .nameAndType 22 23), (0, u "row"), (0, u "()I"), (0, .methodref 25 26), (0, .class_ 27), (0, .nameAndType 28 29), (0, u "com/example/corpusmith/corpusmith/ocr/EditRowsValuesPinLaw"), (0, u "expected"), (0, u "(IIIII)I"), (3, u "law"), (0, u "(IIIII)Z")] 4

def k1m0 : Method := { name := "<init>", desc := "()V", sig := { parameters := [], returnType := none }, accessFlags := 1, code := none }
def k1c1 : Code := { maxStack := 2, maxLocals := 6, code := method_2_code, exceptionTable := #[], attributes := #[] }
def k1m1 : Method := { name := "expected", desc := "(IIIII)I", sig := { parameters := [.int, .int, .int, .int, .int], returnType := some .int }, accessFlags := 10, code := some k1c1 }
def k1c2 : Code := { maxStack := 6, maxLocals := 12, code := code, exceptionTable := #[], attributes := #[] }
def k1m2 : Method := { name := "law", desc := "(IIIII)Z", sig := { parameters := [.int, .int, .int, .int, .int], returnType := some .boolean }, accessFlags := 9, code := some k1c2 }
/-- com/example/corpusmith/corpusmith/ocr/EditRowsValuesPinLaw -/
def k1 : Class := { plain "com/example/corpusmith/corpusmith/ocr/EditRowsValuesPinLaw" (some 0) with
  accessFlags := 49
  interfaces := #[]
  cf := some (fileOf pool1 25 #[] #[{ accessFlags := 1, nameIndex := 5, descriptorIndex := 6, attributes := #[] }, { accessFlags := 10, nameIndex := 28, descriptorIndex := 29, attributes := #[] }, { accessFlags := 9, nameIndex := 33, descriptorIndex := 34, attributes := #[] }] 49 2 #[] #[])
  fields := #[]
  methods := #[k1m0, k1m1, k1m2]
  instanceTypes := #[]
  staticTypes := #[]
  resolved := Array.replicate 39 none
  statics := none }

def pool2 : Array CpInfo := pool [(1, .methodref 2 3), (0, .class_ 4), (0, .nameAndType 5 6), (0, u "java/lang/Object"), (0, u "<init>"), (0, u "()V"), (0, .methodref 8 9), (0, .class_ 10), (0, .nameAndType 11 12), (0, u "com/example/corpusmith/corpusmith/ocr/EditRows"), (0, u "longs"), (0, u "(I)I"), (0, .methodref 14 15), (0, .class_ 16), (0, .nameAndType 17 18), (0, u "[I"), (0, u "clone"), (0, u "()Ljava/lang/Object;"), (0, .methodref 20 21), (0, .class_ 22), (0, .nameAndType 23 24), (0, u "java/util/Arrays"), (0, u "sort"), (0, u "([I)V"), (0, .fieldref 8 26), (0, .nameAndType 27 28), (0, u "m"), (0, u "I"), (0, .fieldref 8 30), (0, .nameAndType 31 16), (0, u "starts"), (0, .fieldref 8 33), (0, .nameAndType 34 16), (0, u "places"), (0, .methodref 20 36), (0, .nameAndType 37 38), (0, u "binarySearch"), (0, u "([IIII)I"), (0, .methodref 20 40), (0, .nameAndType 41 42), (0, u "copyOf"), (0, u "([II)[I"), (0, .class_ 44), (0, u "[J"), (0, .fieldref 8 46), (0, .nameAndType 47 48), (0, u "bits"), (0, u "[[J"), (0, .fieldref 8 50), (0, .nameAndType 51 16), (0, u "a"), (0, .methodref 53 54), (0, .class_ 55), (0, .nameAndType 56 57), (0, u "java/lang/Math"), (0, u "max"), (0, u "(II)I"), (0, .fieldref 8 59), (0, .nameAndType 60 44), (0, u "listed"), (0, .fieldref 8 62), (0, .nameAndType 63 44), (0, u "plus"), (0, .fieldref 8 65), (0, .nameAndType 66 44), (0, u "minus"), (0, .long 18446744073709551615), (1, .methodref 20 70), (0, .nameAndType 71 72), (0, u "fill"), (0, u "([JJ)V"), (2, u "([I[I)V"), (2, u "row"), (0, u "()I"), (2, u "advance"), (2, u "values"), (0, .fieldref 8 87), (0, .nameAndType 78 28), (0, .methodref 8 89), (0, .nameAndType 90 91), (0, u "flip"), (0, u "(I)V"), (0, .methodref 8 93), (0, .nameAndType 94 95), (0, u "step"), (0, u "([J)V")] 9

def k2c0 : Code := { maxStack := 8, maxLocals := 10, code := prog_102_method_1_code, exceptionTable := #[], attributes := #[] }
def k2m0 : Method := { name := "<init>", desc := "([I[I)V", sig := { parameters := [(.array .int), (.array .int)], returnType := none }, accessFlags := 0, code := some k2c0 }
def k2c1 : Code := { maxStack := 1, maxLocals := 1, code := prog_102_method_4_code, exceptionTable := #[], attributes := #[] }
def k2m1 : Method := { name := "row", desc := "()I", sig := { parameters := [], returnType := some .int }, accessFlags := 0, code := some k2c1 }
def k2c2 : Code := { maxStack := 3, maxLocals := 3, code := prog_102_method_5_code, exceptionTable := #[], attributes := #[] }
def k2m2 : Method := { name := "advance", desc := "()V", sig := { parameters := [], returnType := none }, accessFlags := 0, code := some k2c2 }
def k2c3 : Code := { maxStack := 6, maxLocals := 4, code := prog_102_method_6_code, exceptionTable := #[], attributes := #[] }
def k2m3 : Method := { name := "values", desc := "([I)V", sig := { parameters := [(.array .int)], returnType := none }, accessFlags := 0, code := some k2c3 }
def k2c4 : Code := { maxStack := 8, maxLocals := 19, code := prog_102_method_7_code, exceptionTable := #[], attributes := #[] }
def k2m4 : Method := { name := "step", desc := "([J)V", sig := { parameters := [(.array .long)], returnType := none }, accessFlags := 2, code := some k2c4 }
def k2c5 : Code := { maxStack := 8, maxLocals := 3, code := prog_102_method_8_code, exceptionTable := #[], attributes := #[] }
def k2m5 : Method := { name := "flip", desc := "(I)V", sig := { parameters := [.int], returnType := none }, accessFlags := 2, code := some k2c5 }
def k2c6 : Code := { maxStack := 2, maxLocals := 1, code := prog_102_method_9_code, exceptionTable := #[], attributes := #[] }
def k2m6 : Method := { name := "longs", desc := "(I)I", sig := { parameters := [.int], returnType := some .int }, accessFlags := 10, code := some k2c6 }
/-- com/example/corpusmith/corpusmith/ocr/EditRows -/
def k2 : Class := { plain "com/example/corpusmith/corpusmith/ocr/EditRows" (some 0) with
  accessFlags := 48
  interfaces := #[]
  cf := some (fileOf pool2 8 #[] #[{ accessFlags := 0, nameIndex := 5, descriptorIndex := 75, attributes := #[] }, { accessFlags := 0, nameIndex := 78, descriptorIndex := 79, attributes := #[] }, { accessFlags := 0, nameIndex := 82, descriptorIndex := 6, attributes := #[] }, { accessFlags := 0, nameIndex := 85, descriptorIndex := 24, attributes := #[] }, { accessFlags := 2, nameIndex := 94, descriptorIndex := 95, attributes := #[] }, { accessFlags := 2, nameIndex := 90, descriptorIndex := 91, attributes := #[] }, { accessFlags := 10, nameIndex := 11, descriptorIndex := 12, attributes := #[] }] 48 2 #[] #[{ accessFlags := 18, nameIndex := 51, descriptorIndex := 16, attributes := #[] }, { accessFlags := 18, nameIndex := 27, descriptorIndex := 28, attributes := #[] }, { accessFlags := 18, nameIndex := 31, descriptorIndex := 16, attributes := #[] }, { accessFlags := 18, nameIndex := 34, descriptorIndex := 16, attributes := #[] }, { accessFlags := 18, nameIndex := 47, descriptorIndex := 48, attributes := #[] }, { accessFlags := 18, nameIndex := 60, descriptorIndex := 44, attributes := #[] }, { accessFlags := 18, nameIndex := 63, descriptorIndex := 44, attributes := #[] }, { accessFlags := 18, nameIndex := 66, descriptorIndex := 44, attributes := #[] }, { accessFlags := 2, nameIndex := 78, descriptorIndex := 28, attributes := #[] }])
  fields := #[{ name := "a", type := (.array .int), accessFlags := 18, slot := 0, constantValue := 0 }, { name := "m", type := .int, accessFlags := 18, slot := 1, constantValue := 0 }, { name := "starts", type := (.array .int), accessFlags := 18, slot := 2, constantValue := 0 }, { name := "places", type := (.array .int), accessFlags := 18, slot := 3, constantValue := 0 }, { name := "bits", type := (.array (.array .long)), accessFlags := 18, slot := 4, constantValue := 0 }, { name := "listed", type := (.array .long), accessFlags := 18, slot := 5, constantValue := 0 }, { name := "plus", type := (.array .long), accessFlags := 18, slot := 6, constantValue := 0 }, { name := "minus", type := (.array .long), accessFlags := 18, slot := 7, constantValue := 0 }, { name := "row", type := .int, accessFlags := 2, slot := 8, constantValue := 0 }]
  methods := #[k2m0, k2m1, k2m2, k2m3, k2m4, k2m5, k2m6]
  instanceTypes := #[(.array .int), .int, (.array .int), (.array .int), (.array (.array .long)), (.array .long), (.array .long), (.array .long), .int]
  staticTypes := #[]
  resolved := Array.replicate 105 none
  statics := none }

def pool3 : Array CpInfo := pool [(1, .class_ 2), (0, u "java/lang/Cloneable"), (0, .class_ 4), (0, u "java/lang/Object")] 2

/-- java/lang/Cloneable -/
def k3 : Class := { plain "java/lang/Cloneable" (some 0) with
  accessFlags := 1537
  interfaces := #[]
  cf := some (fileOf pool3 1 #[] #[] 1537 3 #[] #[])
  fields := #[]
  methods := #[]
  instanceTypes := #[]
  staticTypes := #[]
  resolved := Array.replicate 7 none
  statics := none }

def pool4 : Array CpInfo := pool [(2, .class_ 4), (1, u "java/lang/Object"), (0, u "<init>"), (0, u "()V"), (0, .methodref 8 9), (0, .class_ 10), (0, .nameAndType 11 12), (0, u "java/util/DualPivotQuicksort"), (0, u "sort"), (0, u "([IIII)V"), (0, .methodref 14 15), (0, .class_ 16), (0, .nameAndType 17 18), (0, u "java/util/Arrays"), (0, u "rangeCheck"), (0, u "(III)V"), (55, .class_ 76), (1, u "java/util/Arrays$NaturalOrder"), (36, .class_ 115), (1, u "java/util/Arrays$LegacyMergeSort"), (1, u "Z"), (32, .methodref 151 152), (0, .class_ 153), (0, .nameAndType 154 155), (0, u "java/lang/System"), (0, u "arraycopy"), (0, u "(Ljava/lang/Object;ILjava/lang/Object;II)V"), (51, u "binarySearch0"), (1, .methodref 14 210), (0, .nameAndType 207 211), (0, u "([IIII)I"), (90, u "copyOf"), (1, .methodref 305 306), (0, .class_ 307), (0, .nameAndType 308 309), (0, u "java/lang/Math"), (0, u "min"), (0, u "(II)I"), (65, .class_ 376), (0, u "java/util/Arrays$ArrayList"), (68, u "$assertionsDisabled"), (269, u "MIN_ARRAY_SORT_GRAN"), (0, u "I"), (2, u "INSERTIONSORT_THRESHOLD"), (6, u "([I)V"), (67, u "binarySearch"), (45, u "fill"), (0, u "([JJ)V"), (29, u "([II)[I"), (103, .class_ 976), (0, u "java/util/Arrays$ArrayItr")] 52

def k4m0 : Method := { name := "<init>", desc := "()V", sig := { parameters := [], returnType := none }, accessFlags := 2, code := none }
def k4c1 : Code := { maxStack := 4, maxLocals := 1, code := jdk_65_method_2_code, exceptionTable := #[], attributes := #[] }
def k4m1 : Method := { name := "sort", desc := "([I)V", sig := { parameters := [(.array .int)], returnType := none }, accessFlags := 9, code := some k4c1 }
def k4c2 : Code := { maxStack := 4, maxLocals := 3, code := jdk_65_method_30_code, exceptionTable := #[], attributes := #[] }
def k4m2 : Method := { name := "rangeCheck", desc := "(III)V", sig := { parameters := [.int, .int, .int], returnType := none }, accessFlags := 8, code := some k4c2 }
def k4c3 : Code := { maxStack := 4, maxLocals := 4, code := jdk_65_method_58_code, exceptionTable := #[], attributes := #[] }
def k4m3 : Method := { name := "binarySearch", desc := "([IIII)I", sig := { parameters := [(.array .int), .int, .int, .int], returnType := some .int }, accessFlags := 9, code := some k4c3 }
def k4c4 : Code := { maxStack := 2, maxLocals := 8, code := jdk_65_method_59_code, exceptionTable := #[], attributes := #[] }
def k4m4 : Method := { name := "binarySearch0", desc := "([IIII)I", sig := { parameters := [(.array .int), .int, .int, .int], returnType := some .int }, accessFlags := 10, code := some k4c4 }
def k4c5 : Code := { maxStack := 4, maxLocals := 5, code := jdk_65_method_101_code, exceptionTable := #[], attributes := #[] }
def k4m5 : Method := { name := "fill", desc := "([JJ)V", sig := { parameters := [(.array .long), .long], returnType := none }, accessFlags := 9, code := some k4c5 }
def k4c6 : Code := { maxStack := 6, maxLocals := 3, code := jdk_65_method_123_code, exceptionTable := #[], attributes := #[] }
def k4m6 : Method := { name := "copyOf", desc := "([II)[I", sig := { parameters := [(.array .int), .int], returnType := some (.array .int) }, accessFlags := 9, code := some k4c6 }
/-- java/util/Arrays -/
def k4 : Class := { plain "java/util/Arrays" (some 0) with
  accessFlags := 49
  interfaces := #[]
  cf := some (fileOf pool4 14 #[.nestMembers #[975, 375, 113, 74]] #[{ accessFlags := 2, nameIndex := 5, descriptorIndex := 6, attributes := #[] }, { accessFlags := 9, nameIndex := 11, descriptorIndex := 726, attributes := #[] }, { accessFlags := 8, nameIndex := 17, descriptorIndex := 18, attributes := #[] }, { accessFlags := 9, nameIndex := 794, descriptorIndex := 211, attributes := #[] }, { accessFlags := 10, nameIndex := 207, descriptorIndex := 211, attributes := #[] }, { accessFlags := 9, nameIndex := 840, descriptorIndex := 841, attributes := #[] }, { accessFlags := 9, nameIndex := 302, descriptorIndex := 871, attributes := #[] }] 49 2 #[] #[{ accessFlags := 26, nameIndex := 715, descriptorIndex := 716, attributes := #[] }, { accessFlags := 26, nameIndex := 719, descriptorIndex := 716, attributes := #[] }, { accessFlags := 4120, nameIndex := 445, descriptorIndex := 117, attributes := #[] }])
  fields := #[{ name := "MIN_ARRAY_SORT_GRAN", type := .int, accessFlags := 26, slot := 0, constantValue := 0 }, { name := "INSERTIONSORT_THRESHOLD", type := .int, accessFlags := 26, slot := 1, constantValue := 0 }, { name := "$assertionsDisabled", type := .boolean, accessFlags := 4120, slot := 2, constantValue := 0 }]
  methods := #[k4m0, k4m1, k4m2, k4m3, k4m4, k4m5, k4m6]
  instanceTypes := #[]
  staticTypes := #[.int, .int, .boolean]
  resolved := Array.replicate 1029 none
  statics := none }

def pool5 : Array CpInfo := pool [(1, .class_ 2), (0, u "java/util/DualPivotQuicksort"), (5, .class_ 10), (1, u "java/lang/Object"), (0, u "<init>"), (0, u "()V"), (4, .class_ 18), (0, u "java/util/DualPivotQuicksort$Sorter"), (7, .methodref 1 27), (0, .nameAndType 28 29), (0, u "sort"), (0, u "(Ljava/util/DualPivotQuicksort$Sorter;[IIII)V"), (0, .methodref 1 31), (0, .nameAndType 32 33), (0, u "mixedInsertionSort"), (0, u "([IIII)V"), (0, .methodref 1 35), (0, .nameAndType 36 37), (0, u "insertionSort"), (0, u "([III)V"), (0, .methodref 1 39), (0, .nameAndType 40 41), (0, u "tryMergeRuns"), (0, u "(Ljava/util/DualPivotQuicksort$Sorter;[III)Z"), (26, u "I"), (4, .class_ 74), (0, u "java/util/DualPivotQuicksort$RunMerger"), (10, .class_ 86), (0, u "java/util/DualPivotQuicksort$Merger"), (127, u "MAX_MIXED_INSERTION_SORT_SIZE"), (2, u "MAX_INSERTION_SORT_SIZE"), (1, u "MIN_PARALLEL_SORT_SIZE"), (1, u "MIN_TRY_MERGE_SIZE"), (0, u "MIN_FIRST_RUN_SIZE"), (1, u "MIN_FIRST_RUNS_FACTOR"), (1, u "MAX_RUN_CAPACITY"), (1, u "MIN_RUN_COUNT"), (1, u "MIN_PARALLEL_MERGE_PARTS_SIZE"), (0, u "MIN_BYTE_COUNTING_SORT_SIZE"), (1, u "MIN_SHORT_OR_CHAR_COUNTING_SORT_SIZE"), (1, u "DELTA"), (1, u "MAX_RECURSION_DEPTH"), (1, u "NUM_BYTE_VALUES"), (1, u "MAX_BYTE_INDEX"), (0, u "NUM_CHAR_VALUES"), (0, u "NUM_SHORT_VALUES"), (0, u "MAX_SHORT_INDEX")] 86

def k5m0 : Method := { name := "<init>", desc := "()V", sig := { parameters := [], returnType := none }, accessFlags := 2, code := none }
def k5c1 : Code := { maxStack := 9, maxLocals := 7, code := jdk_2529_method_3_code, exceptionTable := #[], attributes := #[] }
def k5m1 : Method := { name := "sort", desc := "([IIII)V", sig := { parameters := [(.array .int), .int, .int, .int], returnType := none }, accessFlags := 8, code := some k5c1 }
def k5c2 : Code := { maxStack := 6, maxLocals := 21, code := jdk_2529_method_4_code, exceptionTable := #[], attributes := #[] }
def k5m2 : Method := { name := "sort", desc := "(Ljava/util/DualPivotQuicksort$Sorter;[IIII)V", sig := { parameters := [(.object "java/util/DualPivotQuicksort$Sorter"), (.array .int), .int, .int, .int], returnType := none }, accessFlags := 8, code := some k5c2 }
def k5c3 : Code := { maxStack := 4, maxLocals := 8, code := jdk_2529_method_5_code, exceptionTable := #[], attributes := #[] }
def k5m3 : Method := { name := "mixedInsertionSort", desc := "([IIII)V", sig := { parameters := [(.array .int), .int, .int, .int], returnType := none }, accessFlags := 10, code := some k5c3 }
def k5c4 : Code := { maxStack := 4, maxLocals := 6, code := jdk_2529_method_6_code, exceptionTable := #[], attributes := #[] }
def k5m4 : Method := { name := "insertionSort", desc := "([III)V", sig := { parameters := [(.array .int), .int, .int], returnType := none }, accessFlags := 10, code := some k5c4 }
def k5c5 : Code := { maxStack := 8, maxLocals := 12, code := jdk_2529_method_9_code, exceptionTable := #[], attributes := #[] }
def k5m5 : Method := { name := "tryMergeRuns", desc := "(Ljava/util/DualPivotQuicksort$Sorter;[III)Z", sig := { parameters := [(.object "java/util/DualPivotQuicksort$Sorter"), (.array .int), .int, .int], returnType := some .boolean }, accessFlags := 10, code := some k5c5 }
/-- java/util/DualPivotQuicksort -/
def k5 : Class := { plain "java/util/DualPivotQuicksort" (some 0) with
  accessFlags := 48
  interfaces := #[]
  cf := some (fileOf pool5 1 #[.nestMembers #[73, 85, 17]] #[{ accessFlags := 2, nameIndex := 11, descriptorIndex := 12, attributes := #[] }, { accessFlags := 8, nameIndex := 28, descriptorIndex := 33, attributes := #[] }, { accessFlags := 8, nameIndex := 28, descriptorIndex := 29, attributes := #[] }, { accessFlags := 10, nameIndex := 32, descriptorIndex := 33, attributes := #[] }, { accessFlags := 10, nameIndex := 36, descriptorIndex := 37, attributes := #[] }, { accessFlags := 10, nameIndex := 40, descriptorIndex := 41, attributes := #[] }] 48 8 #[] #[{ accessFlags := 26, nameIndex := 214, descriptorIndex := 68, attributes := #[] }, { accessFlags := 26, nameIndex := 217, descriptorIndex := 68, attributes := #[] }, { accessFlags := 26, nameIndex := 219, descriptorIndex := 68, attributes := #[] }, { accessFlags := 26, nameIndex := 221, descriptorIndex := 68, attributes := #[] }, { accessFlags := 26, nameIndex := 222, descriptorIndex := 68, attributes := #[] }, { accessFlags := 26, nameIndex := 224, descriptorIndex := 68, attributes := #[] }, { accessFlags := 26, nameIndex := 226, descriptorIndex := 68, attributes := #[] }, { accessFlags := 26, nameIndex := 228, descriptorIndex := 68, attributes := #[] }, { accessFlags := 26, nameIndex := 230, descriptorIndex := 68, attributes := #[] }, { accessFlags := 26, nameIndex := 231, descriptorIndex := 68, attributes := #[] }, { accessFlags := 26, nameIndex := 233, descriptorIndex := 68, attributes := #[] }, { accessFlags := 26, nameIndex := 235, descriptorIndex := 68, attributes := #[] }, { accessFlags := 26, nameIndex := 237, descriptorIndex := 68, attributes := #[] }, { accessFlags := 26, nameIndex := 239, descriptorIndex := 68, attributes := #[] }, { accessFlags := 26, nameIndex := 241, descriptorIndex := 68, attributes := #[] }, { accessFlags := 26, nameIndex := 242, descriptorIndex := 68, attributes := #[] }, { accessFlags := 26, nameIndex := 243, descriptorIndex := 68, attributes := #[] }, { accessFlags := 26, nameIndex := 244, descriptorIndex := 68, attributes := #[] }])
  fields := #[{ name := "MAX_MIXED_INSERTION_SORT_SIZE", type := .int, accessFlags := 26, slot := 0, constantValue := 0 }, { name := "MAX_INSERTION_SORT_SIZE", type := .int, accessFlags := 26, slot := 1, constantValue := 0 }, { name := "MIN_PARALLEL_SORT_SIZE", type := .int, accessFlags := 26, slot := 2, constantValue := 0 }, { name := "MIN_TRY_MERGE_SIZE", type := .int, accessFlags := 26, slot := 3, constantValue := 0 }, { name := "MIN_FIRST_RUN_SIZE", type := .int, accessFlags := 26, slot := 4, constantValue := 0 }, { name := "MIN_FIRST_RUNS_FACTOR", type := .int, accessFlags := 26, slot := 5, constantValue := 0 }, { name := "MAX_RUN_CAPACITY", type := .int, accessFlags := 26, slot := 6, constantValue := 0 }, { name := "MIN_RUN_COUNT", type := .int, accessFlags := 26, slot := 7, constantValue := 0 }, { name := "MIN_PARALLEL_MERGE_PARTS_SIZE", type := .int, accessFlags := 26, slot := 8, constantValue := 0 }, { name := "MIN_BYTE_COUNTING_SORT_SIZE", type := .int, accessFlags := 26, slot := 9, constantValue := 0 }, { name := "MIN_SHORT_OR_CHAR_COUNTING_SORT_SIZE", type := .int, accessFlags := 26, slot := 10, constantValue := 0 }, { name := "DELTA", type := .int, accessFlags := 26, slot := 11, constantValue := 0 }, { name := "MAX_RECURSION_DEPTH", type := .int, accessFlags := 26, slot := 12, constantValue := 0 }, { name := "NUM_BYTE_VALUES", type := .int, accessFlags := 26, slot := 13, constantValue := 0 }, { name := "MAX_BYTE_INDEX", type := .int, accessFlags := 26, slot := 14, constantValue := 0 }, { name := "NUM_CHAR_VALUES", type := .int, accessFlags := 26, slot := 15, constantValue := 0 }, { name := "NUM_SHORT_VALUES", type := .int, accessFlags := 26, slot := 16, constantValue := 0 }, { name := "MAX_SHORT_INDEX", type := .int, accessFlags := 26, slot := 17, constantValue := 0 }]
  methods := #[k5m0, k5m1, k5m2, k5m3, k5m4, k5m5]
  instanceTypes := #[]
  staticTypes := #[.int, .int, .int, .int, .int, .int, .int, .int, .int, .int, .int, .int, .int, .int, .int, .int, .int, .int]
  resolved := Array.replicate 331 none
  statics := none }

def pool6 : Array CpInfo := pool [(1, .class_ 2), (0, u "java/lang/Math"), (1, .class_ 6), (1, u "java/lang/Object"), (0, u "<init>"), (0, u "()V"), (89, .class_ 100), (1, u "java/lang/Math$RandomNumberGeneratorHolder"), (71, u "negativeZeroFloatBits"), (0, u "J"), (2, u "negativeZeroDoubleBits"), (21, u "max"), (2, u "min"), (43, u "$assertionsDisabled"), (0, u "Z"), (88, u "(II)I"), (2, u "twoToTheDoubleScaleDown"), (0, u "D"), (4, u "twoToTheDoubleScaleUp"), (9, u "E"), (3, u "PI"), (2, u "TAU"), (2, u "DEGREES_TO_RADIANS"), (0, u "RADIANS_TO_DEGREES")] 94

def k6m0 : Method := { name := "<init>", desc := "()V", sig := { parameters := [], returnType := none }, accessFlags := 2, code := none }
def k6c1 : Code := { maxStack := 2, maxLocals := 2, code := jdk_29_method_65_code, exceptionTable := #[], attributes := #[] }
def k6m1 : Method := { name := "max", desc := "(II)I", sig := { parameters := [.int, .int], returnType := some .int }, accessFlags := 9, code := some k6c1 }
def k6c2 : Code := { maxStack := 2, maxLocals := 2, code := jdk_29_method_69_code, exceptionTable := #[], attributes := #[] }
def k6m2 : Method := { name := "min", desc := "(II)I", sig := { parameters := [.int, .int], returnType := some .int }, accessFlags := 9, code := some k6c2 }
/-- java/lang/Math -/
def k6 : Class := { plain "java/lang/Math" (some 0) with
  accessFlags := 49
  interfaces := #[]
  cf := some (fileOf pool6 1 #[.nestMembers #[98]] #[{ accessFlags := 2, nameIndex := 7, descriptorIndex := 8, attributes := #[] }, { accessFlags := 9, nameIndex := 198, descriptorIndex := 335, attributes := #[] }, { accessFlags := 9, nameIndex := 201, descriptorIndex := 335, attributes := #[] }] 49 4 #[] #[{ accessFlags := 25, nameIndex := 354, descriptorIndex := 339, attributes := #[] }, { accessFlags := 25, nameIndex := 358, descriptorIndex := 339, attributes := #[] }, { accessFlags := 25, nameIndex := 361, descriptorIndex := 339, attributes := #[] }, { accessFlags := 26, nameIndex := 364, descriptorIndex := 339, attributes := #[] }, { accessFlags := 26, nameIndex := 365, descriptorIndex := 339, attributes := #[] }, { accessFlags := 26, nameIndex := 172, descriptorIndex := 173, attributes := #[] }, { accessFlags := 26, nameIndex := 176, descriptorIndex := 173, attributes := #[] }, { accessFlags := 8, nameIndex := 344, descriptorIndex := 339, attributes := #[] }, { accessFlags := 8, nameIndex := 338, descriptorIndex := 339, attributes := #[] }, { accessFlags := 4120, nameIndex := 245, descriptorIndex := 246, attributes := #[] }])
  fields := #[{ name := "E", type := .double, accessFlags := 25, slot := 0, constantValue := 0 }, { name := "PI", type := .double, accessFlags := 25, slot := 1, constantValue := 0 }, { name := "TAU", type := .double, accessFlags := 25, slot := 2, constantValue := 0 }, { name := "DEGREES_TO_RADIANS", type := .double, accessFlags := 26, slot := 3, constantValue := 0 }, { name := "RADIANS_TO_DEGREES", type := .double, accessFlags := 26, slot := 4, constantValue := 0 }, { name := "negativeZeroFloatBits", type := .long, accessFlags := 26, slot := 5, constantValue := 0 }, { name := "negativeZeroDoubleBits", type := .long, accessFlags := 26, slot := 6, constantValue := 0 }, { name := "twoToTheDoubleScaleUp", type := .double, accessFlags := 8, slot := 7, constantValue := 0 }, { name := "twoToTheDoubleScaleDown", type := .double, accessFlags := 8, slot := 8, constantValue := 0 }, { name := "$assertionsDisabled", type := .boolean, accessFlags := 4120, slot := 9, constantValue := 0 }]
  methods := #[k6m0, k6m1, k6m2]
  instanceTypes := #[]
  staticTypes := #[.double, .double, .double, .double, .double, .long, .long, .double, .double, .boolean]
  resolved := Array.replicate 460 none
  statics := none }

def pool7 : Array CpInfo := pool [(2, .class_ 4), (1, u "java/lang/Object"), (0, u "<init>"), (0, u "()V"), (1, .class_ 10), (1, u "java/lang/System"), (0, u "allowSecurityManager"), (0, u "I"), (16, u "cons"), (0, u "Ljava/io/Console;"), (77, .class_ 110), (1, u "java/lang/System$CallersHolder"), (43, u "initialErrStream"), (0, u "Ljava/io/PrintStream;"), (19, u "security"), (0, u "Ljava/lang/SecurityManager;"), (31, .class_ 209), (0, u "java/lang/System$1"), (7, u "props"), (0, u "Ljava/util/Properties;"), (2, u "lineSeparator"), (0, u "Ljava/lang/String;"), (96, .class_ 321), (1, u "java/lang/System$LoggerFinder"), (5, .class_ 328), (0, u "java/lang/System$Logger"), (67, u "err"), (2, u "out"), (91, u "notSupportedJnuEncoding"), (15, u "in"), (17, u "initialIn"), (0, u "Ljava/io/InputStream;"), (35, u "bootLayer"), (0, u "Ljava/lang/ModuleLayer;"), (99, .class_ 664), (0, u "java/lang/System$2"), (9, u "NEVER"), (2, u "MAYBE"), (49, u "arraycopy"), (0, u "(Ljava/lang/Object;ILjava/lang/Object;II)V"), (72, .class_ 802), (0, u "java/lang/System$Logger$Level")] 31

def k7m0 : Method := { name := "<init>", desc := "()V", sig := { parameters := [], returnType := none }, accessFlags := 2, code := none }
def k7m1 : Method := { name := "arraycopy", desc := "(Ljava/lang/Object;ILjava/lang/Object;II)V", sig := { parameters := [(.object "java/lang/Object"), .int, (.object "java/lang/Object"), .int, .int], returnType := none }, accessFlags := 265, code := none }
/-- java/lang/System -/
def k7 : Class := { plain "java/lang/System" (some 0) with
  accessFlags := 49
  interfaces := #[]
  cf := some (fileOf pool7 8 #[.nestMembers #[319, 327, 801, 108, 663, 208]] #[{ accessFlags := 2, nameIndex := 5, descriptorIndex := 6, attributes := #[] }, { accessFlags := 265, nameIndex := 727, descriptorIndex := 728, attributes := #[] }] 49 2 #[] #[{ accessFlags := 25, nameIndex := 507, descriptorIndex := 526, attributes := #[] }, { accessFlags := 25, nameIndex := 399, descriptorIndex := 155, attributes := #[] }, { accessFlags := 25, nameIndex := 396, descriptorIndex := 155, attributes := #[] }, { accessFlags := 10, nameIndex := 525, descriptorIndex := 526, attributes := #[] }, { accessFlags := 26, nameIndex := 674, descriptorIndex := 12, attributes := #[] }, { accessFlags := 26, nameIndex := 677, descriptorIndex := 12, attributes := #[] }, { accessFlags := 10, nameIndex := 11, descriptorIndex := 12, attributes := #[] }, { accessFlags := 74, nameIndex := 175, descriptorIndex := 176, attributes := #[] }, { accessFlags := 10, nameIndex := 491, descriptorIndex := 222, attributes := #[] }, { accessFlags := 74, nameIndex := 29, descriptorIndex := 30, attributes := #[] }, { accessFlags := 74, nameIndex := 154, descriptorIndex := 155, attributes := #[] }, { accessFlags := 10, nameIndex := 217, descriptorIndex := 218, attributes := #[] }, { accessFlags := 10, nameIndex := 221, descriptorIndex := 222, attributes := #[] }, { accessFlags := 8, nameIndex := 562, descriptorIndex := 563, attributes := #[] }])
  fields := #[{ name := "in", type := (.object "java/io/InputStream"), accessFlags := 25, slot := 0, constantValue := 0 }, { name := "out", type := (.object "java/io/PrintStream"), accessFlags := 25, slot := 1, constantValue := 0 }, { name := "err", type := (.object "java/io/PrintStream"), accessFlags := 25, slot := 2, constantValue := 0 }, { name := "initialIn", type := (.object "java/io/InputStream"), accessFlags := 10, slot := 3, constantValue := 0 }, { name := "NEVER", type := .int, accessFlags := 26, slot := 4, constantValue := 0 }, { name := "MAYBE", type := .int, accessFlags := 26, slot := 5, constantValue := 0 }, { name := "allowSecurityManager", type := .int, accessFlags := 10, slot := 6, constantValue := 0 }, { name := "security", type := (.object "java/lang/SecurityManager"), accessFlags := 74, slot := 7, constantValue := 0 }, { name := "notSupportedJnuEncoding", type := (.object "java/lang/String"), accessFlags := 10, slot := 8, constantValue := 0 }, { name := "cons", type := (.object "java/io/Console"), accessFlags := 74, slot := 9, constantValue := 0 }, { name := "initialErrStream", type := (.object "java/io/PrintStream"), accessFlags := 74, slot := 10, constantValue := 0 }, { name := "props", type := (.object "java/util/Properties"), accessFlags := 10, slot := 11, constantValue := 0 }, { name := "lineSeparator", type := (.object "java/lang/String"), accessFlags := 10, slot := 12, constantValue := 0 }, { name := "bootLayer", type := (.object "java/lang/ModuleLayer"), accessFlags := 8, slot := 13, constantValue := 0 }]
  methods := #[k7m0, k7m1]
  instanceTypes := #[]
  staticTypes := #[(.object "java/io/InputStream"), (.object "java/io/PrintStream"), (.object "java/io/PrintStream"), (.object "java/io/InputStream"), .int, .int, .int, (.object "java/lang/SecurityManager"), (.object "java/lang/String"), (.object "java/io/Console"), (.object "java/io/PrintStream"), (.object "java/util/Properties"), (.object "java/lang/String"), (.object "java/lang/ModuleLayer")]
  resolved := Array.replicate 834 none
  statics := none }

def pool8 : Array CpInfo := pool [(1, u "java/io/Serializable"), (0, .class_ 1), (0, u "java/lang/Object"), (0, .class_ 3)] 3

/-- java/io/Serializable -/
def k8 : Class := { plain "java/io/Serializable" (some 0) with
  accessFlags := 1537
  interfaces := #[]
  cf := some (fileOf pool8 2 #[] #[] 1537 4 #[] #[])
  fields := #[]
  methods := #[]
  instanceTypes := #[]
  staticTypes := #[]
  resolved := Array.replicate 8 none
  statics := none }

/-- the primitive byte -/
def k9 : Class := { plain "byte" none with kind := .primitive 'B', accessFlags := 0x411 }
/-- [B -/
def k10 : Class := { plain "[B" (some 0) with kind := .array 9 .byte, interfaces := #[3, 8], accessFlags := 1041 }

/-- the primitive int -/
def k11 : Class := { plain "int" none with kind := .primitive 'I', accessFlags := 0x411 }
/-- [I -/
def k12 : Class := { plain "[I" (some 0) with kind := .array 11 .int, interfaces := #[3, 8], accessFlags := 1041 }

/-- the primitive long -/
def k13 : Class := { plain "long" none with kind := .primitive 'J', accessFlags := 0x411 }
/-- [J -/
def k14 : Class := { plain "[J" (some 0) with kind := .array 13 .long, interfaces := #[3, 8], accessFlags := 1041 }
/-- [[J -/
def k15 : Class := { plain "[[J" (some 0) with kind := .array 14 (.array .long), interfaces := #[3, 8], accessFlags := 1041 }

def heap : Heap := #[]
def classes : Array Class := #[k0, k1, k2, k3, k4, k5, k6, k7, k8, k9, k10, k11, k12, k13, k14, k15]
def interned : List (Array UInt16 × Addr) := []
def slotsUsed : Nat := 0
def theMethod : MethodId := ⟨1, 2⟩
def args0 : Array Value := #[.int 5, .int 5, .int 3, .int 4, .int 1]
def aboutOver (below : List Frame) : State where
  vm := { classes := classes, interned := interned.toArray }
  heap := heap
  slotsUsed := slotsUsed
  threads := #[{ frames := .invoking theMethod args0 :: below }]
def below0 : List Frame := [.native { method := ⟨0, 0⟩, args := #[] }]
def about1 : State := aboutOver below0
def p0 : Program := .bare "" "" ""
def e0 : Env := launch0.env 0 0 0
theorem w_frames : about1.frames = Frame.invoking theMethod args0 :: below0 := rfl
set_option maxRecDepth 65536 in
theorem w_args : argsFit about1.vm theMethod args0 = true := by decide +kernel
set_option maxRecDepth 65536 in
theorem w_heap : heapFits about1 = true := by decide +kernel
set_option maxRecDepth 65536 in
theorem w_runnable : about1.curStatus? = some .runnable := by decide +kernel
set_option maxRecDepth 65536 in
theorem w_alone : about1.alone = true := by decide +kernel
set_option maxRecDepth 65536 in
theorem w_named : about1.methodNamed? x = some theMethod := by decide +kernel
set_option maxRecDepth 65536 in
theorem w_hears : about1.hears theMethod below0 = true := by decide +kernel
set_option maxRecDepth 65536 in
theorem w_ripe : about1.ripe theMethod args0 below0 = true := by decide +kernel
theorem w_running : about1.status = .running := rfl
set_option maxRecDepth 65536 in
theorem w_room : about1.hasRoom e0.platform room_1 = true :=
  launch0.hasRoom_least _ room_1 (by decide +kernel) (by decide +kernel) (by decide +kernel) (by decide +kernel) (by decide +kernel) (by decide +kernel)
theorem allAtoms_all (ts : List Jvm.Cond) (a : Array Jvm.Value) (st : Jvm.State) : (allAtoms ts).before a st = ts.all (fun c => c.before a st) := by
  induction ts with
  | nil => rfl
  | cons c t ih =>
    show (Jvm.Cond.and c (allAtoms t)).before a st = _
    rw [Jvm.Cond.before_and, ih, List.all_cons]
def words1 : List Jvm.Cond := Jvm.Cond.code x code maxLocals ret :: tables_1
/-- a 'code' word, met by the world's own term for the bytes: nothing is compared byte by byte -/
theorem code_word {y : MethodName} {bytes : ByteArray} {mx : Nat} {rt : Option FieldType} {a : Array Value} {s : State} {m : MethodId} {meth : Method} {c : Code} (h1 : s.methodNamed? y = some m) (h2 : s.vm.method? m = some meth) (h3 : meth.code = some c) (h4 : c.code = bytes)
    (h5 : (c.maxLocals == mx && c.exceptionTable.isEmpty && decide (c.maxStack ≤ mostOperands) && decide (meth.sig.returnType = rt) && !meth.locks && decide (parseMethodDescriptor y.desc = some meth.sig)) = true) : (Jvm.Cond.code y bytes mx rt).before a s = true := by
  simp only [Bool.and_eq_true, beq_iff_eq, Bool.not_eq_true', decide_eq_true_eq] at h5
  obtain ⟨⟨⟨⟨⟨g1, g2⟩, g3⟩, g4⟩, g5⟩, g6⟩ := h5
  simp [Cond.before, Cond.holds, Cond.value, h1, h2, h3, h4, g1, g2, g3, g4, g5, g6]
def isCode : Jvm.Cond → Bool
  | .code _ _ _ _ => true
  | _ => false
theorem all_split {L : List Jvm.Cond} {P : Jvm.Cond → Bool} (h1 : L.all (fun c => isCode c || P c) = true) (h2 : ∀ c ∈ L.filter isCode, P c = true) : L.all P = true := by
  refine List.all_eq_true.mpr fun c hc => ?_
  have h := List.all_eq_true.mp h1 c hc
  rcases Bool.eq_false_or_eq_true (isCode c) with hi | hi
  · exact h2 c (List.mem_filter.mpr ⟨hc, hi⟩)
  · simpa [hi] using h
set_option maxRecDepth 65536 in
theorem w_c0 : (Jvm.Cond.code x code maxLocals ret).before args0 about1 = true := code_word (m := ⟨1, 2⟩) (meth := k1m2) (c := k1c2) (by decide +kernel) rfl rfl rfl (by decide +kernel)
set_option maxRecDepth 65536 in
theorem w_c1 : (Jvm.Cond.code ({ cls := "com/example/corpusmith/corpusmith/ocr/EditRows", name := "<init>", desc := "([I[I)V" } : Jvm.MethodName) prog_102_method_1_code (10 : Nat) (Option.none : Option Jvm.ClassFile.FieldType)).before args0 about1 = true := code_word (m := ⟨2, 0⟩) (meth := k2m0) (c := k2c0) (by decide +kernel) rfl rfl rfl (by decide +kernel)
set_option maxRecDepth 65536 in
theorem w_c2 : (Jvm.Cond.code ({ cls := "java/lang/Object", name := "<init>", desc := "()V" } : Jvm.MethodName) object_method_1_code (1 : Nat) (Option.none : Option Jvm.ClassFile.FieldType)).before args0 about1 = true := code_word (m := ⟨0, 0⟩) (meth := k0m0) (c := k0c0) (by decide +kernel) rfl rfl rfl (by decide +kernel)
set_option maxRecDepth 65536 in
theorem w_c3 : (Jvm.Cond.code ({ cls := "com/example/corpusmith/corpusmith/ocr/EditRows", name := "longs", desc := "(I)I" } : Jvm.MethodName) prog_102_method_9_code (1 : Nat) (Option.some Jvm.ClassFile.FieldType.int)).before args0 about1 = true := code_word (m := ⟨2, 6⟩) (meth := k2m6) (c := k2c6) (by decide +kernel) rfl rfl rfl (by decide +kernel)
set_option maxRecDepth 65536 in
theorem w_c4 : (Jvm.Cond.code ({ cls := "java/util/Arrays", name := "sort", desc := "([I)V" } : Jvm.MethodName) jdk_65_method_2_code (1 : Nat) (Option.none : Option Jvm.ClassFile.FieldType)).before args0 about1 = true := code_word (m := ⟨4, 1⟩) (meth := k4m1) (c := k4c1) (by decide +kernel) rfl rfl rfl (by decide +kernel)
set_option maxRecDepth 65536 in
theorem w_c5 : (Jvm.Cond.code ({ cls := "java/util/DualPivotQuicksort", name := "sort", desc := "([IIII)V" } : Jvm.MethodName) jdk_2529_method_3_code (7 : Nat) (Option.none : Option Jvm.ClassFile.FieldType)).before args0 about1 = true := code_word (m := ⟨5, 1⟩) (meth := k5m1) (c := k5c1) (by decide +kernel) rfl rfl rfl (by decide +kernel)
set_option maxRecDepth 65536 in
theorem w_c6 : (Jvm.Cond.code ({ cls := "java/util/DualPivotQuicksort", name := "sort", desc := "(Ljava/util/DualPivotQuicksort$Sorter;[IIII)V" } : Jvm.MethodName) jdk_2529_method_4_code (21 : Nat) (Option.none : Option Jvm.ClassFile.FieldType)).before args0 about1 = true := code_word (m := ⟨5, 2⟩) (meth := k5m2) (c := k5c2) (by decide +kernel) rfl rfl rfl (by decide +kernel)
set_option maxRecDepth 65536 in
theorem w_c7 : (Jvm.Cond.code ({ cls := "java/util/DualPivotQuicksort", name := "tryMergeRuns", desc := "(Ljava/util/DualPivotQuicksort$Sorter;[III)Z" } : Jvm.MethodName) jdk_2529_method_9_code (12 : Nat) (Option.some Jvm.ClassFile.FieldType.boolean)).before args0 about1 = true := code_word (m := ⟨5, 5⟩) (meth := k5m5) (c := k5c5) (by decide +kernel) rfl rfl rfl (by decide +kernel)
set_option maxRecDepth 65536 in
theorem w_c8 : (Jvm.Cond.code ({ cls := "java/util/DualPivotQuicksort", name := "mixedInsertionSort", desc := "([IIII)V" } : Jvm.MethodName) jdk_2529_method_5_code (8 : Nat) (Option.none : Option Jvm.ClassFile.FieldType)).before args0 about1 = true := code_word (m := ⟨5, 3⟩) (meth := k5m3) (c := k5c3) (by decide +kernel) rfl rfl rfl (by decide +kernel)
set_option maxRecDepth 65536 in
theorem w_c9 : (Jvm.Cond.code ({ cls := "java/util/DualPivotQuicksort", name := "insertionSort", desc := "([III)V" } : Jvm.MethodName) jdk_2529_method_6_code (6 : Nat) (Option.none : Option Jvm.ClassFile.FieldType)).before args0 about1 = true := code_word (m := ⟨5, 4⟩) (meth := k5m4) (c := k5c4) (by decide +kernel) rfl rfl rfl (by decide +kernel)
set_option maxRecDepth 65536 in
theorem w_c10 : (Jvm.Cond.code ({ cls := "java/util/Arrays", name := "binarySearch", desc := "([IIII)I" } : Jvm.MethodName) jdk_65_method_58_code (4 : Nat) (Option.some Jvm.ClassFile.FieldType.int)).before args0 about1 = true := code_word (m := ⟨4, 3⟩) (meth := k4m3) (c := k4c3) (by decide +kernel) rfl rfl rfl (by decide +kernel)
set_option maxRecDepth 65536 in
theorem w_c11 : (Jvm.Cond.code ({ cls := "java/util/Arrays", name := "rangeCheck", desc := "(III)V" } : Jvm.MethodName) jdk_65_method_30_code (3 : Nat) (Option.none : Option Jvm.ClassFile.FieldType)).before args0 about1 = true := code_word (m := ⟨4, 2⟩) (meth := k4m2) (c := k4c2) (by decide +kernel) rfl rfl rfl (by decide +kernel)
set_option maxRecDepth 65536 in
theorem w_c12 : (Jvm.Cond.code ({ cls := "java/util/Arrays", name := "binarySearch0", desc := "([IIII)I" } : Jvm.MethodName) jdk_65_method_59_code (8 : Nat) (Option.some Jvm.ClassFile.FieldType.int)).before args0 about1 = true := code_word (m := ⟨4, 4⟩) (meth := k4m4) (c := k4c4) (by decide +kernel) rfl rfl rfl (by decide +kernel)
set_option maxRecDepth 65536 in
theorem w_c13 : (Jvm.Cond.code ({ cls := "java/util/Arrays", name := "copyOf", desc := "([II)[I" } : Jvm.MethodName) jdk_65_method_123_code (3 : Nat) (Option.some (Jvm.ClassFile.FieldType.array Jvm.ClassFile.FieldType.int))).before args0 about1 = true := code_word (m := ⟨4, 6⟩) (meth := k4m6) (c := k4c6) (by decide +kernel) rfl rfl rfl (by decide +kernel)
set_option maxRecDepth 65536 in
theorem w_c14 : (Jvm.Cond.code ({ cls := "java/lang/Math", name := "min", desc := "(II)I" } : Jvm.MethodName) jdk_29_method_69_code (2 : Nat) (Option.some Jvm.ClassFile.FieldType.int)).before args0 about1 = true := code_word (m := ⟨6, 2⟩) (meth := k6m2) (c := k6c2) (by decide +kernel) rfl rfl rfl (by decide +kernel)
set_option maxRecDepth 65536 in
theorem w_c15 : (Jvm.Cond.code ({ cls := "java/lang/Math", name := "max", desc := "(II)I" } : Jvm.MethodName) jdk_29_method_65_code (2 : Nat) (Option.some Jvm.ClassFile.FieldType.int)).before args0 about1 = true := code_word (m := ⟨6, 1⟩) (meth := k6m1) (c := k6c1) (by decide +kernel) rfl rfl rfl (by decide +kernel)
set_option maxRecDepth 65536 in
theorem w_c16 : (Jvm.Cond.code ({ cls := "java/util/Arrays", name := "fill", desc := "([JJ)V" } : Jvm.MethodName) jdk_65_method_101_code (5 : Nat) (Option.none : Option Jvm.ClassFile.FieldType)).before args0 about1 = true := code_word (m := ⟨4, 5⟩) (meth := k4m5) (c := k4c5) (by decide +kernel) rfl rfl rfl (by decide +kernel)
set_option maxRecDepth 65536 in
theorem w_c17 : (Jvm.Cond.code ({ cls := "com/example/corpusmith/corpusmith/ocr/EditRows", name := "values", desc := "([I)V" } : Jvm.MethodName) prog_102_method_6_code (4 : Nat) (Option.none : Option Jvm.ClassFile.FieldType)).before args0 about1 = true := code_word (m := ⟨2, 3⟩) (meth := k2m3) (c := k2c3) (by decide +kernel) rfl rfl rfl (by decide +kernel)
set_option maxRecDepth 65536 in
theorem w_c18 : (Jvm.Cond.code ({ cls := "com/example/corpusmith/corpusmith/ocr/EditRows", name := "row", desc := "()I" } : Jvm.MethodName) prog_102_method_4_code (1 : Nat) (Option.some Jvm.ClassFile.FieldType.int)).before args0 about1 = true := code_word (m := ⟨2, 1⟩) (meth := k2m1) (c := k2c1) (by decide +kernel) rfl rfl rfl (by decide +kernel)
set_option maxRecDepth 65536 in
theorem w_c19 : (Jvm.Cond.code ({ cls := "com/example/corpusmith/corpusmith/ocr/EditRowsValuesPinLaw", name := "expected", desc := "(IIIII)I" } : Jvm.MethodName) method_2_code (6 : Nat) (Option.some Jvm.ClassFile.FieldType.int)).before args0 about1 = true := code_word (m := ⟨1, 1⟩) (meth := k1m1) (c := k1c1) (by decide +kernel) rfl rfl rfl (by decide +kernel)
set_option maxRecDepth 65536 in
theorem w_c20 : (Jvm.Cond.code ({ cls := "com/example/corpusmith/corpusmith/ocr/EditRows", name := "advance", desc := "()V" } : Jvm.MethodName) prog_102_method_5_code (3 : Nat) (Option.none : Option Jvm.ClassFile.FieldType)).before args0 about1 = true := code_word (m := ⟨2, 2⟩) (meth := k2m2) (c := k2c2) (by decide +kernel) rfl rfl rfl (by decide +kernel)
set_option maxRecDepth 65536 in
theorem w_c21 : (Jvm.Cond.code ({ cls := "com/example/corpusmith/corpusmith/ocr/EditRows", name := "step", desc := "([J)V" } : Jvm.MethodName) prog_102_method_7_code (19 : Nat) (Option.none : Option Jvm.ClassFile.FieldType)).before args0 about1 = true := code_word (m := ⟨2, 4⟩) (meth := k2m4) (c := k2c4) (by decide +kernel) rfl rfl rfl (by decide +kernel)
set_option maxRecDepth 65536 in
theorem w_c22 : (Jvm.Cond.code ({ cls := "com/example/corpusmith/corpusmith/ocr/EditRows", name := "flip", desc := "(I)V" } : Jvm.MethodName) prog_102_method_8_code (3 : Nat) (Option.none : Option Jvm.ClassFile.FieldType)).before args0 about1 = true := code_word (m := ⟨2, 5⟩) (meth := k2m5) (c := k2c5) (by decide +kernel) rfl rfl rfl (by decide +kernel)
def codes1 : List Jvm.Cond := [Jvm.Cond.code x code maxLocals ret, Jvm.Cond.code ({ cls := "com/example/corpusmith/corpusmith/ocr/EditRows", name := "<init>", desc := "([I[I)V" } : Jvm.MethodName) prog_102_method_1_code (10 : Nat) (Option.none : Option Jvm.ClassFile.FieldType), Jvm.Cond.code ({ cls := "java/lang/Object", name := "<init>", desc := "()V" } : Jvm.MethodName) object_method_1_code (1 : Nat) (Option.none : Option Jvm.ClassFile.FieldType), Jvm.Cond.code ({ cls := "com/example/corpusmith/corpusmith/ocr/EditRows", name := "longs", desc := "(I)I" } : Jvm.MethodName) prog_102_method_9_code (1 : Nat) (Option.some Jvm.ClassFile.FieldType.int), Jvm.Cond.code ({ cls := "java/util/Arrays", name := "sort", desc := "([I)V" } : Jvm.MethodName) jdk_65_method_2_code (1 : Nat) (Option.none : Option Jvm.ClassFile.FieldType), Jvm.Cond.code ({ cls := "java/util/DualPivotQuicksort", name := "sort", desc := "([IIII)V" } : Jvm.MethodName) jdk_2529_method_3_code (7 : Nat) (Option.none : Option Jvm.ClassFile.FieldType), Jvm.Cond.code ({ cls := "java/util/DualPivotQuicksort", name := "sort", desc := "(Ljava/util/DualPivotQuicksort$Sorter;[IIII)V" } : Jvm.MethodName) jdk_2529_method_4_code (21 : Nat) (Option.none : Option Jvm.ClassFile.FieldType), Jvm.Cond.code ({ cls := "java/util/DualPivotQuicksort", name := "tryMergeRuns", desc := "(Ljava/util/DualPivotQuicksort$Sorter;[III)Z" } : Jvm.MethodName) jdk_2529_method_9_code (12 : Nat) (Option.some Jvm.ClassFile.FieldType.boolean), Jvm.Cond.code ({ cls := "java/util/DualPivotQuicksort", name := "mixedInsertionSort", desc := "([IIII)V" } : Jvm.MethodName) jdk_2529_method_5_code (8 : Nat) (Option.none : Option Jvm.ClassFile.FieldType), Jvm.Cond.code ({ cls := "java/util/DualPivotQuicksort", name := "insertionSort", desc := "([III)V" } : Jvm.MethodName) jdk_2529_method_6_code (6 : Nat) (Option.none : Option Jvm.ClassFile.FieldType), Jvm.Cond.code ({ cls := "java/util/Arrays", name := "binarySearch", desc := "([IIII)I" } : Jvm.MethodName) jdk_65_method_58_code (4 : Nat) (Option.some Jvm.ClassFile.FieldType.int), Jvm.Cond.code ({ cls := "java/util/Arrays", name := "rangeCheck", desc := "(III)V" } : Jvm.MethodName) jdk_65_method_30_code (3 : Nat) (Option.none : Option Jvm.ClassFile.FieldType), Jvm.Cond.code ({ cls := "java/util/Arrays", name := "binarySearch0", desc := "([IIII)I" } : Jvm.MethodName) jdk_65_method_59_code (8 : Nat) (Option.some Jvm.ClassFile.FieldType.int), Jvm.Cond.code ({ cls := "java/util/Arrays", name := "copyOf", desc := "([II)[I" } : Jvm.MethodName) jdk_65_method_123_code (3 : Nat) (Option.some (Jvm.ClassFile.FieldType.array Jvm.ClassFile.FieldType.int)), Jvm.Cond.code ({ cls := "java/lang/Math", name := "min", desc := "(II)I" } : Jvm.MethodName) jdk_29_method_69_code (2 : Nat) (Option.some Jvm.ClassFile.FieldType.int), Jvm.Cond.code ({ cls := "java/lang/Math", name := "max", desc := "(II)I" } : Jvm.MethodName) jdk_29_method_65_code (2 : Nat) (Option.some Jvm.ClassFile.FieldType.int), Jvm.Cond.code ({ cls := "java/util/Arrays", name := "fill", desc := "([JJ)V" } : Jvm.MethodName) jdk_65_method_101_code (5 : Nat) (Option.none : Option Jvm.ClassFile.FieldType), Jvm.Cond.code ({ cls := "com/example/corpusmith/corpusmith/ocr/EditRows", name := "values", desc := "([I)V" } : Jvm.MethodName) prog_102_method_6_code (4 : Nat) (Option.none : Option Jvm.ClassFile.FieldType), Jvm.Cond.code ({ cls := "com/example/corpusmith/corpusmith/ocr/EditRows", name := "row", desc := "()I" } : Jvm.MethodName) prog_102_method_4_code (1 : Nat) (Option.some Jvm.ClassFile.FieldType.int), Jvm.Cond.code ({ cls := "com/example/corpusmith/corpusmith/ocr/EditRowsValuesPinLaw", name := "expected", desc := "(IIIII)I" } : Jvm.MethodName) method_2_code (6 : Nat) (Option.some Jvm.ClassFile.FieldType.int), Jvm.Cond.code ({ cls := "com/example/corpusmith/corpusmith/ocr/EditRows", name := "advance", desc := "()V" } : Jvm.MethodName) prog_102_method_5_code (3 : Nat) (Option.none : Option Jvm.ClassFile.FieldType), Jvm.Cond.code ({ cls := "com/example/corpusmith/corpusmith/ocr/EditRows", name := "step", desc := "([J)V" } : Jvm.MethodName) prog_102_method_7_code (19 : Nat) (Option.none : Option Jvm.ClassFile.FieldType), Jvm.Cond.code ({ cls := "com/example/corpusmith/corpusmith/ocr/EditRows", name := "flip", desc := "(I)V" } : Jvm.MethodName) prog_102_method_8_code (3 : Nat) (Option.none : Option Jvm.ClassFile.FieldType)]
set_option maxRecDepth 65536 in
theorem codes_eq : words1.filter isCode = codes1 := rfl
theorem w_codes : ∀ c ∈ words1.filter isCode, c.before args0 about1 = true := by
  rw [codes_eq]
  intro c hc
  simp only [codes1, List.mem_cons, List.not_mem_nil, or_false] at hc
  rcases hc with rfl | rfl | rfl | rfl | rfl | rfl | rfl | rfl | rfl | rfl | rfl | rfl | rfl | rfl | rfl | rfl | rfl | rfl | rfl | rfl | rfl | rfl | rfl
  · exact w_c0
  · exact w_c1
  · exact w_c2
  · exact w_c3
  · exact w_c4
  · exact w_c5
  · exact w_c6
  · exact w_c7
  · exact w_c8
  · exact w_c9
  · exact w_c10
  · exact w_c11
  · exact w_c12
  · exact w_c13
  · exact w_c14
  · exact w_c15
  · exact w_c16
  · exact w_c17
  · exact w_c18
  · exact w_c19
  · exact w_c20
  · exact w_c21
  · exact w_c22
set_option maxRecDepth 65536 in
theorem w_t1 : (words1.take 24).all (fun c => isCode c || c.before args0 about1) = true := by decide +kernel
set_option maxRecDepth 65536 in
theorem w_t2 : ((words1.drop 24).take 24).all (fun c => isCode c || c.before args0 about1) = true := by decide +kernel
set_option maxRecDepth 65536 in
theorem w_t3 : (((words1.drop 24).drop 24).take 24).all (fun c => isCode c || c.before args0 about1) = true := by decide +kernel
set_option maxRecDepth 65536 in
theorem w_t4 : ((((words1.drop 24).drop 24).drop 24).take 24).all (fun c => isCode c || c.before args0 about1) = true := by decide +kernel
set_option maxRecDepth 65536 in
theorem w_t5 : ((((words1.drop 24).drop 24).drop 24).drop 24).all (fun c => isCode c || c.before args0 about1) = true := by decide +kernel
theorem w_tables : (allAtoms (Jvm.Cond.code x code maxLocals ret :: tables_1)).before args0 about1 = true := by
  rw [allAtoms_all]
  show words1.all (fun c => c.before args0 about1) = true
  refine all_split ?_ w_codes
  rw [← List.take_append_drop 24 words1, List.all_append, w_t1, ← List.take_append_drop 24 (words1.drop 24), List.all_append, w_t2, ← List.take_append_drop 24 ((words1.drop 24).drop 24), List.all_append, w_t3, ← List.take_append_drop 24 (((words1.drop 24).drop 24).drop 24), List.all_append, w_t4, w_t5]
  rfl
set_option maxRecDepth 65536 in
theorem w_case : (Jvm.Cond.and given_1 narrow_1).before args0 about1 = true := by decide +kernel
theorem w_applies : (headSpec (Jvm.Cond.code x code maxLocals ret :: tables_1) room_1).applies x e0.platform about1 = true :=
  (Spec.applies_iff w_frames).mpr ⟨w_running, w_runnable, w_alone, w_named, w_hears, w_ripe, w_room, w_tables⟩
theorem atStart : AtStart classFile x code maxLocals ret World_1 tables_1 room_1 Calls_1 rest_1 Pre_1 launch0 p0 e0 about1 theMethod args0 below0 :=
  ⟨lists_1, trivial, launch0.admits_env _ _ _, launch0.least_env, fairChoices_fair.cas, fairChoices_fair.clock, w_frames, w_args, w_heap, w_applies, trivial, trivial, w_case⟩
end start1
theorem witness_1 : WitnessClaimed_1 := ⟨start1.p0, start1.e0, start1.about1, start1.theMethod, start1.args0, start1.below0, start1.atStart⟩
end Jvm.Pilot.@@N@@
