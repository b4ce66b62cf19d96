import JvmDerived
import JvmDerived.Pilot.@@N@@Statement
import JvmDerived.Pilot.@@N@@Code
set_option linter.unusedVariables false
set_option linter.unusedSimpArgs false
namespace Jvm.Own
open Sem ClassFile Op Lib Jvm.Stand Jvm.Free Jvm.LawKit Jvm.RoadKit
section Layer
variable {p : Program} {l : Launch} {e : Env} {R : Room} {s : State} {m : MethodId} {args : Array Value} {below : List Frame} {meth : Method} {c : Code} {Z : State} {own nm : String} {bytes : ByteArray} {maxL : Nat} {ret : Option FieldType} {n0 : Nat} {EE : Outcome → State → Prop} {h : Heap} {k n : Nat} {a0 : Array Value} {pc : Nat} {ls : Array Slot} {st : List Value}
def Cx (p : Program) (s : State) (m : MethodId) (meth : Method) (c : Code) (Z : State) (own nm : String) (bytes : ByteArray) (maxL : Nat) (ret : Option FieldType) (n0 : Nat) : Prop :=
  p.tables.exec = Jvm.exec ∧ c.code = bytes ∧ c.maxLocals = maxL ∧ s.vm.findClass own = some m.cls ∧ meth.name = nm ∧ Z.Warmed39 s.vm ∧ meth.sig.returnType = ret ∧ meth.locks = false ∧ n0 ≤ s.heap.size
def EndN (s : State) (n0 : Nat) (Q : Option Value → Heap → Prop) (K N : Nat) (o : Outcome) (t : State) : Prop := ∃ v L, o = .returned v ∧ (Q v t.heap ∧ Fr n0 L) ∧ FrameEnd s o t L K N
def Run (p : Program) (l : Launch) (e : Env) (R : Room) (s : State) (m : MethodId) (args : Array Value) (below : List Frame) (meth : Method) (c : Code) (Z : State) (own nm : String) (bytes : ByteArray) (maxL : Nat) (ret : Option FieldType) (n0 : Nat) (EE : Outcome → State → Prop) (h : Heap) (k n : Nat) (g : JFrame) : Prop :=
  Cx p s m meth c Z own nm bytes maxL ret n0 → ∀ (T : State) (locs : List Loc), Stand p l e R s m args below meth c T locs k n → Fr n0 locs → T.heap = h →
    ∃ s₂ o, Steps p.tables e below (T.setTop g) s₂ ∧ s₂.status = .running ∧ Ended s₂ below o ∧ EE o s₂
/-- a callee's contract: from heap h with the arguments as it returns with what Q says, nothing older than n0 written -/
def Pays (l : Launch) (Z : State) (y : MethodName) (bytes : ByteArray) (maxL : Nat) (ret : Option FieldType) (rm : Room) (as' : Array Value) (h : Heap) (n0 : Nat) (Q : Option Value → Heap → Prop) : Prop :=
  ∀ ws : List Jvm.Cond, MetFree l y (head1 (Jvm.Cond.code y bytes maxL ret :: ws) rm) (fun a U => a = as' ∧ Z.Warmed39 U.vm ∧ U.heap = h) (fun _ _ _ _ _ => True) (fun _ U o U' => ∃ v L, o = .returned v ∧ (Q v U'.heap ∧ Fr n0 L) ∧ FrameEnd U o U' L rm.cells rm.slots)
theorem Pays.of {Q : Option Value → Heap → Prop} {y : MethodName} {rm : Room} {as' : Array Value} (hpl : plainFor y = true) (ef : ∀ m, entryFrame m as' maxL = mkF m 0 ls []) (hn0 : n0 ≤ h.size)
    (body : ∀ p e s m below meth c, Run p l e rm s m as' below meth c Z y.cls y.name bytes maxL ret n0 (EndN s n0 Q rm.cells rm.slots) h 0 0 (mkF m 0 ls [])) : Pays l Z y bytes maxL ret rm as' h n0 Q := fun ws => by
  refine MetFree.of_bodySF hpl hisR ?_
  intro p e s m args below meth c s₁ Bd hml0 hP hK
  obtain ⟨rfl, hZ, hh⟩ := hP
  have hown : s.vm.findClass y.cls = some m.cls := findClass_of_methodNamed Bd.named
  have hnm := (name_of_methodNamed Bd.named Bd.method).1
  have e0 : s₁.heap = h := by rw [← hh, Bd.state]; rfl
  have q := body p e s m below meth c ⟨Bd.exec, Bd.bytes, hml0, hown, hnm, hZ, Bd.returns, Bd.notSynchronized, by rw [hh]; exact hn0⟩ s₁ [] (Stand.of_body Bd) (Fr.nil n0) e0
  obtain ⟨s₂, o, q1, q2⟩ := q
  exact ⟨s₂, o, castTop (ef m) q1, q2⟩
theorem Run.sz {g : JFrame} (hr : n0 ≤ h.size → Run p l e R s m args below meth c Z own nm bytes maxL ret n0 EE h k n g) : Run p l e R s m args below meth c Z own nm bytes maxL ret n0 EE h k n g := fun C T locs X F E =>
  hr (by subst E; exact Nat.le_trans C.2.2.2.2.2.2.2.2 X.same.2.1) C T locs X F E
theorem Run.step {g g' : JFrame} (hs : ∀ T target, p.tables.exec = Jvm.exec → c.code = bytes → At T m c below → Steps p.tables e below (T.setTop g') target → Steps p.tables e below (T.setTop g) target) (hr : Run p l e R s m args below meth c Z own nm bytes maxL ret n0 EE h k n g') : Run p l e R s m args below meth c Z own nm bytes maxL ret n0 EE h k n g := fun C T locs X F E => by
  obtain ⟨s₂, o, q1, q2⟩ := hr C T locs X F E
  exact ⟨s₂, o, hs T s₂ C.1 C.2.1 X.here q1, q2⟩
theorem Run.cut {g : JFrame} (g' : JFrame) (hj : Run p l e R s m args below meth c Z own nm bytes maxL ret n0 EE h k n g') (hr : Run p l e R s m args below meth c Z own nm bytes maxL ret n0 EE h k n g' → Run p l e R s m args below meth c Z own nm bytes maxL ret n0 EE h k n g) : Run p l e R s m args below meth c Z own nm bytes maxL ret n0 EE h k n g := hr hj
theorem Run.cast {g g' : JFrame} (q : g = g') (hr : Run p l e R s m args below meth c Z own nm bytes maxL ret n0 EE h k n g') : Run p l e R s m args below meth c Z own nm bytes maxL ret n0 EE h k n g := q ▸ hr

theorem Run.aloadN {i : Fin 4} {v : Value} (q : Nat) (hd : decode bytes pc = .ok (.aload_n i, 1)) (hl : ls[i.val]? = some (.val v)) (hr : Run p l e R s m args below meth c Z own nm bytes maxL ret n0 EE h k n (mkF m q ls (v :: st))) (hv : v.isRef = true := by rfl) (hq : q = pc + 1 := by rfl) : Run p l e R s m args below meth c Z own nm bytes maxL ret n0 EE h k n (mkF m pc ls st) := by
  subst hq; exact Run.step (fun T t hx hb A z => XS.aloadN A hx rfl (hb ▸ hd) hl hv z) hr
theorem Run.aload {i : Nat} {v : Value} (q : Nat) (hd : decode bytes pc = .ok (.aload i, 2)) (hl : ls[i]? = some (.val v)) (hr : Run p l e R s m args below meth c Z own nm bytes maxL ret n0 EE h k n (mkF m q ls (v :: st))) (hv : v.isRef = true := by rfl) (hq : q = pc + 2 := by rfl) : Run p l e R s m args below meth c Z own nm bytes maxL ret n0 EE h k n (mkF m pc ls st) := by
  subst hq; exact Run.step (fun T t hx hb A z => XS.aload A hx rfl (hb ▸ hd) hl hv z) hr
theorem Run.iloadN {i : Fin 4} {v : Int32} (q : Nat) (hd : decode bytes pc = .ok (.iload_n i, 1)) (hl : ls[i.val]? = some (.val (.int v))) (hr : Run p l e R s m args below meth c Z own nm bytes maxL ret n0 EE h k n (mkF m q ls (.int v :: st))) (hq : q = pc + 1 := by rfl) : Run p l e R s m args below meth c Z own nm bytes maxL ret n0 EE h k n (mkF m pc ls st) := by
  subst hq; exact Run.step (fun T t hx hb A z => XS.iloadN A hx rfl (hb ▸ hd) hl z) hr
theorem Run.iload {i : Nat} {v : Int32} (q : Nat) (hd : decode bytes pc = .ok (.iload i, 2)) (hl : ls[i]? = some (.val (.int v))) (hr : Run p l e R s m args below meth c Z own nm bytes maxL ret n0 EE h k n (mkF m q ls (.int v :: st))) (hq : q = pc + 2 := by rfl) : Run p l e R s m args below meth c Z own nm bytes maxL ret n0 EE h k n (mkF m pc ls st) := by
  subst hq; exact Run.step (fun T t hx hb A z => XS.iload A hx rfl (hb ▸ hd) hl z) hr
theorem Run.lloadN {i : Fin 4} {v : Int64} (q : Nat) (hd : decode bytes pc = .ok (.lload_n i, 1)) (hl : ls[i.val]? = some (.val (.long v))) (hr : Run p l e R s m args below meth c Z own nm bytes maxL ret n0 EE h k n (mkF m q ls (.long v :: st))) (hq : q = pc + 1 := by rfl) : Run p l e R s m args below meth c Z own nm bytes maxL ret n0 EE h k n (mkF m pc ls st) := by
  subst hq; exact Run.step (fun T t hx hb A z => XS.lloadN A hx rfl (hb ▸ hd) hl z) hr
theorem Run.lload {i : Nat} {v : Int64} (q : Nat) (hd : decode bytes pc = .ok (.lload i, 2)) (hl : ls[i]? = some (.val (.long v))) (hr : Run p l e R s m args below meth c Z own nm bytes maxL ret n0 EE h k n (mkF m q ls (.long v :: st))) (hq : q = pc + 2 := by rfl) : Run p l e R s m args below meth c Z own nm bytes maxL ret n0 EE h k n (mkF m pc ls st) := by
  subst hq; exact Run.step (fun T t hx hb A z => XS.lload A hx rfl (hb ▸ hd) hl z) hr
theorem Run.istoreN {i : Fin 4} {x : Int32} (q : Nat) (ls' : Array Slot) (hd : decode bytes pc = .ok (.istore_n i, 1)) (hr : Run p l e R s m args below meth c Z own nm bytes maxL ret n0 EE h k n (mkF m q ls' st)) (hl : storeLocals ls i.val (.int x) = some ls' := by rfl) (hq : q = pc + 1 := by rfl) : Run p l e R s m args below meth c Z own nm bytes maxL ret n0 EE h k n (mkF m pc ls (.int x :: st)) := by
  subst hq; exact Run.step (fun T t hx hb A z => XS.istoreN A hx rfl (hb ▸ hd) rfl hl z) hr
theorem Run.istore {i : Nat} {x : Int32} (q : Nat) (ls' : Array Slot) (hd : decode bytes pc = .ok (.istore i, 2)) (hr : Run p l e R s m args below meth c Z own nm bytes maxL ret n0 EE h k n (mkF m q ls' st)) (hl : storeLocals ls i (.int x) = some ls' := by rfl) (hq : q = pc + 2 := by rfl) : Run p l e R s m args below meth c Z own nm bytes maxL ret n0 EE h k n (mkF m pc ls (.int x :: st)) := by
  subst hq; exact Run.step (fun T t hx hb A z => XS.istore A hx rfl (hb ▸ hd) rfl hl z) hr
theorem Run.lstoreN {i : Fin 4} {x : Int64} (q : Nat) (ls' : Array Slot) (hd : decode bytes pc = .ok (.lstore_n i, 1)) (hr : Run p l e R s m args below meth c Z own nm bytes maxL ret n0 EE h k n (mkF m q ls' st)) (hl : storeLocals ls i.val (.long x) = some ls' := by rfl) (hq : q = pc + 1 := by rfl) : Run p l e R s m args below meth c Z own nm bytes maxL ret n0 EE h k n (mkF m pc ls (.long x :: st)) := by
  subst hq; exact Run.step (fun T t hx hb A z => XS.lstoreN A hx rfl (hb ▸ hd) rfl hl z) hr
theorem Run.lstore {i : Nat} {x : Int64} (q : Nat) (ls' : Array Slot) (hd : decode bytes pc = .ok (.lstore i, 2)) (hr : Run p l e R s m args below meth c Z own nm bytes maxL ret n0 EE h k n (mkF m q ls' st)) (hl : storeLocals ls i (.long x) = some ls' := by rfl) (hq : q = pc + 2 := by rfl) : Run p l e R s m args below meth c Z own nm bytes maxL ret n0 EE h k n (mkF m pc ls (.long x :: st)) := by
  subst hq; exact Run.step (fun T t hx hb A z => XS.lstore A hx rfl (hb ▸ hd) rfl hl z) hr
theorem Run.astoreN {i : Fin 4} {x : Value} (q : Nat) (ls' : Array Slot) (hd : decode bytes pc = .ok (.astore_n i, 1)) (hr : Run p l e R s m args below meth c Z own nm bytes maxL ret n0 EE h k n (mkF m q ls' st)) (hv : x.isRef = true := by rfl) (hl : storeLocals ls i.val x = some ls' := by rfl) (hq : q = pc + 1 := by rfl) : Run p l e R s m args below meth c Z own nm bytes maxL ret n0 EE h k n (mkF m pc ls (x :: st)) := by
  subst hq; exact Run.step (fun T t hx hb A z => XS.astoreN A hx rfl (hb ▸ hd) rfl hv hl z) hr
theorem Run.astore {i : Nat} {x : Value} (q : Nat) (ls' : Array Slot) (hd : decode bytes pc = .ok (.astore i, 2)) (hr : Run p l e R s m args below meth c Z own nm bytes maxL ret n0 EE h k n (mkF m q ls' st)) (hv : x.isRef = true := by rfl) (hl : storeLocals ls i x = some ls' := by rfl) (hq : q = pc + 2 := by rfl) : Run p l e R s m args below meth c Z own nm bytes maxL ret n0 EE h k n (mkF m pc ls (x :: st)) := by
  subst hq; exact Run.step (fun T t hx hb A z => XS.astore A hx rfl (hb ▸ hd) rfl hv hl z) hr
theorem Run.iconst {i : Int} (x : Int32) (q : Nat) (hd : decode bytes pc = .ok (.iconst i, 1)) (hr : Run p l e R s m args below meth c Z own nm bytes maxL ret n0 EE h k n (mkF m q ls (.int x :: st))) (hv : Int32.ofInt i = x := by first | rfl | decide) (hq : q = pc + 1 := by rfl) : Run p l e R s m args below meth c Z own nm bytes maxL ret n0 EE h k n (mkF m pc ls st) := by
  subst hq hv; exact Run.step (fun T t hx hb A z => XS.iconst A hx rfl (hb ▸ hd) z) hr
theorem Run.bipush {i : Int} (x : Int32) (q : Nat) (hd : decode bytes pc = .ok (.bipush i, 2)) (hr : Run p l e R s m args below meth c Z own nm bytes maxL ret n0 EE h k n (mkF m q ls (.int x :: st))) (hv : (Int8.ofInt i).toInt32 = x := by first | rfl | decide) (hq : q = pc + 2 := by rfl) : Run p l e R s m args below meth c Z own nm bytes maxL ret n0 EE h k n (mkF m pc ls st) := by
  subst hq hv; exact Run.step (fun T t hx hb A z => XS.bipush A hx rfl (hb ▸ hd) z) hr
theorem Run.sipush {i : Int} (x : Int32) (q : Nat) (hd : decode bytes pc = .ok (.sipush i, 3)) (hr : Run p l e R s m args below meth c Z own nm bytes maxL ret n0 EE h k n (mkF m q ls (.int x :: st))) (hv : (Int16.ofInt i).toInt32 = x := by first | rfl | decide) (hq : q = pc + 3 := by rfl) : Run p l e R s m args below meth c Z own nm bytes maxL ret n0 EE h k n (mkF m pc ls st) := by
  subst hq hv; exact Run.step (fun T t hx hb A z => XS.sipush A hx rfl (hb ▸ hd) z) hr
theorem Run.lconst {i : Fin 2} (x : Int64) (q : Nat) (hd : decode bytes pc = .ok (.lconst i, 1)) (hr : Run p l e R s m args below meth c Z own nm bytes maxL ret n0 EE h k n (mkF m q ls (.long x :: st))) (hv : Int64.ofNat i = x := by first | rfl | decide) (hq : q = pc + 1 := by rfl) : Run p l e R s m args below meth c Z own nm bytes maxL ret n0 EE h k n (mkF m pc ls st) := by
  subst hq hv; exact Run.step (fun T t hx hb A z => XS.lconst A hx rfl (hb ▸ hd) z) hr
theorem Run.aconstNull (q : Nat) (hd : decode bytes pc = .ok (.aconst_null, 1)) (hr : Run p l e R s m args below meth c Z own nm bytes maxL ret n0 EE h k n (mkF m q ls (.null :: st))) (hq : q = pc + 1 := by rfl) : Run p l e R s m args below meth c Z own nm bytes maxL ret n0 EE h k n (mkF m pc ls st) := by
  subst hq; exact Run.step (fun T t hx hb A z => XS.aconstNull A hx rfl (hb ▸ hd) z) hr
theorem Run.iadd {x y : Int32} (w : Int32) (q : Nat) (hd : decode bytes pc = .ok (.iadd, 1)) (hr : Run p l e R s m args below meth c Z own nm bytes maxL ret n0 EE h k n (mkF m q ls (.int w :: st))) (hv : x + y = w := by rfl) (hq : q = pc + 1 := by rfl) : Run p l e R s m args below meth c Z own nm bytes maxL ret n0 EE h k n (mkF m pc ls (.int y :: .int x :: st)) := by
  subst hq hv; exact Run.step (fun T t hx hb A z => XS.iadd A hx rfl (hb ▸ hd) rfl z) hr
theorem Run.isub {x y : Int32} (w : Int32) (q : Nat) (hd : decode bytes pc = .ok (.isub, 1)) (hr : Run p l e R s m args below meth c Z own nm bytes maxL ret n0 EE h k n (mkF m q ls (.int w :: st))) (hv : x - y = w := by rfl) (hq : q = pc + 1 := by rfl) : Run p l e R s m args below meth c Z own nm bytes maxL ret n0 EE h k n (mkF m pc ls (.int y :: .int x :: st)) := by
  subst hq hv; exact Run.step (fun T t hx hb A z => XS.isub A hx rfl (hb ▸ hd) rfl z) hr
theorem Run.imul {x y : Int32} (w : Int32) (q : Nat) (hd : decode bytes pc = .ok (.imul, 1)) (hr : Run p l e R s m args below meth c Z own nm bytes maxL ret n0 EE h k n (mkF m q ls (.int w :: st))) (hv : x * y = w := by rfl) (hq : q = pc + 1 := by rfl) : Run p l e R s m args below meth c Z own nm bytes maxL ret n0 EE h k n (mkF m pc ls (.int y :: .int x :: st)) := by
  subst hq hv; exact Run.step (fun T t hx hb A z => XS.imul A hx rfl (hb ▸ hd) rfl z) hr
theorem Run.iand {x y : Int32} (w : Int32) (q : Nat) (hd : decode bytes pc = .ok (.iand, 1)) (hr : Run p l e R s m args below meth c Z own nm bytes maxL ret n0 EE h k n (mkF m q ls (.int w :: st))) (hv : x &&& y = w := by rfl) (hq : q = pc + 1 := by rfl) : Run p l e R s m args below meth c Z own nm bytes maxL ret n0 EE h k n (mkF m pc ls (.int y :: .int x :: st)) := by
  subst hq hv; exact Run.step (fun T t hx hb A z => XS.iand A hx rfl (hb ▸ hd) rfl z) hr
theorem Run.ior {x y : Int32} (w : Int32) (q : Nat) (hd : decode bytes pc = .ok (.ior, 1)) (hr : Run p l e R s m args below meth c Z own nm bytes maxL ret n0 EE h k n (mkF m q ls (.int w :: st))) (hv : x ||| y = w := by rfl) (hq : q = pc + 1 := by rfl) : Run p l e R s m args below meth c Z own nm bytes maxL ret n0 EE h k n (mkF m pc ls (.int y :: .int x :: st)) := by
  subst hq hv; exact Run.step (fun T t hx hb A z => XS.ior A hx rfl (hb ▸ hd) rfl z) hr
theorem Run.ixor {x y : Int32} (w : Int32) (q : Nat) (hd : decode bytes pc = .ok (.ixor, 1)) (hr : Run p l e R s m args below meth c Z own nm bytes maxL ret n0 EE h k n (mkF m q ls (.int w :: st))) (hv : x ^^^ y = w := by rfl) (hq : q = pc + 1 := by rfl) : Run p l e R s m args below meth c Z own nm bytes maxL ret n0 EE h k n (mkF m pc ls (.int y :: .int x :: st)) := by
  subst hq hv; exact Run.step (fun T t hx hb A z => XS.ixor A hx rfl (hb ▸ hd) rfl z) hr
theorem Run.ishl {x y : Int32} (w : Int32) (q : Nat) (hd : decode bytes pc = .ok (.ishl, 1)) (hr : Run p l e R s m args below meth c Z own nm bytes maxL ret n0 EE h k n (mkF m q ls (.int w :: st))) (hv : x <<< (y &&& 31) = w := by rfl) (hq : q = pc + 1 := by rfl) : Run p l e R s m args below meth c Z own nm bytes maxL ret n0 EE h k n (mkF m pc ls (.int y :: .int x :: st)) := by
  subst hq hv; exact Run.step (fun T t hx hb A z => XS.ishl A hx rfl (hb ▸ hd) rfl z) hr
theorem Run.ishr {x y : Int32} (w : Int32) (q : Nat) (hd : decode bytes pc = .ok (.ishr, 1)) (hr : Run p l e R s m args below meth c Z own nm bytes maxL ret n0 EE h k n (mkF m q ls (.int w :: st))) (hv : x >>> (y &&& 31) = w := by rfl) (hq : q = pc + 1 := by rfl) : Run p l e R s m args below meth c Z own nm bytes maxL ret n0 EE h k n (mkF m pc ls (.int y :: .int x :: st)) := by
  subst hq hv; exact Run.step (fun T t hx hb A z => XS.ishr A hx rfl (hb ▸ hd) rfl z) hr
theorem Run.iushr {x y : Int32} (w : Int32) (q : Nat) (hd : decode bytes pc = .ok (.iushr, 1)) (hr : Run p l e R s m args below meth c Z own nm bytes maxL ret n0 EE h k n (mkF m q ls (.int w :: st))) (hv : (x.toUInt32 >>> (y &&& 31).toUInt32).toInt32 = w := by rfl) (hq : q = pc + 1 := by rfl) : Run p l e R s m args below meth c Z own nm bytes maxL ret n0 EE h k n (mkF m pc ls (.int y :: .int x :: st)) := by
  subst hq hv; exact Run.step (fun T t hx hb A z => XS.iushr A hx rfl (hb ▸ hd) rfl z) hr
theorem Run.idiv {x y : Int32} (w : Int32) (q : Nat) (hd : decode bytes pc = .ok (.idiv, 1)) (hy : y ≠ 0) (hr : Run p l e R s m args below meth c Z own nm bytes maxL ret n0 EE h k n (mkF m q ls (.int w :: st))) (hv : x / y = w := by rfl) (hq : q = pc + 1 := by rfl) : Run p l e R s m args below meth c Z own nm bytes maxL ret n0 EE h k n (mkF m pc ls (.int y :: .int x :: st)) := by
  subst hq hv; exact Run.step (fun T t hx hb A z => XS.idiv A hx rfl (hb ▸ hd) rfl hy z) hr
theorem Run.irem {x y : Int32} (w : Int32) (q : Nat) (hd : decode bytes pc = .ok (.irem, 1)) (hy : y ≠ 0) (hr : Run p l e R s m args below meth c Z own nm bytes maxL ret n0 EE h k n (mkF m q ls (.int w :: st))) (hv : x - (x / y) * y = w := by rfl) (hq : q = pc + 1 := by rfl) : Run p l e R s m args below meth c Z own nm bytes maxL ret n0 EE h k n (mkF m pc ls (.int y :: .int x :: st)) := by
  subst hq hv; exact Run.step (fun T t hx hb A z => XS.irem A hx rfl (hb ▸ hd) rfl hy z) hr
theorem Run.ladd {x y : Int64} (w : Int64) (q : Nat) (hd : decode bytes pc = .ok (.ladd, 1)) (hr : Run p l e R s m args below meth c Z own nm bytes maxL ret n0 EE h k n (mkF m q ls (.long w :: st))) (hv : x + y = w := by rfl) (hq : q = pc + 1 := by rfl) : Run p l e R s m args below meth c Z own nm bytes maxL ret n0 EE h k n (mkF m pc ls (.long y :: .long x :: st)) := by
  subst hq hv; exact Run.step (fun T t hx hb A z => XS.ladd A hx rfl (hb ▸ hd) rfl z) hr
theorem Run.lsub {x y : Int64} (w : Int64) (q : Nat) (hd : decode bytes pc = .ok (.lsub, 1)) (hr : Run p l e R s m args below meth c Z own nm bytes maxL ret n0 EE h k n (mkF m q ls (.long w :: st))) (hv : x - y = w := by rfl) (hq : q = pc + 1 := by rfl) : Run p l e R s m args below meth c Z own nm bytes maxL ret n0 EE h k n (mkF m pc ls (.long y :: .long x :: st)) := by
  subst hq hv; exact Run.step (fun T t hx hb A z => XS.lsub A hx rfl (hb ▸ hd) rfl z) hr
theorem Run.lmul {x y : Int64} (w : Int64) (q : Nat) (hd : decode bytes pc = .ok (.lmul, 1)) (hr : Run p l e R s m args below meth c Z own nm bytes maxL ret n0 EE h k n (mkF m q ls (.long w :: st))) (hv : x * y = w := by rfl) (hq : q = pc + 1 := by rfl) : Run p l e R s m args below meth c Z own nm bytes maxL ret n0 EE h k n (mkF m pc ls (.long y :: .long x :: st)) := by
  subst hq hv; exact Run.step (fun T t hx hb A z => XS.lmul A hx rfl (hb ▸ hd) rfl z) hr
theorem Run.land {x y : Int64} (w : Int64) (q : Nat) (hd : decode bytes pc = .ok (.land, 1)) (hr : Run p l e R s m args below meth c Z own nm bytes maxL ret n0 EE h k n (mkF m q ls (.long w :: st))) (hv : x &&& y = w := by rfl) (hq : q = pc + 1 := by rfl) : Run p l e R s m args below meth c Z own nm bytes maxL ret n0 EE h k n (mkF m pc ls (.long y :: .long x :: st)) := by
  subst hq hv; exact Run.step (fun T t hx hb A z => XS.land A hx rfl (hb ▸ hd) rfl z) hr
theorem Run.lor {x y : Int64} (w : Int64) (q : Nat) (hd : decode bytes pc = .ok (.lor, 1)) (hr : Run p l e R s m args below meth c Z own nm bytes maxL ret n0 EE h k n (mkF m q ls (.long w :: st))) (hv : x ||| y = w := by rfl) (hq : q = pc + 1 := by rfl) : Run p l e R s m args below meth c Z own nm bytes maxL ret n0 EE h k n (mkF m pc ls (.long y :: .long x :: st)) := by
  subst hq hv; exact Run.step (fun T t hx hb A z => XS.lor A hx rfl (hb ▸ hd) rfl z) hr
theorem Run.lxor {x y : Int64} (w : Int64) (q : Nat) (hd : decode bytes pc = .ok (.lxor, 1)) (hr : Run p l e R s m args below meth c Z own nm bytes maxL ret n0 EE h k n (mkF m q ls (.long w :: st))) (hv : x ^^^ y = w := by rfl) (hq : q = pc + 1 := by rfl) : Run p l e R s m args below meth c Z own nm bytes maxL ret n0 EE h k n (mkF m pc ls (.long y :: .long x :: st)) := by
  subst hq hv; exact Run.step (fun T t hx hb A z => XS.lxor A hx rfl (hb ▸ hd) rfl z) hr
theorem Run.ldiv {x y : Int64} (w : Int64) (q : Nat) (hd : decode bytes pc = .ok (.ldiv, 1)) (hy : y ≠ 0) (hr : Run p l e R s m args below meth c Z own nm bytes maxL ret n0 EE h k n (mkF m q ls (.long w :: st))) (hv : x / y = w := by rfl) (hq : q = pc + 1 := by rfl) : Run p l e R s m args below meth c Z own nm bytes maxL ret n0 EE h k n (mkF m pc ls (.long y :: .long x :: st)) := by
  subst hq hv; exact Run.step (fun T t hx hb A z => XS.ldiv A hx rfl (hb ▸ hd) rfl hy z) hr
theorem Run.lrem {x y : Int64} (w : Int64) (q : Nat) (hd : decode bytes pc = .ok (.lrem, 1)) (hy : y ≠ 0) (hr : Run p l e R s m args below meth c Z own nm bytes maxL ret n0 EE h k n (mkF m q ls (.long w :: st))) (hv : x - (x / y) * y = w := by rfl) (hq : q = pc + 1 := by rfl) : Run p l e R s m args below meth c Z own nm bytes maxL ret n0 EE h k n (mkF m pc ls (.long y :: .long x :: st)) := by
  subst hq hv; exact Run.step (fun T t hx hb A z => XS.lrem A hx rfl (hb ▸ hd) rfl hy z) hr
theorem Run.lshl {x : Int64} {y : Int32} (w : Int64) (q : Nat) (hd : decode bytes pc = .ok (.lshl, 1)) (hr : Run p l e R s m args below meth c Z own nm bytes maxL ret n0 EE h k n (mkF m q ls (.long w :: st))) (hv : x <<< (y &&& 0x3f).toInt64 = w := by rfl) (hq : q = pc + 1 := by rfl) : Run p l e R s m args below meth c Z own nm bytes maxL ret n0 EE h k n (mkF m pc ls (.int y :: .long x :: st)) := by
  subst hq hv; exact Run.step (fun T t hx hb A z => XS.lshl A hx rfl (hb ▸ hd) rfl z) hr
theorem Run.lshr {x : Int64} {y : Int32} (w : Int64) (q : Nat) (hd : decode bytes pc = .ok (.lshr, 1)) (hr : Run p l e R s m args below meth c Z own nm bytes maxL ret n0 EE h k n (mkF m q ls (.long w :: st))) (hv : x >>> (y &&& 0x3f).toInt64 = w := by rfl) (hq : q = pc + 1 := by rfl) : Run p l e R s m args below meth c Z own nm bytes maxL ret n0 EE h k n (mkF m pc ls (.int y :: .long x :: st)) := by
  subst hq hv; exact Run.step (fun T t hx hb A z => XS.lshr A hx rfl (hb ▸ hd) rfl z) hr
theorem Run.lushr {x : Int64} {y : Int32} (w : Int64) (q : Nat) (hd : decode bytes pc = .ok (.lushr, 1)) (hr : Run p l e R s m args below meth c Z own nm bytes maxL ret n0 EE h k n (mkF m q ls (.long w :: st))) (hv : (x.toUInt64 >>> (y &&& 0x3f).toInt64.toUInt64).toInt64 = w := by rfl) (hq : q = pc + 1 := by rfl) : Run p l e R s m args below meth c Z own nm bytes maxL ret n0 EE h k n (mkF m pc ls (.int y :: .long x :: st)) := by
  subst hq hv; exact Run.step (fun T t hx hb A z => XS.lushr A hx rfl (hb ▸ hd) rfl z) hr
theorem Run.i2b {x : Int32} (w : Int32) (q : Nat) (hd : decode bytes pc = .ok (.i2b, 1)) (hr : Run p l e R s m args below meth c Z own nm bytes maxL ret n0 EE h k n (mkF m q ls (.int w :: st))) (hv : x.toInt8.toInt32 = w := by rfl) (hq : q = pc + 1 := by rfl) : Run p l e R s m args below meth c Z own nm bytes maxL ret n0 EE h k n (mkF m pc ls (.int x :: st)) := by
  subst hq hv; exact Run.step (fun T t hx hb A z => XS.i2b A hx rfl (hb ▸ hd) rfl z) hr
theorem Run.i2c {x : Int32} (w : Int32) (q : Nat) (hd : decode bytes pc = .ok (.i2c, 1)) (hr : Run p l e R s m args below meth c Z own nm bytes maxL ret n0 EE h k n (mkF m q ls (.int w :: st))) (hv : x.toUInt32.toUInt16.toUInt32.toInt32 = w := by rfl) (hq : q = pc + 1 := by rfl) : Run p l e R s m args below meth c Z own nm bytes maxL ret n0 EE h k n (mkF m pc ls (.int x :: st)) := by
  subst hq hv; exact Run.step (fun T t hx hb A z => XS.i2c A hx rfl (hb ▸ hd) rfl z) hr
theorem Run.i2s {x : Int32} (w : Int32) (q : Nat) (hd : decode bytes pc = .ok (.i2s, 1)) (hr : Run p l e R s m args below meth c Z own nm bytes maxL ret n0 EE h k n (mkF m q ls (.int w :: st))) (hv : x.toInt16.toInt32 = w := by rfl) (hq : q = pc + 1 := by rfl) : Run p l e R s m args below meth c Z own nm bytes maxL ret n0 EE h k n (mkF m pc ls (.int x :: st)) := by
  subst hq hv; exact Run.step (fun T t hx hb A z => XS.i2s A hx rfl (hb ▸ hd) rfl z) hr
theorem Run.i2l {x : Int32} (w : Int64) (q : Nat) (hd : decode bytes pc = .ok (.i2l, 1)) (hr : Run p l e R s m args below meth c Z own nm bytes maxL ret n0 EE h k n (mkF m q ls (.long w :: st))) (hv : x.toInt64 = w := by rfl) (hq : q = pc + 1 := by rfl) : Run p l e R s m args below meth c Z own nm bytes maxL ret n0 EE h k n (mkF m pc ls (.int x :: st)) := by
  subst hq hv; exact Run.step (fun T t hx hb A z => XS.i2l A hx rfl (hb ▸ hd) rfl z) hr
theorem Run.l2i {x : Int64} (w : Int32) (q : Nat) (hd : decode bytes pc = .ok (.l2i, 1)) (hr : Run p l e R s m args below meth c Z own nm bytes maxL ret n0 EE h k n (mkF m q ls (.int w :: st))) (hv : x.toInt32 = w := by rfl) (hq : q = pc + 1 := by rfl) : Run p l e R s m args below meth c Z own nm bytes maxL ret n0 EE h k n (mkF m pc ls (.long x :: st)) := by
  subst hq hv; exact Run.step (fun T t hx hb A z => XS.l2i A hx rfl (hb ▸ hd) rfl z) hr
theorem Run.ineg {x : Int32} (w : Int32) (q : Nat) (hd : decode bytes pc = .ok (.ineg, 1)) (hr : Run p l e R s m args below meth c Z own nm bytes maxL ret n0 EE h k n (mkF m q ls (.int w :: st))) (hv : -x = w := by rfl) (hq : q = pc + 1 := by rfl) : Run p l e R s m args below meth c Z own nm bytes maxL ret n0 EE h k n (mkF m pc ls (.int x :: st)) := by
  subst hq hv; exact Run.step (fun T t hx hb A z => XS.ineg A hx rfl (hb ▸ hd) rfl z) hr
theorem Run.lneg {x : Int64} (w : Int64) (q : Nat) (hd : decode bytes pc = .ok (.lneg, 1)) (hr : Run p l e R s m args below meth c Z own nm bytes maxL ret n0 EE h k n (mkF m q ls (.long w :: st))) (hv : -x = w := by rfl) (hq : q = pc + 1 := by rfl) : Run p l e R s m args below meth c Z own nm bytes maxL ret n0 EE h k n (mkF m pc ls (.long x :: st)) := by
  subst hq hv; exact Run.step (fun T t hx hb A z => XS.lneg A hx rfl (hb ▸ hd) rfl z) hr
theorem Run.iinc {i : Nat} {cst : Int} {x : Int32} (w : Int32) (q : Nat) (ls' : Array Slot) (hd : decode bytes pc = .ok (.iinc i cst, 3)) (hl : ls[i]? = some (.val (.int x))) (hr : Run p l e R s m args below meth c Z own nm bytes maxL ret n0 EE h k n (mkF m q ls' st)) (hv : x + Int32.ofInt cst = w := by first | rfl | decide) (hs : storeLocals ls i (.int w) = some ls' := by rfl) (hq : q = pc + 3 := by rfl) : Run p l e R s m args below meth c Z own nm bytes maxL ret n0 EE h k n (mkF m pc ls st) := by
  subst hq hv; exact Run.step (fun T t hx hb A z => XS.iinc A hx rfl (hb ▸ hd) hl hs z) hr
theorem Run.dup {x : Value} (q : Nat) (hd : decode bytes pc = .ok (.dup, 1)) (hr : Run p l e R s m args below meth c Z own nm bytes maxL ret n0 EE h k n (mkF m q ls (x :: x :: st))) (hc : x.category = 1 := by rfl) (hq : q = pc + 1 := by rfl) : Run p l e R s m args below meth c Z own nm bytes maxL ret n0 EE h k n (mkF m pc ls (x :: st)) := by
  subst hq; exact Run.step (fun T t hx hb A z => XS.dup A hx rfl (hb ▸ hd) rfl hc z) hr
theorem Run.pop {x : Value} (q : Nat) (hd : decode bytes pc = .ok (.pop, 1)) (hr : Run p l e R s m args below meth c Z own nm bytes maxL ret n0 EE h k n (mkF m q ls st)) (hc : x.category = 1 := by rfl) (hq : q = pc + 1 := by rfl) : Run p l e R s m args below meth c Z own nm bytes maxL ret n0 EE h k n (mkF m pc ls (x :: st)) := by
  subst hq; exact Run.step (fun T t hx hb A z => XS.pop A hx rfl (hb ▸ hd) rfl hc z) hr
theorem Run.dupX1 {x y : Value} (q : Nat) (hd : decode bytes pc = .ok (.dup_x1, 1)) (hr : Run p l e R s m args below meth c Z own nm bytes maxL ret n0 EE h k n (mkF m q ls (x :: y :: x :: st))) (hc : x.category = 1 := by rfl) (hc' : y.category = 1 := by rfl) (hq : q = pc + 1 := by rfl) : Run p l e R s m args below meth c Z own nm bytes maxL ret n0 EE h k n (mkF m pc ls (x :: y :: st)) := by
  subst hq; exact Run.step (fun T t hx hb A z => XS.dupX1 A hx rfl (hb ▸ hd) rfl hc hc' z) hr
theorem Run.goto {o : Int} (q : Nat) (hd : decode bytes pc = .ok (.goto o, 3)) (hr : Run p l e R s m args below meth c Z own nm bytes maxL ret n0 EE h k n (mkF m q ls st)) (ho : 0 ≤ (pc : Int) + o := by decide) (hq : ((pc : Int) + o).toNat = q := by rfl) : Run p l e R s m args below meth c Z own nm bytes maxL ret n0 EE h k n (mkF m pc ls st) :=
  Run.step (fun T t hx hb A z => XS.goto A hx rfl rfl (hb ▸ hd) ho hq z) hr
theorem Run.ltY {x y : Int32} {o : Int} (q : Nat) (hd : decode bytes pc = .ok (.if_icmp .lt o, 3)) (hc : x < y) (hr : Run p l e R s m args below meth c Z own nm bytes maxL ret n0 EE h k n (mkF m q ls st)) (ho : 0 ≤ (pc : Int) + o := by decide) (hq : ((pc : Int) + o).toNat = q := by rfl) : Run p l e R s m args below meth c Z own nm bytes maxL ret n0 EE h k n (mkF m pc ls (.int y :: .int x :: st)) :=
  Run.step (fun T t hx hb A z => XS.icmpYes A hx rfl rfl (hb ▸ hd) rfl (tlt hc).1 ho hq z) hr
theorem Run.ltN {x y : Int32} {o : Int} (q : Nat) (hd : decode bytes pc = .ok (.if_icmp .lt o, 3)) (hc : ¬ (x < y)) (hr : Run p l e R s m args below meth c Z own nm bytes maxL ret n0 EE h k n (mkF m q ls st)) (hq : q = pc + 3 := by rfl) : Run p l e R s m args below meth c Z own nm bytes maxL ret n0 EE h k n (mkF m pc ls (.int y :: .int x :: st)) := by
  subst hq; exact Run.step (fun T t hx hb A z => XS.icmpNo A hx rfl (hb ▸ hd) rfl (flt hc).1 z) hr
theorem Run.lt {x y : Int32} {o : Int} (q q' : Nat) (hd : decode bytes pc = .ok (.if_icmp .lt o, 3)) (hr : x < y → Run p l e R s m args below meth c Z own nm bytes maxL ret n0 EE h k n (mkF m q ls st)) (hr' : ¬ (x < y) → Run p l e R s m args below meth c Z own nm bytes maxL ret n0 EE h k n (mkF m q' ls st)) (ho : 0 ≤ (pc : Int) + o := by decide) (hq : ((pc : Int) + o).toNat = q := by rfl) (hq' : q' = pc + 3 := by rfl) : Run p l e R s m args below meth c Z own nm bytes maxL ret n0 EE h k n (mkF m pc ls (.int y :: .int x :: st)) := by
  by_cases hc : x < y
  · exact Run.ltY q hd hc (hr hc) ho hq
  · exact Run.ltN q' hd hc (hr' hc) hq'
theorem Run.lt0Y {x : Int32} {o : Int} (q : Nat) (hd : decode bytes pc = .ok (.ifCond .lt o, 3)) (hc : x < (0 : Int32)) (hr : Run p l e R s m args below meth c Z own nm bytes maxL ret n0 EE h k n (mkF m q ls st)) (ho : 0 ≤ (pc : Int) + o := by decide) (hq : ((pc : Int) + o).toNat = q := by rfl) : Run p l e R s m args below meth c Z own nm bytes maxL ret n0 EE h k n (mkF m pc ls (.int x :: st)) :=
  Run.step (fun T t hx hb A z => XS.ifYes A hx rfl rfl (hb ▸ hd) rfl ((if0 _ _).trans (tlt hc).1) ho hq z) hr
theorem Run.lt0N {x : Int32} {o : Int} (q : Nat) (hd : decode bytes pc = .ok (.ifCond .lt o, 3)) (hc : ¬ (x < (0 : Int32))) (hr : Run p l e R s m args below meth c Z own nm bytes maxL ret n0 EE h k n (mkF m q ls st)) (hq : q = pc + 3 := by rfl) : Run p l e R s m args below meth c Z own nm bytes maxL ret n0 EE h k n (mkF m pc ls (.int x :: st)) := by
  subst hq; exact Run.step (fun T t hx hb A z => XS.ifNo A hx rfl (hb ▸ hd) rfl ((if0 _ _).trans (flt hc).1) z) hr
theorem Run.lt0 {x : Int32} {o : Int} (q q' : Nat) (hd : decode bytes pc = .ok (.ifCond .lt o, 3)) (hr : x < (0 : Int32) → Run p l e R s m args below meth c Z own nm bytes maxL ret n0 EE h k n (mkF m q ls st)) (hr' : ¬ (x < (0 : Int32)) → Run p l e R s m args below meth c Z own nm bytes maxL ret n0 EE h k n (mkF m q' ls st)) (ho : 0 ≤ (pc : Int) + o := by decide) (hq : ((pc : Int) + o).toNat = q := by rfl) (hq' : q' = pc + 3 := by rfl) : Run p l e R s m args below meth c Z own nm bytes maxL ret n0 EE h k n (mkF m pc ls (.int x :: st)) := by
  by_cases hc : x < (0 : Int32)
  · exact Run.lt0Y q hd hc (hr hc) ho hq
  · exact Run.lt0N q' hd hc (hr' hc) hq'
theorem Run.geY {x y : Int32} {o : Int} (q : Nat) (hd : decode bytes pc = .ok (.if_icmp .ge o, 3)) (hc : ¬ (x < y)) (hr : Run p l e R s m args below meth c Z own nm bytes maxL ret n0 EE h k n (mkF m q ls st)) (ho : 0 ≤ (pc : Int) + o := by decide) (hq : ((pc : Int) + o).toNat = q := by rfl) : Run p l e R s m args below meth c Z own nm bytes maxL ret n0 EE h k n (mkF m pc ls (.int y :: .int x :: st)) :=
  Run.step (fun T t hx hb A z => XS.icmpYes A hx rfl rfl (hb ▸ hd) rfl (flt hc).2.1 ho hq z) hr
theorem Run.geN {x y : Int32} {o : Int} (q : Nat) (hd : decode bytes pc = .ok (.if_icmp .ge o, 3)) (hc : x < y) (hr : Run p l e R s m args below meth c Z own nm bytes maxL ret n0 EE h k n (mkF m q ls st)) (hq : q = pc + 3 := by rfl) : Run p l e R s m args below meth c Z own nm bytes maxL ret n0 EE h k n (mkF m pc ls (.int y :: .int x :: st)) := by
  subst hq; exact Run.step (fun T t hx hb A z => XS.icmpNo A hx rfl (hb ▸ hd) rfl (tlt hc).2.1 z) hr
theorem Run.ge {x y : Int32} {o : Int} (q q' : Nat) (hd : decode bytes pc = .ok (.if_icmp .ge o, 3)) (hr : ¬ (x < y) → Run p l e R s m args below meth c Z own nm bytes maxL ret n0 EE h k n (mkF m q ls st)) (hr' : x < y → Run p l e R s m args below meth c Z own nm bytes maxL ret n0 EE h k n (mkF m q' ls st)) (ho : 0 ≤ (pc : Int) + o := by decide) (hq : ((pc : Int) + o).toNat = q := by rfl) (hq' : q' = pc + 3 := by rfl) : Run p l e R s m args below meth c Z own nm bytes maxL ret n0 EE h k n (mkF m pc ls (.int y :: .int x :: st)) := by
  by_cases hc : x < y
  · exact Run.geN q' hd hc (hr' hc) hq'
  · exact Run.geY q hd hc (hr hc) ho hq
theorem Run.ge0Y {x : Int32} {o : Int} (q : Nat) (hd : decode bytes pc = .ok (.ifCond .ge o, 3)) (hc : ¬ (x < (0 : Int32))) (hr : Run p l e R s m args below meth c Z own nm bytes maxL ret n0 EE h k n (mkF m q ls st)) (ho : 0 ≤ (pc : Int) + o := by decide) (hq : ((pc : Int) + o).toNat = q := by rfl) : Run p l e R s m args below meth c Z own nm bytes maxL ret n0 EE h k n (mkF m pc ls (.int x :: st)) :=
  Run.step (fun T t hx hb A z => XS.ifYes A hx rfl rfl (hb ▸ hd) rfl ((if0 _ _).trans (flt hc).2.1) ho hq z) hr
theorem Run.ge0N {x : Int32} {o : Int} (q : Nat) (hd : decode bytes pc = .ok (.ifCond .ge o, 3)) (hc : x < (0 : Int32)) (hr : Run p l e R s m args below meth c Z own nm bytes maxL ret n0 EE h k n (mkF m q ls st)) (hq : q = pc + 3 := by rfl) : Run p l e R s m args below meth c Z own nm bytes maxL ret n0 EE h k n (mkF m pc ls (.int x :: st)) := by
  subst hq; exact Run.step (fun T t hx hb A z => XS.ifNo A hx rfl (hb ▸ hd) rfl ((if0 _ _).trans (tlt hc).2.1) z) hr
theorem Run.ge0 {x : Int32} {o : Int} (q q' : Nat) (hd : decode bytes pc = .ok (.ifCond .ge o, 3)) (hr : ¬ (x < (0 : Int32)) → Run p l e R s m args below meth c Z own nm bytes maxL ret n0 EE h k n (mkF m q ls st)) (hr' : x < (0 : Int32) → Run p l e R s m args below meth c Z own nm bytes maxL ret n0 EE h k n (mkF m q' ls st)) (ho : 0 ≤ (pc : Int) + o := by decide) (hq : ((pc : Int) + o).toNat = q := by rfl) (hq' : q' = pc + 3 := by rfl) : Run p l e R s m args below meth c Z own nm bytes maxL ret n0 EE h k n (mkF m pc ls (.int x :: st)) := by
  by_cases hc : x < (0 : Int32)
  · exact Run.ge0N q' hd hc (hr' hc) hq'
  · exact Run.ge0Y q hd hc (hr hc) ho hq
theorem Run.gtY {x y : Int32} {o : Int} (q : Nat) (hd : decode bytes pc = .ok (.if_icmp .gt o, 3)) (hc : y < x) (hr : Run p l e R s m args below meth c Z own nm bytes maxL ret n0 EE h k n (mkF m q ls st)) (ho : 0 ≤ (pc : Int) + o := by decide) (hq : ((pc : Int) + o).toNat = q := by rfl) : Run p l e R s m args below meth c Z own nm bytes maxL ret n0 EE h k n (mkF m pc ls (.int y :: .int x :: st)) :=
  Run.step (fun T t hx hb A z => XS.icmpYes A hx rfl rfl (hb ▸ hd) rfl (tlt hc).2.2.1 ho hq z) hr
theorem Run.gtN {x y : Int32} {o : Int} (q : Nat) (hd : decode bytes pc = .ok (.if_icmp .gt o, 3)) (hc : ¬ (y < x)) (hr : Run p l e R s m args below meth c Z own nm bytes maxL ret n0 EE h k n (mkF m q ls st)) (hq : q = pc + 3 := by rfl) : Run p l e R s m args below meth c Z own nm bytes maxL ret n0 EE h k n (mkF m pc ls (.int y :: .int x :: st)) := by
  subst hq; exact Run.step (fun T t hx hb A z => XS.icmpNo A hx rfl (hb ▸ hd) rfl (flt hc).2.2.1 z) hr
theorem Run.gt {x y : Int32} {o : Int} (q q' : Nat) (hd : decode bytes pc = .ok (.if_icmp .gt o, 3)) (hr : y < x → Run p l e R s m args below meth c Z own nm bytes maxL ret n0 EE h k n (mkF m q ls st)) (hr' : ¬ (y < x) → Run p l e R s m args below meth c Z own nm bytes maxL ret n0 EE h k n (mkF m q' ls st)) (ho : 0 ≤ (pc : Int) + o := by decide) (hq : ((pc : Int) + o).toNat = q := by rfl) (hq' : q' = pc + 3 := by rfl) : Run p l e R s m args below meth c Z own nm bytes maxL ret n0 EE h k n (mkF m pc ls (.int y :: .int x :: st)) := by
  by_cases hc : y < x
  · exact Run.gtY q hd hc (hr hc) ho hq
  · exact Run.gtN q' hd hc (hr' hc) hq'
theorem Run.gt0Y {x : Int32} {o : Int} (q : Nat) (hd : decode bytes pc = .ok (.ifCond .gt o, 3)) (hc : (0 : Int32) < x) (hr : Run p l e R s m args below meth c Z own nm bytes maxL ret n0 EE h k n (mkF m q ls st)) (ho : 0 ≤ (pc : Int) + o := by decide) (hq : ((pc : Int) + o).toNat = q := by rfl) : Run p l e R s m args below meth c Z own nm bytes maxL ret n0 EE h k n (mkF m pc ls (.int x :: st)) :=
  Run.step (fun T t hx hb A z => XS.ifYes A hx rfl rfl (hb ▸ hd) rfl ((if0 _ _).trans (tlt hc).2.2.1) ho hq z) hr
theorem Run.gt0N {x : Int32} {o : Int} (q : Nat) (hd : decode bytes pc = .ok (.ifCond .gt o, 3)) (hc : ¬ ((0 : Int32) < x)) (hr : Run p l e R s m args below meth c Z own nm bytes maxL ret n0 EE h k n (mkF m q ls st)) (hq : q = pc + 3 := by rfl) : Run p l e R s m args below meth c Z own nm bytes maxL ret n0 EE h k n (mkF m pc ls (.int x :: st)) := by
  subst hq; exact Run.step (fun T t hx hb A z => XS.ifNo A hx rfl (hb ▸ hd) rfl ((if0 _ _).trans (flt hc).2.2.1) z) hr
theorem Run.gt0 {x : Int32} {o : Int} (q q' : Nat) (hd : decode bytes pc = .ok (.ifCond .gt o, 3)) (hr : (0 : Int32) < x → Run p l e R s m args below meth c Z own nm bytes maxL ret n0 EE h k n (mkF m q ls st)) (hr' : ¬ ((0 : Int32) < x) → Run p l e R s m args below meth c Z own nm bytes maxL ret n0 EE h k n (mkF m q' ls st)) (ho : 0 ≤ (pc : Int) + o := by decide) (hq : ((pc : Int) + o).toNat = q := by rfl) (hq' : q' = pc + 3 := by rfl) : Run p l e R s m args below meth c Z own nm bytes maxL ret n0 EE h k n (mkF m pc ls (.int x :: st)) := by
  by_cases hc : (0 : Int32) < x
  · exact Run.gt0Y q hd hc (hr hc) ho hq
  · exact Run.gt0N q' hd hc (hr' hc) hq'
theorem Run.leY {x y : Int32} {o : Int} (q : Nat) (hd : decode bytes pc = .ok (.if_icmp .le o, 3)) (hc : ¬ (y < x)) (hr : Run p l e R s m args below meth c Z own nm bytes maxL ret n0 EE h k n (mkF m q ls st)) (ho : 0 ≤ (pc : Int) + o := by decide) (hq : ((pc : Int) + o).toNat = q := by rfl) : Run p l e R s m args below meth c Z own nm bytes maxL ret n0 EE h k n (mkF m pc ls (.int y :: .int x :: st)) :=
  Run.step (fun T t hx hb A z => XS.icmpYes A hx rfl rfl (hb ▸ hd) rfl (flt hc).2.2.2 ho hq z) hr
theorem Run.leN {x y : Int32} {o : Int} (q : Nat) (hd : decode bytes pc = .ok (.if_icmp .le o, 3)) (hc : y < x) (hr : Run p l e R s m args below meth c Z own nm bytes maxL ret n0 EE h k n (mkF m q ls st)) (hq : q = pc + 3 := by rfl) : Run p l e R s m args below meth c Z own nm bytes maxL ret n0 EE h k n (mkF m pc ls (.int y :: .int x :: st)) := by
  subst hq; exact Run.step (fun T t hx hb A z => XS.icmpNo A hx rfl (hb ▸ hd) rfl (tlt hc).2.2.2 z) hr
theorem Run.le {x y : Int32} {o : Int} (q q' : Nat) (hd : decode bytes pc = .ok (.if_icmp .le o, 3)) (hr : ¬ (y < x) → Run p l e R s m args below meth c Z own nm bytes maxL ret n0 EE h k n (mkF m q ls st)) (hr' : y < x → Run p l e R s m args below meth c Z own nm bytes maxL ret n0 EE h k n (mkF m q' ls st)) (ho : 0 ≤ (pc : Int) + o := by decide) (hq : ((pc : Int) + o).toNat = q := by rfl) (hq' : q' = pc + 3 := by rfl) : Run p l e R s m args below meth c Z own nm bytes maxL ret n0 EE h k n (mkF m pc ls (.int y :: .int x :: st)) := by
  by_cases hc : y < x
  · exact Run.leN q' hd hc (hr' hc) hq'
  · exact Run.leY q hd hc (hr hc) ho hq
theorem Run.le0Y {x : Int32} {o : Int} (q : Nat) (hd : decode bytes pc = .ok (.ifCond .le o, 3)) (hc : ¬ ((0 : Int32) < x)) (hr : Run p l e R s m args below meth c Z own nm bytes maxL ret n0 EE h k n (mkF m q ls st)) (ho : 0 ≤ (pc : Int) + o := by decide) (hq : ((pc : Int) + o).toNat = q := by rfl) : Run p l e R s m args below meth c Z own nm bytes maxL ret n0 EE h k n (mkF m pc ls (.int x :: st)) :=
  Run.step (fun T t hx hb A z => XS.ifYes A hx rfl rfl (hb ▸ hd) rfl ((if0 _ _).trans (flt hc).2.2.2) ho hq z) hr
theorem Run.le0N {x : Int32} {o : Int} (q : Nat) (hd : decode bytes pc = .ok (.ifCond .le o, 3)) (hc : (0 : Int32) < x) (hr : Run p l e R s m args below meth c Z own nm bytes maxL ret n0 EE h k n (mkF m q ls st)) (hq : q = pc + 3 := by rfl) : Run p l e R s m args below meth c Z own nm bytes maxL ret n0 EE h k n (mkF m pc ls (.int x :: st)) := by
  subst hq; exact Run.step (fun T t hx hb A z => XS.ifNo A hx rfl (hb ▸ hd) rfl ((if0 _ _).trans (tlt hc).2.2.2) z) hr
theorem Run.le0 {x : Int32} {o : Int} (q q' : Nat) (hd : decode bytes pc = .ok (.ifCond .le o, 3)) (hr : ¬ ((0 : Int32) < x) → Run p l e R s m args below meth c Z own nm bytes maxL ret n0 EE h k n (mkF m q ls st)) (hr' : (0 : Int32) < x → Run p l e R s m args below meth c Z own nm bytes maxL ret n0 EE h k n (mkF m q' ls st)) (ho : 0 ≤ (pc : Int) + o := by decide) (hq : ((pc : Int) + o).toNat = q := by rfl) (hq' : q' = pc + 3 := by rfl) : Run p l e R s m args below meth c Z own nm bytes maxL ret n0 EE h k n (mkF m pc ls (.int x :: st)) := by
  by_cases hc : (0 : Int32) < x
  · exact Run.le0N q' hd hc (hr' hc) hq'
  · exact Run.le0Y q hd hc (hr hc) ho hq
theorem Run.eqY {x y : Int32} {o : Int} (q : Nat) (hd : decode bytes pc = .ok (.if_icmp .eq o, 3)) (hc : x = y) (hr : Run p l e R s m args below meth c Z own nm bytes maxL ret n0 EE h k n (mkF m q ls st)) (ho : 0 ≤ (pc : Int) + o := by decide) (hq : ((pc : Int) + o).toNat = q := by rfl) : Run p l e R s m args below meth c Z own nm bytes maxL ret n0 EE h k n (mkF m pc ls (.int y :: .int x :: st)) :=
  Run.step (fun T t hx hb A z => XS.icmpYes A hx rfl rfl (hb ▸ hd) rfl (teq hc).1 ho hq z) hr
theorem Run.eqN {x y : Int32} {o : Int} (q : Nat) (hd : decode bytes pc = .ok (.if_icmp .eq o, 3)) (hc : ¬ (x = y)) (hr : Run p l e R s m args below meth c Z own nm bytes maxL ret n0 EE h k n (mkF m q ls st)) (hq : q = pc + 3 := by rfl) : Run p l e R s m args below meth c Z own nm bytes maxL ret n0 EE h k n (mkF m pc ls (.int y :: .int x :: st)) := by
  subst hq; exact Run.step (fun T t hx hb A z => XS.icmpNo A hx rfl (hb ▸ hd) rfl (feq hc).1 z) hr
theorem Run.eq {x y : Int32} {o : Int} (q q' : Nat) (hd : decode bytes pc = .ok (.if_icmp .eq o, 3)) (hr : x = y → Run p l e R s m args below meth c Z own nm bytes maxL ret n0 EE h k n (mkF m q ls st)) (hr' : ¬ (x = y) → Run p l e R s m args below meth c Z own nm bytes maxL ret n0 EE h k n (mkF m q' ls st)) (ho : 0 ≤ (pc : Int) + o := by decide) (hq : ((pc : Int) + o).toNat = q := by rfl) (hq' : q' = pc + 3 := by rfl) : Run p l e R s m args below meth c Z own nm bytes maxL ret n0 EE h k n (mkF m pc ls (.int y :: .int x :: st)) := by
  by_cases hc : x = y
  · exact Run.eqY q hd hc (hr hc) ho hq
  · exact Run.eqN q' hd hc (hr' hc) hq'
theorem Run.eq0Y {x : Int32} {o : Int} (q : Nat) (hd : decode bytes pc = .ok (.ifCond .eq o, 3)) (hc : x = (0 : Int32)) (hr : Run p l e R s m args below meth c Z own nm bytes maxL ret n0 EE h k n (mkF m q ls st)) (ho : 0 ≤ (pc : Int) + o := by decide) (hq : ((pc : Int) + o).toNat = q := by rfl) : Run p l e R s m args below meth c Z own nm bytes maxL ret n0 EE h k n (mkF m pc ls (.int x :: st)) :=
  Run.step (fun T t hx hb A z => XS.ifYes A hx rfl rfl (hb ▸ hd) rfl ((if0 _ _).trans (teq hc).1) ho hq z) hr
theorem Run.eq0N {x : Int32} {o : Int} (q : Nat) (hd : decode bytes pc = .ok (.ifCond .eq o, 3)) (hc : ¬ (x = (0 : Int32))) (hr : Run p l e R s m args below meth c Z own nm bytes maxL ret n0 EE h k n (mkF m q ls st)) (hq : q = pc + 3 := by rfl) : Run p l e R s m args below meth c Z own nm bytes maxL ret n0 EE h k n (mkF m pc ls (.int x :: st)) := by
  subst hq; exact Run.step (fun T t hx hb A z => XS.ifNo A hx rfl (hb ▸ hd) rfl ((if0 _ _).trans (feq hc).1) z) hr
theorem Run.eq0 {x : Int32} {o : Int} (q q' : Nat) (hd : decode bytes pc = .ok (.ifCond .eq o, 3)) (hr : x = (0 : Int32) → Run p l e R s m args below meth c Z own nm bytes maxL ret n0 EE h k n (mkF m q ls st)) (hr' : ¬ (x = (0 : Int32)) → Run p l e R s m args below meth c Z own nm bytes maxL ret n0 EE h k n (mkF m q' ls st)) (ho : 0 ≤ (pc : Int) + o := by decide) (hq : ((pc : Int) + o).toNat = q := by rfl) (hq' : q' = pc + 3 := by rfl) : Run p l e R s m args below meth c Z own nm bytes maxL ret n0 EE h k n (mkF m pc ls (.int x :: st)) := by
  by_cases hc : x = (0 : Int32)
  · exact Run.eq0Y q hd hc (hr hc) ho hq
  · exact Run.eq0N q' hd hc (hr' hc) hq'
theorem Run.neY {x y : Int32} {o : Int} (q : Nat) (hd : decode bytes pc = .ok (.if_icmp .ne o, 3)) (hc : ¬ (x = y)) (hr : Run p l e R s m args below meth c Z own nm bytes maxL ret n0 EE h k n (mkF m q ls st)) (ho : 0 ≤ (pc : Int) + o := by decide) (hq : ((pc : Int) + o).toNat = q := by rfl) : Run p l e R s m args below meth c Z own nm bytes maxL ret n0 EE h k n (mkF m pc ls (.int y :: .int x :: st)) :=
  Run.step (fun T t hx hb A z => XS.icmpYes A hx rfl rfl (hb ▸ hd) rfl (feq hc).2 ho hq z) hr
theorem Run.neN {x y : Int32} {o : Int} (q : Nat) (hd : decode bytes pc = .ok (.if_icmp .ne o, 3)) (hc : x = y) (hr : Run p l e R s m args below meth c Z own nm bytes maxL ret n0 EE h k n (mkF m q ls st)) (hq : q = pc + 3 := by rfl) : Run p l e R s m args below meth c Z own nm bytes maxL ret n0 EE h k n (mkF m pc ls (.int y :: .int x :: st)) := by
  subst hq; exact Run.step (fun T t hx hb A z => XS.icmpNo A hx rfl (hb ▸ hd) rfl (teq hc).2 z) hr
theorem Run.ne {x y : Int32} {o : Int} (q q' : Nat) (hd : decode bytes pc = .ok (.if_icmp .ne o, 3)) (hr : ¬ (x = y) → Run p l e R s m args below meth c Z own nm bytes maxL ret n0 EE h k n (mkF m q ls st)) (hr' : x = y → Run p l e R s m args below meth c Z own nm bytes maxL ret n0 EE h k n (mkF m q' ls st)) (ho : 0 ≤ (pc : Int) + o := by decide) (hq : ((pc : Int) + o).toNat = q := by rfl) (hq' : q' = pc + 3 := by rfl) : Run p l e R s m args below meth c Z own nm bytes maxL ret n0 EE h k n (mkF m pc ls (.int y :: .int x :: st)) := by
  by_cases hc : x = y
  · exact Run.neN q' hd hc (hr' hc) hq'
  · exact Run.neY q hd hc (hr hc) ho hq
theorem Run.ne0Y {x : Int32} {o : Int} (q : Nat) (hd : decode bytes pc = .ok (.ifCond .ne o, 3)) (hc : ¬ (x = (0 : Int32))) (hr : Run p l e R s m args below meth c Z own nm bytes maxL ret n0 EE h k n (mkF m q ls st)) (ho : 0 ≤ (pc : Int) + o := by decide) (hq : ((pc : Int) + o).toNat = q := by rfl) : Run p l e R s m args below meth c Z own nm bytes maxL ret n0 EE h k n (mkF m pc ls (.int x :: st)) :=
  Run.step (fun T t hx hb A z => XS.ifYes A hx rfl rfl (hb ▸ hd) rfl ((if0 _ _).trans (feq hc).2) ho hq z) hr
theorem Run.ne0N {x : Int32} {o : Int} (q : Nat) (hd : decode bytes pc = .ok (.ifCond .ne o, 3)) (hc : x = (0 : Int32)) (hr : Run p l e R s m args below meth c Z own nm bytes maxL ret n0 EE h k n (mkF m q ls st)) (hq : q = pc + 3 := by rfl) : Run p l e R s m args below meth c Z own nm bytes maxL ret n0 EE h k n (mkF m pc ls (.int x :: st)) := by
  subst hq; exact Run.step (fun T t hx hb A z => XS.ifNo A hx rfl (hb ▸ hd) rfl ((if0 _ _).trans (teq hc).2) z) hr
theorem Run.ne0 {x : Int32} {o : Int} (q q' : Nat) (hd : decode bytes pc = .ok (.ifCond .ne o, 3)) (hr : ¬ (x = (0 : Int32)) → Run p l e R s m args below meth c Z own nm bytes maxL ret n0 EE h k n (mkF m q ls st)) (hr' : x = (0 : Int32) → Run p l e R s m args below meth c Z own nm bytes maxL ret n0 EE h k n (mkF m q' ls st)) (ho : 0 ≤ (pc : Int) + o := by decide) (hq : ((pc : Int) + o).toNat = q := by rfl) (hq' : q' = pc + 3 := by rfl) : Run p l e R s m args below meth c Z own nm bytes maxL ret n0 EE h k n (mkF m pc ls (.int x :: st)) := by
  by_cases hc : x = (0 : Int32)
  · exact Run.ne0N q' hd hc (hr' hc) hq'
  · exact Run.ne0Y q hd hc (hr hc) ho hq
theorem Run.lltY {x y : Int64} {o : Int} (q : Nat) (hd1 : decode bytes pc = .ok (.lcmp, 1)) (hd : decode bytes (pc + 1) = .ok (.ifCond .lt o, 3)) (hc : x < y) (hr : Run p l e R s m args below meth c Z own nm bytes maxL ret n0 EE h k n (mkF m q ls st)) (ho : 0 ≤ ((pc + 1 : Nat) : Int) + o := by decide) (hq : (((pc + 1 : Nat) : Int) + o).toNat = q := by rfl) : Run p l e R s m args below meth c Z own nm bytes maxL ret n0 EE h k n (mkF m pc ls (.long y :: .long x :: st)) :=
  Run.step (fun T t hx hb A z => XS.lcmp A hx rfl (hb ▸ hd1) rfl (XS.ifYes (x := lcmpW x y) (rest := st) (g := mkF m (pc + 1) ls (.int (lcmpW x y) :: st)) A hx rfl rfl (hb ▸ hd) rfl ((if0 _ _).trans (tlt ((lw_lt x y).mpr hc)).1) ho hq z)) hr
theorem Run.lltN {x y : Int64} {o : Int} (q : Nat) (hd1 : decode bytes pc = .ok (.lcmp, 1)) (hd : decode bytes (pc + 1) = .ok (.ifCond .lt o, 3)) (hc : ¬ (x < y)) (hr : Run p l e R s m args below meth c Z own nm bytes maxL ret n0 EE h k n (mkF m q ls st)) (hq : q = pc + 4 := by rfl) : Run p l e R s m args below meth c Z own nm bytes maxL ret n0 EE h k n (mkF m pc ls (.long y :: .long x :: st)) := by
  subst hq; exact Run.step (fun T t hx hb A z => XS.lcmp A hx rfl (hb ▸ hd1) rfl (XS.ifNo (x := lcmpW x y) (rest := st) (g := mkF m (pc + 1) ls (.int (lcmpW x y) :: st)) A hx rfl (hb ▸ hd) rfl ((if0 _ _).trans (flt (fun z => hc ((lw_lt x y).mp z))).1) z)) hr
theorem Run.llt {x y : Int64} {o : Int} (q q' : Nat) (hd1 : decode bytes pc = .ok (.lcmp, 1)) (hd : decode bytes (pc + 1) = .ok (.ifCond .lt o, 3)) (hr : x < y → Run p l e R s m args below meth c Z own nm bytes maxL ret n0 EE h k n (mkF m q ls st)) (hr' : ¬ (x < y) → Run p l e R s m args below meth c Z own nm bytes maxL ret n0 EE h k n (mkF m q' ls st)) (ho : 0 ≤ ((pc + 1 : Nat) : Int) + o := by decide) (hq : (((pc + 1 : Nat) : Int) + o).toNat = q := by rfl) (hq' : q' = pc + 4 := by rfl) : Run p l e R s m args below meth c Z own nm bytes maxL ret n0 EE h k n (mkF m pc ls (.long y :: .long x :: st)) := by
  by_cases hc : x < y
  · exact Run.lltY q hd1 hd hc (hr hc) ho hq
  · exact Run.lltN q' hd1 hd hc (hr' hc) hq'
theorem Run.lgeY {x y : Int64} {o : Int} (q : Nat) (hd1 : decode bytes pc = .ok (.lcmp, 1)) (hd : decode bytes (pc + 1) = .ok (.ifCond .ge o, 3)) (hc : ¬ (x < y)) (hr : Run p l e R s m args below meth c Z own nm bytes maxL ret n0 EE h k n (mkF m q ls st)) (ho : 0 ≤ ((pc + 1 : Nat) : Int) + o := by decide) (hq : (((pc + 1 : Nat) : Int) + o).toNat = q := by rfl) : Run p l e R s m args below meth c Z own nm bytes maxL ret n0 EE h k n (mkF m pc ls (.long y :: .long x :: st)) :=
  Run.step (fun T t hx hb A z => XS.lcmp A hx rfl (hb ▸ hd1) rfl (XS.ifYes (x := lcmpW x y) (rest := st) (g := mkF m (pc + 1) ls (.int (lcmpW x y) :: st)) A hx rfl rfl (hb ▸ hd) rfl ((if0 _ _).trans (flt (fun z => hc ((lw_lt x y).mp z))).2.1) ho hq z)) hr
theorem Run.lgeN {x y : Int64} {o : Int} (q : Nat) (hd1 : decode bytes pc = .ok (.lcmp, 1)) (hd : decode bytes (pc + 1) = .ok (.ifCond .ge o, 3)) (hc : x < y) (hr : Run p l e R s m args below meth c Z own nm bytes maxL ret n0 EE h k n (mkF m q ls st)) (hq : q = pc + 4 := by rfl) : Run p l e R s m args below meth c Z own nm bytes maxL ret n0 EE h k n (mkF m pc ls (.long y :: .long x :: st)) := by
  subst hq; exact Run.step (fun T t hx hb A z => XS.lcmp A hx rfl (hb ▸ hd1) rfl (XS.ifNo (x := lcmpW x y) (rest := st) (g := mkF m (pc + 1) ls (.int (lcmpW x y) :: st)) A hx rfl (hb ▸ hd) rfl ((if0 _ _).trans (tlt ((lw_lt x y).mpr hc)).2.1) z)) hr
theorem Run.lge {x y : Int64} {o : Int} (q q' : Nat) (hd1 : decode bytes pc = .ok (.lcmp, 1)) (hd : decode bytes (pc + 1) = .ok (.ifCond .ge o, 3)) (hr : ¬ (x < y) → Run p l e R s m args below meth c Z own nm bytes maxL ret n0 EE h k n (mkF m q ls st)) (hr' : x < y → Run p l e R s m args below meth c Z own nm bytes maxL ret n0 EE h k n (mkF m q' ls st)) (ho : 0 ≤ ((pc + 1 : Nat) : Int) + o := by decide) (hq : (((pc + 1 : Nat) : Int) + o).toNat = q := by rfl) (hq' : q' = pc + 4 := by rfl) : Run p l e R s m args below meth c Z own nm bytes maxL ret n0 EE h k n (mkF m pc ls (.long y :: .long x :: st)) := by
  by_cases hc : x < y
  · exact Run.lgeN q' hd1 hd hc (hr' hc) hq'
  · exact Run.lgeY q hd1 hd hc (hr hc) ho hq
theorem Run.lgtY {x y : Int64} {o : Int} (q : Nat) (hd1 : decode bytes pc = .ok (.lcmp, 1)) (hd : decode bytes (pc + 1) = .ok (.ifCond .gt o, 3)) (hc : y < x) (hr : Run p l e R s m args below meth c Z own nm bytes maxL ret n0 EE h k n (mkF m q ls st)) (ho : 0 ≤ ((pc + 1 : Nat) : Int) + o := by decide) (hq : (((pc + 1 : Nat) : Int) + o).toNat = q := by rfl) : Run p l e R s m args below meth c Z own nm bytes maxL ret n0 EE h k n (mkF m pc ls (.long y :: .long x :: st)) :=
  Run.step (fun T t hx hb A z => XS.lcmp A hx rfl (hb ▸ hd1) rfl (XS.ifYes (x := lcmpW x y) (rest := st) (g := mkF m (pc + 1) ls (.int (lcmpW x y) :: st)) A hx rfl rfl (hb ▸ hd) rfl ((if0 _ _).trans (tlt ((lw_gt x y).mpr hc)).2.2.1) ho hq z)) hr
theorem Run.lgtN {x y : Int64} {o : Int} (q : Nat) (hd1 : decode bytes pc = .ok (.lcmp, 1)) (hd : decode bytes (pc + 1) = .ok (.ifCond .gt o, 3)) (hc : ¬ (y < x)) (hr : Run p l e R s m args below meth c Z own nm bytes maxL ret n0 EE h k n (mkF m q ls st)) (hq : q = pc + 4 := by rfl) : Run p l e R s m args below meth c Z own nm bytes maxL ret n0 EE h k n (mkF m pc ls (.long y :: .long x :: st)) := by
  subst hq; exact Run.step (fun T t hx hb A z => XS.lcmp A hx rfl (hb ▸ hd1) rfl (XS.ifNo (x := lcmpW x y) (rest := st) (g := mkF m (pc + 1) ls (.int (lcmpW x y) :: st)) A hx rfl (hb ▸ hd) rfl ((if0 _ _).trans (flt (fun z => hc ((lw_gt x y).mp z))).2.2.1) z)) hr
theorem Run.lgt {x y : Int64} {o : Int} (q q' : Nat) (hd1 : decode bytes pc = .ok (.lcmp, 1)) (hd : decode bytes (pc + 1) = .ok (.ifCond .gt o, 3)) (hr : y < x → Run p l e R s m args below meth c Z own nm bytes maxL ret n0 EE h k n (mkF m q ls st)) (hr' : ¬ (y < x) → Run p l e R s m args below meth c Z own nm bytes maxL ret n0 EE h k n (mkF m q' ls st)) (ho : 0 ≤ ((pc + 1 : Nat) : Int) + o := by decide) (hq : (((pc + 1 : Nat) : Int) + o).toNat = q := by rfl) (hq' : q' = pc + 4 := by rfl) : Run p l e R s m args below meth c Z own nm bytes maxL ret n0 EE h k n (mkF m pc ls (.long y :: .long x :: st)) := by
  by_cases hc : y < x
  · exact Run.lgtY q hd1 hd hc (hr hc) ho hq
  · exact Run.lgtN q' hd1 hd hc (hr' hc) hq'
theorem Run.lleY {x y : Int64} {o : Int} (q : Nat) (hd1 : decode bytes pc = .ok (.lcmp, 1)) (hd : decode bytes (pc + 1) = .ok (.ifCond .le o, 3)) (hc : ¬ (y < x)) (hr : Run p l e R s m args below meth c Z own nm bytes maxL ret n0 EE h k n (mkF m q ls st)) (ho : 0 ≤ ((pc + 1 : Nat) : Int) + o := by decide) (hq : (((pc + 1 : Nat) : Int) + o).toNat = q := by rfl) : Run p l e R s m args below meth c Z own nm bytes maxL ret n0 EE h k n (mkF m pc ls (.long y :: .long x :: st)) :=
  Run.step (fun T t hx hb A z => XS.lcmp A hx rfl (hb ▸ hd1) rfl (XS.ifYes (x := lcmpW x y) (rest := st) (g := mkF m (pc + 1) ls (.int (lcmpW x y) :: st)) A hx rfl rfl (hb ▸ hd) rfl ((if0 _ _).trans (flt (fun z => hc ((lw_gt x y).mp z))).2.2.2) ho hq z)) hr
theorem Run.lleN {x y : Int64} {o : Int} (q : Nat) (hd1 : decode bytes pc = .ok (.lcmp, 1)) (hd : decode bytes (pc + 1) = .ok (.ifCond .le o, 3)) (hc : y < x) (hr : Run p l e R s m args below meth c Z own nm bytes maxL ret n0 EE h k n (mkF m q ls st)) (hq : q = pc + 4 := by rfl) : Run p l e R s m args below meth c Z own nm bytes maxL ret n0 EE h k n (mkF m pc ls (.long y :: .long x :: st)) := by
  subst hq; exact Run.step (fun T t hx hb A z => XS.lcmp A hx rfl (hb ▸ hd1) rfl (XS.ifNo (x := lcmpW x y) (rest := st) (g := mkF m (pc + 1) ls (.int (lcmpW x y) :: st)) A hx rfl (hb ▸ hd) rfl ((if0 _ _).trans (tlt ((lw_gt x y).mpr hc)).2.2.2) z)) hr
theorem Run.lle {x y : Int64} {o : Int} (q q' : Nat) (hd1 : decode bytes pc = .ok (.lcmp, 1)) (hd : decode bytes (pc + 1) = .ok (.ifCond .le o, 3)) (hr : ¬ (y < x) → Run p l e R s m args below meth c Z own nm bytes maxL ret n0 EE h k n (mkF m q ls st)) (hr' : y < x → Run p l e R s m args below meth c Z own nm bytes maxL ret n0 EE h k n (mkF m q' ls st)) (ho : 0 ≤ ((pc + 1 : Nat) : Int) + o := by decide) (hq : (((pc + 1 : Nat) : Int) + o).toNat = q := by rfl) (hq' : q' = pc + 4 := by rfl) : Run p l e R s m args below meth c Z own nm bytes maxL ret n0 EE h k n (mkF m pc ls (.long y :: .long x :: st)) := by
  by_cases hc : y < x
  · exact Run.lleN q' hd1 hd hc (hr' hc) hq'
  · exact Run.lleY q hd1 hd hc (hr hc) ho hq
theorem Run.leqY {x y : Int64} {o : Int} (q : Nat) (hd1 : decode bytes pc = .ok (.lcmp, 1)) (hd : decode bytes (pc + 1) = .ok (.ifCond .eq o, 3)) (hc : x = y) (hr : Run p l e R s m args below meth c Z own nm bytes maxL ret n0 EE h k n (mkF m q ls st)) (ho : 0 ≤ ((pc + 1 : Nat) : Int) + o := by decide) (hq : (((pc + 1 : Nat) : Int) + o).toNat = q := by rfl) : Run p l e R s m args below meth c Z own nm bytes maxL ret n0 EE h k n (mkF m pc ls (.long y :: .long x :: st)) :=
  Run.step (fun T t hx hb A z => XS.lcmp A hx rfl (hb ▸ hd1) rfl (XS.ifYes (x := lcmpW x y) (rest := st) (g := mkF m (pc + 1) ls (.int (lcmpW x y) :: st)) A hx rfl rfl (hb ▸ hd) rfl ((if0 _ _).trans (teq ((lw_eq x y).mpr hc)).1) ho hq z)) hr
theorem Run.leqN {x y : Int64} {o : Int} (q : Nat) (hd1 : decode bytes pc = .ok (.lcmp, 1)) (hd : decode bytes (pc + 1) = .ok (.ifCond .eq o, 3)) (hc : ¬ (x = y)) (hr : Run p l e R s m args below meth c Z own nm bytes maxL ret n0 EE h k n (mkF m q ls st)) (hq : q = pc + 4 := by rfl) : Run p l e R s m args below meth c Z own nm bytes maxL ret n0 EE h k n (mkF m pc ls (.long y :: .long x :: st)) := by
  subst hq; exact Run.step (fun T t hx hb A z => XS.lcmp A hx rfl (hb ▸ hd1) rfl (XS.ifNo (x := lcmpW x y) (rest := st) (g := mkF m (pc + 1) ls (.int (lcmpW x y) :: st)) A hx rfl (hb ▸ hd) rfl ((if0 _ _).trans (feq (fun z => hc ((lw_eq x y).mp z))).1) z)) hr
theorem Run.leq {x y : Int64} {o : Int} (q q' : Nat) (hd1 : decode bytes pc = .ok (.lcmp, 1)) (hd : decode bytes (pc + 1) = .ok (.ifCond .eq o, 3)) (hr : x = y → Run p l e R s m args below meth c Z own nm bytes maxL ret n0 EE h k n (mkF m q ls st)) (hr' : ¬ (x = y) → Run p l e R s m args below meth c Z own nm bytes maxL ret n0 EE h k n (mkF m q' ls st)) (ho : 0 ≤ ((pc + 1 : Nat) : Int) + o := by decide) (hq : (((pc + 1 : Nat) : Int) + o).toNat = q := by rfl) (hq' : q' = pc + 4 := by rfl) : Run p l e R s m args below meth c Z own nm bytes maxL ret n0 EE h k n (mkF m pc ls (.long y :: .long x :: st)) := by
  by_cases hc : x = y
  · exact Run.leqY q hd1 hd hc (hr hc) ho hq
  · exact Run.leqN q' hd1 hd hc (hr' hc) hq'
theorem Run.lneY {x y : Int64} {o : Int} (q : Nat) (hd1 : decode bytes pc = .ok (.lcmp, 1)) (hd : decode bytes (pc + 1) = .ok (.ifCond .ne o, 3)) (hc : ¬ (x = y)) (hr : Run p l e R s m args below meth c Z own nm bytes maxL ret n0 EE h k n (mkF m q ls st)) (ho : 0 ≤ ((pc + 1 : Nat) : Int) + o := by decide) (hq : (((pc + 1 : Nat) : Int) + o).toNat = q := by rfl) : Run p l e R s m args below meth c Z own nm bytes maxL ret n0 EE h k n (mkF m pc ls (.long y :: .long x :: st)) :=
  Run.step (fun T t hx hb A z => XS.lcmp A hx rfl (hb ▸ hd1) rfl (XS.ifYes (x := lcmpW x y) (rest := st) (g := mkF m (pc + 1) ls (.int (lcmpW x y) :: st)) A hx rfl rfl (hb ▸ hd) rfl ((if0 _ _).trans (feq (fun z => hc ((lw_eq x y).mp z))).2) ho hq z)) hr
theorem Run.lneN {x y : Int64} {o : Int} (q : Nat) (hd1 : decode bytes pc = .ok (.lcmp, 1)) (hd : decode bytes (pc + 1) = .ok (.ifCond .ne o, 3)) (hc : x = y) (hr : Run p l e R s m args below meth c Z own nm bytes maxL ret n0 EE h k n (mkF m q ls st)) (hq : q = pc + 4 := by rfl) : Run p l e R s m args below meth c Z own nm bytes maxL ret n0 EE h k n (mkF m pc ls (.long y :: .long x :: st)) := by
  subst hq; exact Run.step (fun T t hx hb A z => XS.lcmp A hx rfl (hb ▸ hd1) rfl (XS.ifNo (x := lcmpW x y) (rest := st) (g := mkF m (pc + 1) ls (.int (lcmpW x y) :: st)) A hx rfl (hb ▸ hd) rfl ((if0 _ _).trans (teq ((lw_eq x y).mpr hc)).2) z)) hr
theorem Run.lne {x y : Int64} {o : Int} (q q' : Nat) (hd1 : decode bytes pc = .ok (.lcmp, 1)) (hd : decode bytes (pc + 1) = .ok (.ifCond .ne o, 3)) (hr : ¬ (x = y) → Run p l e R s m args below meth c Z own nm bytes maxL ret n0 EE h k n (mkF m q ls st)) (hr' : x = y → Run p l e R s m args below meth c Z own nm bytes maxL ret n0 EE h k n (mkF m q' ls st)) (ho : 0 ≤ ((pc + 1 : Nat) : Int) + o := by decide) (hq : (((pc + 1 : Nat) : Int) + o).toNat = q := by rfl) (hq' : q' = pc + 4 := by rfl) : Run p l e R s m args below meth c Z own nm bytes maxL ret n0 EE h k n (mkF m pc ls (.long y :: .long x :: st)) := by
  by_cases hc : x = y
  · exact Run.lneN q' hd1 hd hc (hr' hc) hq'
  · exact Run.lneY q hd1 hd hc (hr hc) ho hq
theorem Run.ldcI {i : Nat} {v : Int32} (q : Nat) (w : (Jvm.Cond.constant own i v).before a0 Z = true) (hd : decode bytes pc = .ok (.ldc i, 2)) (hr : Run p l e R s m args below meth c Z own nm bytes maxL ret n0 EE h k n (mkF m q ls (.int v :: st))) (hq : q = pc + 2 := by rfl) : Run p l e R s m args below meth c Z own nm bytes maxL ret n0 EE h k n (mkF m pc ls st) := by
  subst hq; intro C T locs X F E
  obtain ⟨s₂, o, q1, q2⟩ := hr C T locs X F E
  exact ⟨s₂, o, X.ldcInt C.1 C.2.2.2.1 (mvT C.2.2.2.2.2.1 w) (g := mkF m pc ls st) rfl (C.2.1 ▸ hd) _ q1, q2⟩
theorem Run.ldcwI {i : Nat} {v : Int32} (q : Nat) (w : (Jvm.Cond.constant own i v).before a0 Z = true) (hd : decode bytes pc = .ok (.ldc_w i, 3)) (hr : Run p l e R s m args below meth c Z own nm bytes maxL ret n0 EE h k n (mkF m q ls (.int v :: st))) (hq : q = pc + 3 := by rfl) : Run p l e R s m args below meth c Z own nm bytes maxL ret n0 EE h k n (mkF m pc ls st) := by
  subst hq; intro C T locs X F E
  obtain ⟨s₂, o, q1, q2⟩ := hr C T locs X F E
  exact ⟨s₂, o, X.ldcwInt C.1 C.2.2.2.1 (mvT C.2.2.2.2.2.1 w) (g := mkF m pc ls st) rfl (C.2.1 ▸ hd) _ q1, q2⟩
theorem Run.ldcJ {i : Nat} {v : Int64} (q : Nat) (w : (Jvm.Cond.constantLong own i v).before a0 Z = true) (hd : decode bytes pc = .ok (.ldc2_w i, 3)) (hr : Run p l e R s m args below meth c Z own nm bytes maxL ret n0 EE h k n (mkF m q ls (.long v :: st))) (hq : q = pc + 3 := by rfl) : Run p l e R s m args below meth c Z own nm bytes maxL ret n0 EE h k n (mkF m pc ls st) := by
  subst hq; intro C T locs X F E
  obtain ⟨s₂, o, q1, q2⟩ := hr C T locs X F E
  exact ⟨s₂, o, X.ldc2Long C.1 C.2.2.2.1 (mvT C.2.2.2.2.2.1 w) (g := mkF m pc ls st) rfl (C.2.1 ▸ hd) _ q1, q2⟩
theorem own_retI {T : State} {locs : List Loc} {cells slots : Nat} (X : Stand p l e R s m args below meth c T locs cells slots) (hx : p.tables.exec = Jvm.exec) {Ls : Array Slot} {z : Int32} {rest : List Value} (hret : meth.sig.returnType = some .int) (hd : decode c.code pc = .ok (.ireturn, 1)) {fs : List Frame}
    (hl : ∀ (f : JFrame) (acts : List Action), f.method = m → f.locked = none → f.entered = [] → (doReturn e (T.setTop f) acts (some (.int z))).1 = T.setFrames fs) : Steps p.tables e below (T.setTop (mkF m pc Ls (.int z :: rest))) (T.setFrames fs) := by
  have hm' : T.vm.method? m = some meth := X.method'
  have hn : narrow .int (.int z) = .int z := rfl
  show Steps p.tables e below (T.setTop { method := m, pc := pc, locals := Ls, stack := _ :: rest, locked := none }) _
  jvm_step X.here [X.here.top, hx, hd, hm', hret, hn]
  first | (intro acts; rw [hl _ acts rfl rfl rfl]) | rw [hl _ _ rfl rfl rfl]
  exact Steps.refl _
theorem Run.retN {Q : Option Value → Heap → Prop} {K N : Nat} {z : Int32} (t : FieldType) (ht : t = .boolean ∨ t = .byte ∨ t = .char ∨ t = .short) (hd : decode bytes pc = .ok (.ireturn, 1)) (hQ : Q (some (.int (nar t z))) h) (hk : k ≤ K := by decide) (hn : n ≤ N := by decide) : Run p l e R s m args below meth c Z own nm bytes maxL (some t) n0 (EndN s n0 Q K N) h k n (mkF m pc ls (.int z :: st)) := by
  intro C T locs X F E
  obtain ⟨fs, hr, hrun, hended, hW, hsame⟩ := X.leave (v := some (.int (nar t z))) (fun z => by rw [C.2.2.2.2.2.2.1] at z; cases z) C.2.2.2.2.2.2.2.1
  exact ⟨_, _, Jvm.RoadKit.retN X C.1 C.2.2.2.2.2.2.1 ht (C.2.1 ▸ hd) hr, hrun, hended, _, _, rfl, ⟨by show Q _ T.heap; rw [E]; exact hQ, F⟩, ⟨_, rfl⟩, hW, hsame.mono hk hn⟩
theorem Run.retI {Q : Option Value → Heap → Prop} {K N : Nat} {z : Int32} (hd : decode bytes pc = .ok (.ireturn, 1)) (hQ : Q (some (.int z)) h) (hk : k ≤ K := by decide) (hn : n ≤ N := by decide) : Run p l e R s m args below meth c Z own nm bytes maxL (some .int) n0 (EndN s n0 Q K N) h k n (mkF m pc ls (.int z :: st)) := by
  intro C T locs X F E
  obtain ⟨fs, hr, hrun, hended, hW, hsame⟩ := X.leave (v := some (.int z)) (fun z => by rw [C.2.2.2.2.2.2.1] at z; cases z) C.2.2.2.2.2.2.2.1
  exact ⟨_, _, own_retI X C.1 C.2.2.2.2.2.2.1 (C.2.1 ▸ hd) hr, hrun, hended, _, _, rfl, ⟨by show Q _ T.heap; rw [E]; exact hQ, F⟩, ⟨_, rfl⟩, hW, hsame.mono hk hn⟩
theorem Run.retJ {Q : Option Value → Heap → Prop} {K N : Nat} {z : Int64} (hd : decode bytes pc = .ok (.lreturn, 1)) (hQ : Q (some (.long z)) h) (hk : k ≤ K := by decide) (hn : n ≤ N := by decide) : Run p l e R s m args below meth c Z own nm bytes maxL (some .long) n0 (EndN s n0 Q K N) h k n (mkF m pc ls [.long z]) := by
  intro C T locs X F E
  obtain ⟨fs, hr, hrun, hended, hW, hsame⟩ := X.leave (v := some (.long z)) (fun z => by rw [C.2.2.2.2.2.2.1] at z; cases z) C.2.2.2.2.2.2.2.1
  exact ⟨_, _, X.lreturnOut C.1 C.2.2.2.2.2.2.1 (C.2.1 ▸ hd) hr, hrun, hended, _, _, rfl, ⟨by show Q _ T.heap; rw [E]; exact hQ, F⟩, ⟨_, rfl⟩, hW, hsame.mono hk hn⟩
theorem Run.retV {Q : Option Value → Heap → Prop} {K N : Nat}  (hd : decode bytes pc = .ok (.return_, 1)) (hQ : Q (none) h) (hk : k ≤ K := by decide) (hn : n ≤ N := by decide) : Run p l e R s m args below meth c Z own nm bytes maxL none n0 (EndN s n0 Q K N) h k n (mkF m pc ls []) := by
  intro C T locs X F E
  obtain ⟨fs, hr, hrun, hended, hW, hsame⟩ := X.leave (v := none) (fun _ => rfl) C.2.2.2.2.2.2.2.1
  exact ⟨_, _, X.returnOut C.1 C.2.2.2.2.2.2.1 (C.2.1 ▸ hd) hr, hrun, hended, _, _, rfl, ⟨by show Q _ T.heap; rw [E]; exact hQ, F⟩, ⟨_, rfl⟩, hW, hsame.mono hk hn⟩
theorem Run.retA {Q : Option Value → Heap → Prop} {K N : Nat} {v : Value} {t : FieldType} (hv : v.isRef = true) (ht : t.isReference = true) (hd : decode bytes pc = .ok (.areturn, 1)) (hQ : Q (some v) h) (hk : k ≤ K := by decide) (hn : n ≤ N := by decide) : Run p l e R s m args below meth c Z own nm bytes maxL (some t) n0 (EndN s n0 Q K N) h k n (mkF m pc ls [v]) := by
  intro C T locs X F E
  obtain ⟨fs, hr, hrun, hended, hW, hsame⟩ := X.leave (v := some v) (fun z => by rw [C.2.2.2.2.2.2.1] at z; cases z) C.2.2.2.2.2.2.2.1
  exact ⟨_, _, X.areturnOut C.1 hv C.2.2.2.2.2.2.1 ht (C.2.1 ▸ hd) hr, hrun, hended, _, _, rfl, ⟨by show Q _ T.heap; rw [E]; exact hQ, F⟩, ⟨_, rfl⟩, hW, hsame.mono hk hn⟩
theorem Run.ret1 {Q : Option Value → Heap → Prop} {K N : Nat} (hd : decode bytes pc = .ok (.ireturn, 1)) (hQ : Q (some (.int 1)) h) (hk : k ≤ K := by decide) (hn : n ≤ N := by decide) : Run p l e R s m args below meth c Z own nm bytes maxL (some .boolean) n0 (EndN s n0 Q K N) h k n (mkF m pc ls (.int (1 : Int32) :: st)) :=
  Run.retN .boolean (Or.inl rfl) hd (by rw [show nar .boolean 1 = 1 from by decide]; exact hQ) hk hn
theorem Run.ret0 {Q : Option Value → Heap → Prop} {K N : Nat} (hd : decode bytes pc = .ok (.ireturn, 1)) (hQ : Q (some (.int 0)) h) (hk : k ≤ K := by decide) (hn : n ≤ N := by decide) : Run p l e R s m args below meth c Z own nm bytes maxL (some .boolean) n0 (EndN s n0 Q K N) h k n (mkF m pc ls (.int (0 : Int32) :: st)) :=
  Run.retN .boolean (Or.inl rfl) hd (by rw [show nar .boolean 0 = 0 from by decide]; exact hQ) hk hn
theorem Run.retX {Q : Option Value → Heap → Prop} {K N : Nat} {z w : Int32} (t : FieldType) (ht : t = .boolean ∨ t = .byte ∨ t = .char ∨ t = .short) (hd : decode bytes pc = .ok (.ireturn, 1)) (hQ : Q (some (.int w)) h) (hv : nar t z = w := by rfl) (hk : k ≤ K := by decide) (hn : n ≤ N := by decide) : Run p l e R s m args below meth c Z own nm bytes maxL (some t) n0 (EndN s n0 Q K N) h k n (mkF m pc ls (.int z :: st)) :=
  Run.retN t ht hd (by rw [hv]; exact hQ) hk hn
theorem Run.getF {R0 O f d host : String} {i : Nat} {a : Addr} {v : Value} (q : Nat) (w : (Jvm.Cond.fieldLink own i R0 f d).before a0 Z = true ∨ (Jvm.Cond.fieldLinkNest own i R0 f d host).before a0 Z = true) (via : Via Z R0 O f d) (F : Fld Z h a O f d v) (hd : decode bytes pc = .ok (.getfield i, 3)) (hr : Run p l e R s m args below meth c Z own nm bytes maxL ret n0 EE h k n (mkF m q ls (v :: st))) (hq : q = pc + 3 := by rfl) : Run p l e R s m args below meth c Z own nm bytes maxL ret n0 EE h k n (mkF m pc ls (.ref a :: st)) := by
  subst hq; intro C T locs X Fr0 E
  obtain ⟨T', X', e', st'⟩ := Jvm.RoadKit.getF X C.1 C.2.2.2.2.2.1 C.2.2.2.1 (host := host) w via E F (g := mkF m pc ls (.ref a :: st)) rfl rfl (C.2.1 ▸ hd)
  obtain ⟨s₂, o, q1, q2⟩ := hr C T' locs X' Fr0 e'
  exact ⟨s₂, o, st' _ q1, q2⟩
theorem Run.getS {R0 O f d host : String} {i : Nat} {v : Value} (q : Nat) (w : (Jvm.Cond.fieldLink own i R0 f d).before a0 Z = true ∨ (Jvm.Cond.fieldLinkNest own i R0 f d host).before a0 Z = true) (via : Via Z R0 O f d) (F : Sta Z h O f d v) (hd : decode bytes pc = .ok (.getstatic i, 3)) (hr : Run p l e R s m args below meth c Z own nm bytes maxL ret n0 EE h k n (mkF m q ls (v :: st))) (hq : q = pc + 3 := by rfl) : Run p l e R s m args below meth c Z own nm bytes maxL ret n0 EE h k n (mkF m pc ls st) := by
  subst hq; intro C T locs X Fr0 E
  obtain ⟨T', X', e', st'⟩ := Jvm.RoadKit.getS2 X C.1 C.2.2.2.2.2.1 C.2.2.2.1 (host := host) w via E F (g := mkF m pc ls st) rfl (C.2.1 ▸ hd)
  obtain ⟨s₂, o, q1, q2⟩ := hr C T' locs X' Fr0 e'
  exact ⟨s₂, o, st' _ q1, q2⟩
theorem Run.putF {R0 O f d host CL : String} {i kk : Nat} {a : Addr} {v old : Value} {ty : FieldType} (q : Nat) (w : (Jvm.Cond.fieldLink own i R0 f d).before a0 Z = true ∨ (Jvm.Cond.fieldLinkNest own i R0 f d host).before a0 Z = true) (via : Via Z R0 O f d) (F : Fld Z h a O f d old) (EX : Exa Z h a CL) (L : (Jvm.Cond.lays CL O f d).before a0 Z = true ∨ ((Jvm.Cond.laysFinal CL O f d).before a0 Z = true ∧ own = O ∧ nm = "<init>")) (wi : (Jvm.Cond.instantiable CL kk).before a0 Z = true) (hty : parseFieldDescriptor d = some ty) (ga : n0 ≤ a) (hd : decode bytes pc = .ok (.putfield i, 3)) (hr : ∀ h' : Heap, Wr h h' a (Jvm.RoadKit.slotOf Z O f d) v → Run p l e R s m args below meth c Z own nm bytes maxL ret n0 EE h' k n (mkF m q ls st)) (hn : narrow ty v = v := by rfl) (hf : fits ty v = true := by rfl) (hq : q = pc + 3 := by rfl) : Run p l e R s m args below meth c Z own nm bytes maxL ret n0 EE h k n (mkF m pc ls (v :: .ref a :: st)) := by
  subst hq; intro C T locs X Fr0 E
  obtain ⟨T', h', X', e', W, st'⟩ := Jvm.RoadKit.putF X C.1 C.2.2.2.2.2.1 C.2.2.2.1 (host := host) w via E F EX (L.imp id fun z => ⟨z.1, z.2.1, C.2.2.2.2.1.trans z.2.2⟩) wi hty hn hf (g := mkF m pc ls (v :: .ref a :: st)) rfl rfl (C.2.1 ▸ hd)
  obtain ⟨s₂, o, q1, q2⟩ := hr h' W C T' _ X' (Fr.snoc X' Fr0 ga) e'
  exact ⟨s₂, o, st' _ q1, q2⟩
theorem Run.new {CL : String} {i sz : Nat} (q : Nat) (w : (Jvm.Cond.classLink own i CL).before a0 Z = true) (wi : (Jvm.Cond.instantiable CL sz).before a0 Z = true) (wz : (Jvm.Cond.initialized CL).before a0 Z = true) (hd : decode bytes pc = .ok (.new i, 3)) (hr : ∀ (h' : Heap) (a : Addr), a = h.size → n0 ≤ a → Ext h h' → Exa Z h' a CL → (∀ {O f d : String} {ty : FieldType}, Laid Z a0 CL O f d → parseFieldDescriptor d = some ty → Fld Z h' a O f d (defaultValue ty)) → Run p l e R s m args below meth c Z own nm bytes maxL ret n0 EE h' (k + 1) (n + sz) (mkF m q ls (.ref a :: st))) (hc : k + 1 ≤ R.cells := by decide) (hl : n + sz ≤ R.slots := by decide) (hq : q = pc + 3 := by rfl) : Run p l e R s m args below meth c Z own nm bytes maxL ret n0 EE h k n (mkF m pc ls st) := by
  subst hq; refine Run.sz fun hs => ?_; intro C T locs X Fr0 E
  obtain ⟨T', h', X', e', EX, A, D, -, st'⟩ := newO X C.1 C.2.2.2.2.2.1 C.2.2.2.1 w wi wz E (g := mkF m pc ls st) rfl (C.2.1 ▸ hd) hc hl
  obtain ⟨s₂, o, q1, q2⟩ := hr h' h.size rfl hs EX A (fun L t => D L t) C T' locs X' Fr0 e'
  exact ⟨s₂, o, st' _ q1, q2⟩
theorem Run.callS {y : MethodName} {bytes' : ByteArray} {maxL' : Nat} {ret' : Option FieldType} {rm : Room} {Q' : Option Value → Heap → Prop} {i : Nat} {argsL : List Value} (q W : Nat) (P : Pays l Z y bytes' maxL' ret' rm argsL.toArray h n0 Q') (w1 : (Jvm.Cond.methodLink own i y).before a0 Z = true) (w2 : (Jvm.Cond.static y).before a0 Z = true) (w3 : (Jvm.Cond.initialized y.cls).before a0 Z = true) (w4 : (Jvm.Cond.code y bytes' maxL' ret').before a0 Z = true) {sig : MethodDescriptor} (hsig : parseMethodDescriptor y.desc = some sig) (hd : decode bytes pc = .ok (.invokestatic i, 3)) {stk : List Value} (hr : ∀ (v : Option Value) (h' : Heap), Q' v h' → Run p l e R s m args below meth c Z own nm bytes maxL ret n0 EE h' (k + rm.cells) (n + rm.slots) (mkF m q ls (v.toList ++ st))) (hlen : argsL.length = sig.parameters.length := by rfl) (hstk : stk = argsL.reverse ++ st := by rfl) (hsz : ls.size = maxL := by rfl) (hf : rm.frames + 1 ≤ R.frames := by decide) (hW : (st.map fun v => v.category).sum ≤ W := by first | exact Nat.le_of_eq rfl | decide) (hl : W + (maxL' + 11) + rm.locals ≤ R.locals := by decide) (hc : k + rm.cells ≤ R.cells := by decide) (hs : n + rm.slots ≤ R.slots := by decide) (hy : y.cls ≠ "java/lang/invoke/MethodHandle" ∧ y.cls ≠ "java/lang/invoke/VarHandle" := by decide) (hq : q = pc + 3 := by rfl) : Run p l e R s m args below meth c Z own nm bytes maxL ret n0 EE h k n (mkF m pc ls stk) := by
  subst hq; intro C T locs X Fr0 E
  have hZ := C.2.2.2.2.2.1
  obtain ⟨v', _, ⟨T', L', k', n'⟩, -, X', ⟨Lc', hQ', l', y', z'⟩, st'⟩ := Jvm.LawKit.callS X C.1 (y := y) C.2.2.2.1 (mvT hZ w1) (mvT hZ w2) (mvT hZ w3) (mvT hZ w4) hy (backOf (W := W) (Q := fun v h L => Q' v h ∧ Fr n0 L) (P []) hZ w4 w3 hf hl) (g := mkF m pc ls stk) rfl (by rw [C.2.2.1]; exact hsz) (argsL := argsL) (rest := st) (lenOf hsig hlen) hstk (by show 2 * 0 + _ ≤ _; omega) (C.2.1 ▸ hd) (fun _ _ => ⟨rfl, E, hc, hs⟩)
  dsimp only [Pt.U, Pt.locs, Pt.cells, Pt.slots] at X' l' y' z' st' hQ'
  subst l' y' z'
  obtain ⟨hQ1, N'⟩ := hQ'
  obtain ⟨s₂, o, q1, q2⟩ := hr v' _ hQ1 C T' _ X' (Fr.app Fr0 N') rfl
  exact ⟨s₂, o, st' _ q1, q2⟩
theorem Run.callC {y : MethodName} {bytes' : ByteArray} {maxL' : Nat} {rm : Room} {Q' : Option Value → Heap → Prop} {i : Nat} {a : Addr} {argsL : List Value} (q W : Nat) (P : Pays l Z y bytes' maxL' none rm (.ref a :: argsL).toArray h n0 Q') (w1 : (Jvm.Cond.methodLink own i y).before a0 Z = true) (w2 : (Jvm.Cond.instanceMethod y).before a0 Z = true) (w3 : (Jvm.Cond.initialized y.cls).before a0 Z = true) (w4 : (Jvm.Cond.code y bytes' maxL' none).before a0 Z = true) {sig : MethodDescriptor} (hsig : parseMethodDescriptor y.desc = some sig) (hd : decode bytes pc = .ok (.invokespecial i, 3)) {stk : List Value} (hr : ∀ (v : Option Value) (h' : Heap), Q' v h' → Run p l e R s m args below meth c Z own nm bytes maxL ret n0 EE h' (k + rm.cells) (n + rm.slots) (mkF m q ls (v.toList ++ st))) (hy1 : y.name = "<init>" := by rfl) (hlen : argsL.length = sig.parameters.length := by rfl) (hstk : stk = argsL.reverse ++ .ref a :: st := by rfl) (hsz : ls.size = maxL := by rfl) (hf : rm.frames + 1 ≤ R.frames := by decide) (hW : (st.map fun v => v.category).sum ≤ W := by first | exact Nat.le_of_eq rfl | decide) (hl : W + (maxL' + 11) + rm.locals ≤ R.locals := by decide) (hc : k + rm.cells ≤ R.cells := by decide) (hs : n + rm.slots ≤ R.slots := by decide) (hy : y.cls ≠ "java/lang/invoke/MethodHandle" ∧ y.cls ≠ "java/lang/invoke/VarHandle" := by decide) (hq : q = pc + 3 := by rfl) : Run p l e R s m args below meth c Z own nm bytes maxL ret n0 EE h k n (mkF m pc ls stk) := by
  subst hq; intro C T locs X Fr0 E
  have hZ := C.2.2.2.2.2.1
  obtain ⟨v', _, ⟨T', L', k', n'⟩, -, X', ⟨Lc', hQ', l', y', z'⟩, st'⟩ := X.specialBack C.1 (y := y) hy1 C.2.2.2.1 (mvT hZ w1) (mvT hZ w2) (mvT hZ w4) hy (backOf (W := W) (Q := fun v h L => Q' v h ∧ Fr n0 L) (P []) hZ w4 w3 hf hl) (g := mkF m pc ls stk) rfl (by rw [C.2.2.1]; exact hsz) (Steps.refl _) (a := a) (argsL := argsL) (rest := st) (lenOf hsig hlen) hstk (by show 2 * 0 + _ ≤ _; omega) (C.2.1 ▸ hd) (fun _ _ => ⟨rfl, E, hc, hs⟩)
  dsimp only [Pt.U, Pt.locs, Pt.cells, Pt.slots] at X' l' y' z' st' hQ'
  subst l' y' z'
  obtain ⟨hQ1, N'⟩ := hQ'
  obtain ⟨s₂, o, q1, q2⟩ := hr v' _ hQ1 C T' _ X' (Fr.app Fr0 N') rfl
  exact ⟨s₂, o, st'.trans q1, q2⟩
theorem Run.callV {y : MethodName} {bytes' : ByteArray} {maxL' : Nat} {ret' : Option FieldType} {rm : Room} {Q' : Option Value → Heap → Prop} {i : Nat} {CL : String} {a : Addr} {argsL : List Value} (q W : Nat) (P : Pays l Z y bytes' maxL' ret' rm (.ref a :: argsL).toArray h n0 Q') (EX : Exa Z h a CL) (w1 : (Jvm.Cond.methodLink own i y).before a0 Z = true) (w2 : (Jvm.Cond.declares y).before a0 Z = true) (w5 : (Jvm.Cond.selects CL y y).before a0 Z = true) (w6 : (Jvm.Cond.instanceMethod y).before a0 Z = true) (w3 : (Jvm.Cond.initialized y.cls).before a0 Z = true) (w4 : (Jvm.Cond.code y bytes' maxL' ret').before a0 Z = true) {sig : MethodDescriptor} (hsig : parseMethodDescriptor y.desc = some sig) (hd : decode bytes pc = .ok (.invokevirtual i, 3)) {stk : List Value} (hr : ∀ (v : Option Value) (h' : Heap), Q' v h' → Run p l e R s m args below meth c Z own nm bytes maxL ret n0 EE h' (k + rm.cells) (n + rm.slots) (mkF m q ls (v.toList ++ st))) (hcl : CL = y.cls := by rfl) (hlen : argsL.length = sig.parameters.length := by rfl) (hstk : stk = argsL.reverse ++ .ref a :: st := by rfl) (hsz : ls.size = maxL := by rfl) (hf : rm.frames + 1 ≤ R.frames := by decide) (hW : (st.map fun v => v.category).sum ≤ W := by first | exact Nat.le_of_eq rfl | decide) (hl : W + (maxL' + 11) + rm.locals ≤ R.locals := by decide) (hc : k + rm.cells ≤ R.cells := by decide) (hs : n + rm.slots ≤ R.slots := by decide) (hy : y.cls ≠ "java/lang/invoke/MethodHandle" ∧ y.cls ≠ "java/lang/invoke/VarHandle" := by decide) (hq : q = pc + 3 := by rfl) : Run p l e R s m args below meth c Z own nm bytes maxL ret n0 EE h k n (mkF m pc ls stk) := by
  subst hq; subst hcl; intro C T locs X Fr0 E
  have hZ := C.2.2.2.2.2.1
  obtain ⟨cq, kq, qa, qb, qc⟩ := isOf hZ E EX
  obtain ⟨v', _, ⟨T', L', k', n'⟩, -, X', ⟨Lc', hQ', l', y', z'⟩, st'⟩ := X.virtualBack C.1 (y := y) (z := y) C.2.2.2.1 (mvT hZ w1) (mvT hZ w2) (notFace_of_selects (args := #[]) (mvT hZ w5)) (mvT hZ w5) (mvT hZ w6) hy (backOf (W := W) (Q := fun v h L => Q' v h ∧ Fr n0 L) (P []) hZ w4 w3 hf hl) qa qc (g := mkF m pc ls stk) rfl (by rw [C.2.2.1]; exact hsz) (Steps.refl _) (argsL := argsL) (rest := st) (lenOf hsig hlen) hstk (by show 2 * 0 + _ ≤ _; omega) (C.2.1 ▸ hd) (fun _ _ => ⟨rfl, E, hc, hs⟩)
  dsimp only [Pt.U, Pt.locs, Pt.cells, Pt.slots] at X' l' y' z' st' hQ'
  subst l' y' z'
  obtain ⟨hQ1, N'⟩ := hQ'
  obtain ⟨s₂, o, q1, q2⟩ := hr v' _ hQ1 C T' _ X' (Fr.app Fr0 N') rfl
  exact ⟨s₂, o, st'.trans q1, q2⟩
/-- an array of int-like values: n places, place i holds f i -/
def AI (Z : State) (h : Heap) (a : Addr) (ty : FieldType) (n : Nat) (f : Nat → Int32) : Prop := n < 2 ^ 31 ∧ ∃ cl : Cell, Arr Z h a cl ty ∧ cl.slots.size = n ∧ ∀ i, i < n → cl.slots[i]? = some (.int (f i))
def AJ (Z : State) (h : Heap) (a : Addr) (n : Nat) (f : Nat → Int64) : Prop := n < 2 ^ 31 ∧ ∃ cl : Cell, Arr Z h a cl .long ∧ cl.slots.size = n ∧ ∀ i, i < n → cl.slots[i]? = some (.long (f i))
def oupd {α : Type} (f : Nat → α) (i : Nat) (v : α) : Nat → α := fun j => if j = i then v else f j
theorem oupd_same {α : Type} (f : Nat → α) (i : Nat) (v : α) : oupd f i v i = v := if_pos rfl
theorem oupd_other {α : Type} (f : Nat → α) {i j : Nat} (v : α) (h : j ≠ i) : oupd f i v j = f j := if_neg h

theorem AI.lt {a : Addr} {ty : FieldType} {nn : Nat} {f : Nat → Int32} (F : AI Z h a ty nn f) : a < h.size := by obtain ⟨_, c, A, -⟩ := F; exact A.lt
theorem AI.ext {a : Addr} {h' : Heap} {ty : FieldType} {nn : Nat} {f : Nat → Int32} (F : AI Z h a ty nn f) (E : Ext h h') : AI Z h' a ty nn f := by obtain ⟨z, c, A, r⟩ := F; exact ⟨z, c, A.ext E, r⟩
theorem AI.other {a b : Addr} {h' : Heap} {sl : Nat} {v : Value} {ty : FieldType} {nn : Nat} {f : Nat → Int32} (F : AI Z h a ty nn f) (W : Wr h h' b sl v) (q : a ≠ b) : AI Z h' a ty nn f := by obtain ⟨z, c, A, r⟩ := F; exact ⟨z, c, A.other W q, r⟩
theorem AI.keep {a : Addr} {h' : Heap} {ws : List Addr} {ty : FieldType} {nn : Nat} {f : Nat → Int32} (F : AI Z h a ty nn f) (KP : Keep h h' ws) (q : a ∉ ws) : AI Z h' a ty nn f := by obtain ⟨z, c, A, r⟩ := F; exact ⟨z, c, ⟨KP.2.1 a c A.1 q, A.2⟩, r⟩
theorem AI.set {a : Addr} {h' : Heap} {ty : FieldType} {nn : Nat} {f : Nat → Int32} {i : Nat} {v : Int32} (F : AI Z h a ty nn f) (hi : i < nn) (W : Wr h h' a i (.int v)) : AI Z h' a ty nn (oupd f i v) := by
  obtain ⟨z, c, A, r1, r2⟩ := F
  refine ⟨z, c.setSlot i (.int v), A.same W, by rw [sz_set, r1], fun j hj => ?_⟩
  by_cases q : j = i
  · subst q; rw [oupd_same]; simp [Cell.setSlot, Array.getElem?_setIfInBounds, r1, hi]
  · rw [oupd_other _ _ q, ← r2 j hj]; simp [Cell.setSlot, Array.getElem?_setIfInBounds, Ne.symm q]
theorem AI.cong {a : Addr} {ty : FieldType} {nn : Nat} {f : Nat → Int32} {f' : Nat → Int32} (F : AI Z h a ty nn f) (q : ∀ i, i < nn → f i = f' i) : AI Z h a ty nn f' := by
  obtain ⟨z, c, A, r1, r2⟩ := F; exact ⟨z, c, A, r1, fun i hi => by rw [← q i hi]; exact r2 i hi⟩
theorem AJ.lt {a : Addr} {nn : Nat} {f : Nat → Int64} (F : AJ Z h a nn f) : a < h.size := by obtain ⟨_, c, A, -⟩ := F; exact A.lt
theorem AJ.ext {a : Addr} {h' : Heap} {nn : Nat} {f : Nat → Int64} (F : AJ Z h a nn f) (E : Ext h h') : AJ Z h' a nn f := by obtain ⟨z, c, A, r⟩ := F; exact ⟨z, c, A.ext E, r⟩
theorem AJ.other {a b : Addr} {h' : Heap} {sl : Nat} {v : Value} {nn : Nat} {f : Nat → Int64} (F : AJ Z h a nn f) (W : Wr h h' b sl v) (q : a ≠ b) : AJ Z h' a nn f := by obtain ⟨z, c, A, r⟩ := F; exact ⟨z, c, A.other W q, r⟩
theorem AJ.keep {a : Addr} {h' : Heap} {ws : List Addr} {nn : Nat} {f : Nat → Int64} (F : AJ Z h a nn f) (KP : Keep h h' ws) (q : a ∉ ws) : AJ Z h' a nn f := by obtain ⟨z, c, A, r⟩ := F; exact ⟨z, c, ⟨KP.2.1 a c A.1 q, A.2⟩, r⟩
theorem AJ.set {a : Addr} {h' : Heap} {nn : Nat} {f : Nat → Int64} {i : Nat} {v : Int64} (F : AJ Z h a nn f) (hi : i < nn) (W : Wr h h' a i (.long v)) : AJ Z h' a nn (oupd f i v) := by
  obtain ⟨z, c, A, r1, r2⟩ := F
  refine ⟨z, c.setSlot i (.long v), A.same W, by rw [sz_set, r1], fun j hj => ?_⟩
  by_cases q : j = i
  · subst q; rw [oupd_same]; simp [Cell.setSlot, Array.getElem?_setIfInBounds, r1, hi]
  · rw [oupd_other _ _ q, ← r2 j hj]; simp [Cell.setSlot, Array.getElem?_setIfInBounds, Ne.symm q]
theorem AJ.cong {a : Addr} {nn : Nat} {f : Nat → Int64} {f' : Nat → Int64} (F : AJ Z h a nn f) (q : ∀ i, i < nn → f i = f' i) : AJ Z h a nn f' := by
  obtain ⟨z, c, A, r1, r2⟩ := F; exact ⟨z, c, A, r1, fun i hi => by rw [← q i hi]; exact r2 i hi⟩
theorem inb {cl : Cell} {j : Int32} {nn : Nat} (S : cl.slots.size = nn) (hj : 0 ≤ j.toInt ∧ j.toInt < nn) : ¬ (j < 0 ∨ cl.slots.size ≤ j.toNatClampNeg) := by
  have h1 : (j.toNatClampNeg : Int) = j.toInt := by rw [show j.toNatClampNeg = j.toInt.toNat from rfl]; omega
  rw [Int32.lt_iff_toInt_lt, S]; simp only [show (0 : Int32).toInt = 0 from by decide]; omega
theorem inn {j : Int32} {nn : Nat} (hj : 0 ≤ j.toInt ∧ j.toInt < nn) : j.toNatClampNeg < nn := by
  rw [show j.toNatClampNeg = j.toInt.toNat from rfl]; omega

theorem Run.iaload {a : Addr} {nn : Nat} {f : Nat → Int32} {j : Int32} (w : Int32) (q : Nat) (F : AI Z h a .int nn f) (hj : 0 ≤ j.toInt ∧ j.toInt < nn) (hd : decode bytes pc = .ok (.iaload, 1)) (hr : Run p l e R s m args below meth c Z own nm bytes maxL ret n0 EE h k n (mkF m q ls (.int w :: st))) (hv : f j.toNatClampNeg = w := by rfl) (hq : q = pc + 1 := by rfl) : Run p l e R s m args below meth c Z own nm bytes maxL ret n0 EE h k n (mkF m pc ls (.int j :: .ref a :: st)) := by
  subst hq hv; intro C T locs X Fr0 E
  obtain ⟨-, cl, A, r1, r2⟩ := F
  obtain ⟨s₂, o, q1, q2⟩ := hr C T locs X Fr0 E
  exact ⟨s₂, o, X.iaload C.1 (j := j) (by rw [E]; exact A.1) (State.isArrayOf_alike C.2.2.2.2.2.1.alike A.2.1) A.2.2 (inb r1 hj) (r2 _ (inn hj)) (g := mkF m pc ls (.int j :: .ref a :: st)) rfl rfl (C.2.1 ▸ hd) _ q1, q2⟩
theorem Run.baload {a : Addr} {nn : Nat} {f : Nat → Int32} {j : Int32} (w : Int32) (q : Nat) (F : AI Z h a .byte nn f) (hj : 0 ≤ j.toInt ∧ j.toInt < nn) (hd : decode bytes pc = .ok (.baload, 1)) (hr : Run p l e R s m args below meth c Z own nm bytes maxL ret n0 EE h k n (mkF m q ls (.int w :: st))) (hv : f j.toNatClampNeg = w := by rfl) (hq : q = pc + 1 := by rfl) : Run p l e R s m args below meth c Z own nm bytes maxL ret n0 EE h k n (mkF m pc ls (.int j :: .ref a :: st)) := by
  subst hq hv; intro C T locs X Fr0 E
  obtain ⟨-, cl, A, r1, r2⟩ := F
  obtain ⟨s₂, o, q1, q2⟩ := hr C T locs X Fr0 E
  exact ⟨s₂, o, X.baloadBytes C.1 (j := j) (by rw [E]; exact A.1) (State.isArrayOf_alike C.2.2.2.2.2.1.alike A.2.1) A.2.2 (inb r1 hj) (r2 _ (inn hj)) (g := mkF m pc ls (.int j :: .ref a :: st)) rfl rfl (C.2.1 ▸ hd) _ q1, q2⟩
theorem Run.caload {a : Addr} {nn : Nat} {f : Nat → Int32} {j : Int32} (w : Int32) (q : Nat) (F : AI Z h a .char nn f) (hj : 0 ≤ j.toInt ∧ j.toInt < nn) (hd : decode bytes pc = .ok (.caload, 1)) (hr : Run p l e R s m args below meth c Z own nm bytes maxL ret n0 EE h k n (mkF m q ls (.int w :: st))) (hv : f j.toNatClampNeg = w := by rfl) (hq : q = pc + 1 := by rfl) : Run p l e R s m args below meth c Z own nm bytes maxL ret n0 EE h k n (mkF m pc ls (.int j :: .ref a :: st)) := by
  subst hq hv; intro C T locs X Fr0 E
  obtain ⟨-, cl, A, r1, r2⟩ := F
  obtain ⟨s₂, o, q1, q2⟩ := hr C T locs X Fr0 E
  exact ⟨s₂, o, X.caload C.1 (j := j) (by rw [E]; exact A.1) (State.isArrayOf_alike C.2.2.2.2.2.1.alike A.2.1) A.2.2 (inb r1 hj) (r2 _ (inn hj)) (g := mkF m pc ls (.int j :: .ref a :: st)) rfl rfl (C.2.1 ▸ hd) _ q1, q2⟩
theorem Run.saload {a : Addr} {nn : Nat} {f : Nat → Int32} {j : Int32} (w : Int32) (q : Nat) (F : AI Z h a .short nn f) (hj : 0 ≤ j.toInt ∧ j.toInt < nn) (hd : decode bytes pc = .ok (.saload, 1)) (hr : Run p l e R s m args below meth c Z own nm bytes maxL ret n0 EE h k n (mkF m q ls (.int w :: st))) (hv : f j.toNatClampNeg = w := by rfl) (hq : q = pc + 1 := by rfl) : Run p l e R s m args below meth c Z own nm bytes maxL ret n0 EE h k n (mkF m pc ls (.int j :: .ref a :: st)) := by
  subst hq hv; intro C T locs X Fr0 E
  obtain ⟨-, cl, A, r1, r2⟩ := F
  obtain ⟨s₂, o, q1, q2⟩ := hr C T locs X Fr0 E
  exact ⟨s₂, o, X.saload C.1 (j := j) (by rw [E]; exact A.1) (State.isArrayOf_alike C.2.2.2.2.2.1.alike A.2.1) A.2.2 (inb r1 hj) (r2 _ (inn hj)) (g := mkF m pc ls (.int j :: .ref a :: st)) rfl rfl (C.2.1 ▸ hd) _ q1, q2⟩
theorem Run.laload {a : Addr} {nn : Nat} {f : Nat → Int64} {j : Int32} (w : Int64) (q : Nat) (F : AJ Z h a nn f) (hj : 0 ≤ j.toInt ∧ j.toInt < nn) (hd : decode bytes pc = .ok (.laload, 1)) (hr : Run p l e R s m args below meth c Z own nm bytes maxL ret n0 EE h k n (mkF m q ls (.long w :: st))) (hv : f j.toNatClampNeg = w := by rfl) (hq : q = pc + 1 := by rfl) : Run p l e R s m args below meth c Z own nm bytes maxL ret n0 EE h k n (mkF m pc ls (.int j :: .ref a :: st)) := by
  subst hq hv; intro C T locs X Fr0 E
  obtain ⟨-, cl, A, r1, r2⟩ := F
  obtain ⟨s₂, o, q1, q2⟩ := hr C T locs X Fr0 E
  exact ⟨s₂, o, X.laload C.1 (j := j) (by rw [E]; exact A.1) (State.isArrayOf_alike C.2.2.2.2.2.1.alike A.2.1) A.2.2 (inb r1 hj) (r2 _ (inn hj)) (g := mkF m pc ls (.int j :: .ref a :: st)) rfl rfl (C.2.1 ▸ hd) _ q1, q2⟩
theorem Run.iastore {a : Addr} {nn : Nat} {f : Nat → Int32} {j v : Int32} (w : Int32) (q : Nat) (F : AI Z h a .int nn f) (hj : 0 ≤ j.toInt ∧ j.toInt < nn) (ga : n0 ≤ a) (hd : decode bytes pc = .ok (.iastore, 1)) (hr : ∀ h' : Heap, Wr h h' a j.toNatClampNeg (.int w) → AI Z h' a .int nn (oupd f j.toNatClampNeg w) → Run p l e R s m args below meth c Z own nm bytes maxL ret n0 EE h' k n (mkF m q ls st)) (hv : v = w := by rfl) (hq : q = pc + 1 := by rfl) : Run p l e R s m args below meth c Z own nm bytes maxL ret n0 EE h k n (mkF m pc ls (.int v :: .int j :: .ref a :: st)) := by
  subst hq hv; intro C T locs X Fr0 E
  have F0 := F
  obtain ⟨-, cl, A, r1, r2⟩ := F
  obtain ⟨T', h', X', e', W, st'⟩ := stI X C.1 C.2.2.2.2.2.1 E A (j := j) (x := v) (inb r1 hj) (g := mkF m pc ls (.int v :: .int j :: .ref a :: st)) rfl rfl (C.2.1 ▸ hd)
  obtain ⟨s₂, o, q1, q2⟩ := hr h' W (F0.set (inn hj) W) C T' _ X' (Fr.snoc X' Fr0 ga) e'
  exact ⟨s₂, o, st' _ q1, q2⟩
theorem Run.bastore {a : Addr} {nn : Nat} {f : Nat → Int32} {j v : Int32} (w : Int32) (q : Nat) (F : AI Z h a .byte nn f) (hj : 0 ≤ j.toInt ∧ j.toInt < nn) (ga : n0 ≤ a) (hd : decode bytes pc = .ok (.bastore, 1)) (hr : ∀ h' : Heap, Wr h h' a j.toNatClampNeg (.int w) → AI Z h' a .byte nn (oupd f j.toNatClampNeg w) → Run p l e R s m args below meth c Z own nm bytes maxL ret n0 EE h' k n (mkF m q ls st)) (hv : (nar .byte v) = w := by rfl) (hq : q = pc + 1 := by rfl) : Run p l e R s m args below meth c Z own nm bytes maxL ret n0 EE h k n (mkF m pc ls (.int v :: .int j :: .ref a :: st)) := by
  subst hq hv; intro C T locs X Fr0 E
  have F0 := F
  obtain ⟨-, cl, A, r1, r2⟩ := F
  obtain ⟨T', h', X', e', W, st'⟩ := stB X C.1 C.2.2.2.2.2.1 E A (j := j) (x := v) (inb r1 hj) (g := mkF m pc ls (.int v :: .int j :: .ref a :: st)) rfl rfl (C.2.1 ▸ hd)
  obtain ⟨s₂, o, q1, q2⟩ := hr h' W (F0.set (inn hj) W) C T' _ X' (Fr.snoc X' Fr0 ga) e'
  exact ⟨s₂, o, st' _ q1, q2⟩
theorem Run.castore {a : Addr} {nn : Nat} {f : Nat → Int32} {j v : Int32} (w : Int32) (q : Nat) (F : AI Z h a .char nn f) (hj : 0 ≤ j.toInt ∧ j.toInt < nn) (ga : n0 ≤ a) (hd : decode bytes pc = .ok (.castore, 1)) (hr : ∀ h' : Heap, Wr h h' a j.toNatClampNeg (.int w) → AI Z h' a .char nn (oupd f j.toNatClampNeg w) → Run p l e R s m args below meth c Z own nm bytes maxL ret n0 EE h' k n (mkF m q ls st)) (hv : (nar .char v) = w := by rfl) (hq : q = pc + 1 := by rfl) : Run p l e R s m args below meth c Z own nm bytes maxL ret n0 EE h k n (mkF m pc ls (.int v :: .int j :: .ref a :: st)) := by
  subst hq hv; intro C T locs X Fr0 E
  have F0 := F
  obtain ⟨-, cl, A, r1, r2⟩ := F
  obtain ⟨T', h', X', e', W, st'⟩ := stC X C.1 C.2.2.2.2.2.1 E A (j := j) (x := v) (inb r1 hj) (g := mkF m pc ls (.int v :: .int j :: .ref a :: st)) rfl rfl (C.2.1 ▸ hd)
  obtain ⟨s₂, o, q1, q2⟩ := hr h' W (F0.set (inn hj) W) C T' _ X' (Fr.snoc X' Fr0 ga) e'
  exact ⟨s₂, o, st' _ q1, q2⟩
theorem Run.lastore {a : Addr} {nn : Nat} {f : Nat → Int64} {j : Int32} {v : Int64} (q : Nat) (F : AJ Z h a nn f) (hj : 0 ≤ j.toInt ∧ j.toInt < nn) (ga : n0 ≤ a) (hd : decode bytes pc = .ok (.lastore, 1)) (hr : ∀ h' : Heap, Wr h h' a j.toNatClampNeg (.long v) → AJ Z h' a nn (oupd f j.toNatClampNeg v) → Run p l e R s m args below meth c Z own nm bytes maxL ret n0 EE h' k n (mkF m q ls st)) (hq : q = pc + 1 := by rfl) : Run p l e R s m args below meth c Z own nm bytes maxL ret n0 EE h k n (mkF m pc ls (.long v :: .int j :: .ref a :: st)) := by
  subst hq; intro C T locs X Fr0 E
  have F0 := F
  obtain ⟨-, cl, A, r1, r2⟩ := F
  obtain ⟨T', h', X', e', W, st'⟩ := stJ X C.1 C.2.2.2.2.2.1 E A (j := j) (x := v) (inb r1 hj) (g := mkF m pc ls (.long v :: .int j :: .ref a :: st)) rfl rfl (C.2.1 ▸ hd)
  obtain ⟨s₂, o, q1, q2⟩ := hr h' W (F0.set (inn hj) W) C T' _ X' (Fr.snoc X' Fr0 ga) e'
  exact ⟨s₂, o, st' _ q1, q2⟩
theorem Run.lenI {a : Addr} {nn : Nat} {ty : FieldType} {f : Nat → Int32} (w : Int32) (q : Nat) (F : AI Z h a ty nn f) (hd : decode bytes pc = .ok (.arraylength, 1)) (hr : Run p l e R s m args below meth c Z own nm bytes maxL ret n0 EE h k n (mkF m q ls (.int w :: st))) (hv : Int32.ofNat nn = w := by first | rfl | decide) (hq : q = pc + 1 := by rfl) : Run p l e R s m args below meth c Z own nm bytes maxL ret n0 EE h k n (mkF m pc ls (.ref a :: st)) := by
  subst hq; intro C T locs X Fr0 E
  obtain ⟨-, cl, A, r1, r2⟩ := F
  obtain ⟨s₂, o, q1, q2⟩ := hr C T locs X Fr0 E
  have hz : cl.slots.size.toInt32 = w := by rw [r1]; exact hv
  exact ⟨s₂, o, X.arraylength C.1 (by rw [E]; exact A.1) (State.isArrayOf_alike C.2.2.2.2.2.1.alike A.2.1) (g := mkF m pc ls (.ref a :: st)) rfl rfl (C.2.1 ▸ hd) _ (by rw [hz]; exact q1), q2⟩
theorem Run.lenJ {a : Addr} {nn : Nat} {f : Nat → Int64} (w : Int32) (q : Nat) (F : AJ Z h a nn f) (hd : decode bytes pc = .ok (.arraylength, 1)) (hr : Run p l e R s m args below meth c Z own nm bytes maxL ret n0 EE h k n (mkF m q ls (.int w :: st))) (hv : Int32.ofNat nn = w := by first | rfl | decide) (hq : q = pc + 1 := by rfl) : Run p l e R s m args below meth c Z own nm bytes maxL ret n0 EE h k n (mkF m pc ls (.ref a :: st)) := by
  subst hq; intro C T locs X Fr0 E
  obtain ⟨-, cl, A, r1, r2⟩ := F
  obtain ⟨s₂, o, q1, q2⟩ := hr C T locs X Fr0 E
  have hz : cl.slots.size.toInt32 = w := by rw [r1]; exact hv
  exact ⟨s₂, o, X.arraylength C.1 (by rw [E]; exact A.1) (State.isArrayOf_alike C.2.2.2.2.2.1.alike A.2.1) (g := mkF m pc ls (.ref a :: st)) rfl rfl (C.2.1 ▸ hd) _ (by rw [hz]; exact q1), q2⟩
theorem Run.new_int {z : Int32} (q nn cap : Nat) (w : (Jvm.Cond.arrayClass .int).before a0 Z = true) (hz : z.toInt = nn) (hd : decode bytes pc = .ok (.newarray .int, 2)) (hr : ∀ (h' : Heap) (a : Addr), a = h.size → n0 ≤ a → Ext h h' → AI Z h' a .int nn (fun _ => 0) → Run p l e R s m args below meth c Z own nm bytes maxL ret n0 EE h' (k + 1) (n + cap) (mkF m q ls (.ref a :: st))) (hcap : nn ≤ cap := by decide) (hb : cap * 8 ≤ 536870912 := by decide) (hc : k + 1 ≤ R.cells := by decide) (hl : n + cap ≤ R.slots := by decide) (hq : q = pc + 2 := by rfl) : Run p l e R s m args below meth c Z own nm bytes maxL ret n0 EE h k n (mkF m pc ls (.int z :: st)) := by
  subst hq; refine Run.sz fun hs => ?_; intro C T locs X Fr0 E
  have hz2 : z.toNatClampNeg = nn := by rw [show z.toNatClampNeg = z.toInt.toNat from rfl, hz]; rfl
  have hneg : ¬ z < 0 := by rw [Int32.lt_iff_toInt_lt, show (0 : Int32).toInt = 0 from by decide]; omega
  have hd' : decode c.code pc = .ok (.newarray .int, 2) := C.2.1 ▸ hd
  have hcap' : z.toNatClampNeg ≤ cap := by omega
  obtain ⟨T', h', cA, X', e', EX, A, st'⟩ := newP (aty := .int) (h := h) (n := z) (rest := st) X C.1 C.2.2.2.2.2.1 w E (g := mkF m pc ls (.int z :: st)) rfl hd' rfl hneg (cap := cap) hcap' hb hc hl
  have hlt : nn < 2 ^ 31 := by have := z.toInt_lt; omega
  obtain ⟨s₂, o, q1, q2⟩ := hr h' h.size rfl hs EX ⟨hlt, _, A, by rw [sz_new]; exact hz2, fun i hi => by simp [newA, newarray.typeOf, defaultValue, hz2, hi]⟩ C T' locs X' Fr0 e'
  exact ⟨s₂, o, st' _ q1, q2⟩
theorem Run.new_byte {z : Int32} (q nn cap : Nat) (w : (Jvm.Cond.arrayClass .byte).before a0 Z = true) (hz : z.toInt = nn) (hd : decode bytes pc = .ok (.newarray .byte, 2)) (hr : ∀ (h' : Heap) (a : Addr), a = h.size → n0 ≤ a → Ext h h' → AI Z h' a .byte nn (fun _ => 0) → Run p l e R s m args below meth c Z own nm bytes maxL ret n0 EE h' (k + 1) (n + cap) (mkF m q ls (.ref a :: st))) (hcap : nn ≤ cap := by decide) (hb : cap * 8 ≤ 536870912 := by decide) (hc : k + 1 ≤ R.cells := by decide) (hl : n + cap ≤ R.slots := by decide) (hq : q = pc + 2 := by rfl) : Run p l e R s m args below meth c Z own nm bytes maxL ret n0 EE h k n (mkF m pc ls (.int z :: st)) := by
  subst hq; refine Run.sz fun hs => ?_; intro C T locs X Fr0 E
  have hz2 : z.toNatClampNeg = nn := by rw [show z.toNatClampNeg = z.toInt.toNat from rfl, hz]; rfl
  have hneg : ¬ z < 0 := by rw [Int32.lt_iff_toInt_lt, show (0 : Int32).toInt = 0 from by decide]; omega
  have hd' : decode c.code pc = .ok (.newarray .byte, 2) := C.2.1 ▸ hd
  have hcap' : z.toNatClampNeg ≤ cap := by omega
  obtain ⟨T', h', cA, X', e', EX, A, st'⟩ := newP (aty := .byte) (h := h) (n := z) (rest := st) X C.1 C.2.2.2.2.2.1 w E (g := mkF m pc ls (.int z :: st)) rfl hd' rfl hneg (cap := cap) hcap' hb hc hl
  have hlt : nn < 2 ^ 31 := by have := z.toInt_lt; omega
  obtain ⟨s₂, o, q1, q2⟩ := hr h' h.size rfl hs EX ⟨hlt, _, A, by rw [sz_new]; exact hz2, fun i hi => by simp [newA, newarray.typeOf, defaultValue, hz2, hi]⟩ C T' locs X' Fr0 e'
  exact ⟨s₂, o, st' _ q1, q2⟩
theorem Run.new_char {z : Int32} (q nn cap : Nat) (w : (Jvm.Cond.arrayClass .char).before a0 Z = true) (hz : z.toInt = nn) (hd : decode bytes pc = .ok (.newarray .char, 2)) (hr : ∀ (h' : Heap) (a : Addr), a = h.size → n0 ≤ a → Ext h h' → AI Z h' a .char nn (fun _ => 0) → Run p l e R s m args below meth c Z own nm bytes maxL ret n0 EE h' (k + 1) (n + cap) (mkF m q ls (.ref a :: st))) (hcap : nn ≤ cap := by decide) (hb : cap * 8 ≤ 536870912 := by decide) (hc : k + 1 ≤ R.cells := by decide) (hl : n + cap ≤ R.slots := by decide) (hq : q = pc + 2 := by rfl) : Run p l e R s m args below meth c Z own nm bytes maxL ret n0 EE h k n (mkF m pc ls (.int z :: st)) := by
  subst hq; refine Run.sz fun hs => ?_; intro C T locs X Fr0 E
  have hz2 : z.toNatClampNeg = nn := by rw [show z.toNatClampNeg = z.toInt.toNat from rfl, hz]; rfl
  have hneg : ¬ z < 0 := by rw [Int32.lt_iff_toInt_lt, show (0 : Int32).toInt = 0 from by decide]; omega
  have hd' : decode c.code pc = .ok (.newarray .char, 2) := C.2.1 ▸ hd
  have hcap' : z.toNatClampNeg ≤ cap := by omega
  obtain ⟨T', h', cA, X', e', EX, A, st'⟩ := newP (aty := .char) (h := h) (n := z) (rest := st) X C.1 C.2.2.2.2.2.1 w E (g := mkF m pc ls (.int z :: st)) rfl hd' rfl hneg (cap := cap) hcap' hb hc hl
  have hlt : nn < 2 ^ 31 := by have := z.toInt_lt; omega
  obtain ⟨s₂, o, q1, q2⟩ := hr h' h.size rfl hs EX ⟨hlt, _, A, by rw [sz_new]; exact hz2, fun i hi => by simp [newA, newarray.typeOf, defaultValue, hz2, hi]⟩ C T' locs X' Fr0 e'
  exact ⟨s₂, o, st' _ q1, q2⟩
theorem Run.new_long {z : Int32} (q nn cap : Nat) (w : (Jvm.Cond.arrayClass .long).before a0 Z = true) (hz : z.toInt = nn) (hd : decode bytes pc = .ok (.newarray .long, 2)) (hr : ∀ (h' : Heap) (a : Addr), a = h.size → n0 ≤ a → Ext h h' → AJ Z h' a nn (fun _ => 0) → Run p l e R s m args below meth c Z own nm bytes maxL ret n0 EE h' (k + 1) (n + cap) (mkF m q ls (.ref a :: st))) (hcap : nn ≤ cap := by decide) (hb : cap * 8 ≤ 536870912 := by decide) (hc : k + 1 ≤ R.cells := by decide) (hl : n + cap ≤ R.slots := by decide) (hq : q = pc + 2 := by rfl) : Run p l e R s m args below meth c Z own nm bytes maxL ret n0 EE h k n (mkF m pc ls (.int z :: st)) := by
  subst hq; refine Run.sz fun hs => ?_; intro C T locs X Fr0 E
  have hz2 : z.toNatClampNeg = nn := by rw [show z.toNatClampNeg = z.toInt.toNat from rfl, hz]; rfl
  have hneg : ¬ z < 0 := by rw [Int32.lt_iff_toInt_lt, show (0 : Int32).toInt = 0 from by decide]; omega
  have hd' : decode c.code pc = .ok (.newarray .long, 2) := C.2.1 ▸ hd
  have hcap' : z.toNatClampNeg ≤ cap := by omega
  obtain ⟨T', h', cA, X', e', EX, A, st'⟩ := newP (aty := .long) (h := h) (n := z) (rest := st) X C.1 C.2.2.2.2.2.1 w E (g := mkF m pc ls (.int z :: st)) rfl hd' rfl hneg (cap := cap) hcap' hb hc hl
  have hlt : nn < 2 ^ 31 := by have := z.toInt_lt; omega
  obtain ⟨s₂, o, q1, q2⟩ := hr h' h.size rfl hs EX ⟨hlt, _, A, by rw [sz_new]; exact hz2, fun i hi => by simp [newA, newarray.typeOf, defaultValue, hz2, hi]⟩ C T' locs X' Fr0 e'
  exact ⟨s₂, o, st' _ q1, q2⟩
theorem getD_all {L : List Value} {d : Value} (h : ∀ x ∈ L, x = d) (i : Nat) : L.getD i d = d := by
  rw [List.getD_eq_getElem?_getD]
  cases q : L[i]? with
  | none => rfl
  | some x => exact h x (List.mem_of_getElem? q)
theorem AI.arv0 {a : Addr} {nn : Nat} (A : AI Z h a .byte nn (fun _ => 0)) {z : Int32} (hz : z.toInt = nn) : ∃ kc, Arv Z h a kc .byte z (List.replicate nn (.int 0)) (.int 0) := by
  obtain ⟨hlt, cl, Ar, S, H⟩ := A
  have g : ∀ i, (List.replicate nn (Value.int 0)).getD i (.int 0) = .int 0 := fun i => getD_all (fun x hx => List.eq_of_mem_replicate hx) i
  refine ⟨cl.cls, cl, Ar, rfl, ?_, ?_, fun i hi => ?_, fun i hi => ?_⟩
  · rw [S, show z.toNatClampNeg = z.toInt.toNat from rfl, hz]; rfl
  · rw [Int32.lt_iff_toInt_lt, show (0 : Int32).toInt = 0 from by decide]; omega
  · rw [g i]; exact H i (by rw [← S]; exact hi)
  · rw [g i]; decide
theorem AI.of_arv0 {a : Addr} {nn : Nat} {kc : ClassId} {z : Int32} {L : List Value} (A : Arv Z h a kc .byte z L (.int 0)) (hz : z.toInt = nn) (hL : ∀ x ∈ L, x = .int 0) : AI Z h a .byte nn (fun _ => 0) := by
  obtain ⟨cl, Ar, -, S, -, H, -⟩ := A
  have S' : cl.slots.size = nn := by rw [S, show z.toNatClampNeg = z.toInt.toNat from rfl, hz]; rfl
  exact ⟨by have := z.toInt_lt; omega, cl, Ar, S', fun i hi => by rw [H i (by rw [S']; exact hi), getD_all hL]⟩
theorem Run.copy0 {a b : Addr} {na nb : Nat} {i : Nat} {nn za zb : Int32} (q W : Nat) (w1 : (Jvm.Cond.methodLink own i Jvm.Stand.acN).before a0 Z = true) (w2 : (Jvm.Cond.native Jvm.Stand.acN).before a0 Z = true) (w3 : (Jvm.Cond.static Jvm.Stand.acN).before a0 Z = true) (w4 : (Jvm.Cond.initialized "java/lang/System").before a0 Z = true)
    (A : AI Z h a .byte na (fun _ => 0)) (B : AI Z h b .byte nb (fun _ => 0)) (hza : za.toInt = na) (hzb : zb.toInt = nb) (hn : 0 ≤ nn.toInt ∧ nn.toInt ≤ na ∧ nn.toInt ≤ nb) (gb : n0 ≤ b) (hd : decode bytes pc = .ok (.invokestatic i, 3))
    (hr : ∀ h' : Heap, Keep h h' [b] → AI Z h' b .byte nb (fun _ => 0) → Run p l e R s m args below meth c Z own nm bytes maxL ret n0 EE h' k n (mkF m q ls st)) (hsz : ls.size = maxL := by rfl) (hf : 1 ≤ R.frames := by decide) (hW : (st.map fun v => v.category).sum ≤ W := by first | exact Nat.le_of_eq rfl | decide) (hl : W + 18 ≤ R.locals := by decide) (hq : q = pc + 3 := by rfl) : Run p l e R s m args below meth c Z own nm bytes maxL ret n0 EE h k n (mkF m pc ls (.int nn :: .int (0 : Int32) :: .ref b :: .int (0 : Int32) :: .ref a :: st)) := by
  subst hq; intro C T locs X Fr0 E
  obtain ⟨ka, A'⟩ := A.arv0 hza
  obtain ⟨kb, B'⟩ := B.arv0 hzb
  have n0' : (0 : Int32).toNatClampNeg = 0 := by decide
  have ez : ∀ z : Int32, z.toNatClampNeg = z.toInt.toNat := fun _ => rfl
  obtain ⟨T', h', L, X', e', N', KP, R', st'⟩ := cpA X C.1 C.2.2.2.2.2.1 C.2.2.2.1 w1 w2 w3 w4 E (sp := 0) (dp := 0) (nn := nn) A' B' (Or.inl ⟨rfl, rfl⟩) (by decide) (by decide) (by rw [Int32.lt_iff_toInt_lt, show (0 : Int32).toInt = 0 from by decide]; omega) (by rw [n0', ez, ez]; omega) (by rw [n0', ez, ez]; omega) rfl (by rw [n0', ez, List.length_replicate]; omega) Fr0 gb (g := mkF m pc ls (.int nn :: .int (0 : Int32) :: .ref b :: .int (0 : Int32) :: .ref a :: st)) rfl (by rw [C.2.2.1]; exact hsz) rfl (C.2.1 ▸ hd) hf (W := W) (by show 2 * 0 + _ ≤ _; omega) (by show W + (nativeFrameWords _ _ 5 + 11) ≤ _; rw [show nativeFrameWords "java/lang/System" "arraycopy" 5 = 7 from by decide]; exact hl)
  have R2 : AI Z h' b .byte nb (fun _ => 0) := AI.of_arv0 R' hzb (fun x hx => by
    simp only [List.mem_append, List.mem_map] at hx
    rcases hx with (hx | ⟨u, -, hx⟩) | hx
    · exact List.eq_of_mem_replicate (List.mem_of_mem_take hx)
    · rw [← hx]; exact getD_all (fun x hx => List.eq_of_mem_replicate hx) _
    · exact List.eq_of_mem_replicate (List.mem_of_mem_drop hx))
  obtain ⟨s₂, o, q1, q2⟩ := hr h' KP R2 C T' _ X' N' e'
  exact ⟨s₂, o, st' _ q1, q2⟩
theorem Run.ind {ι : Type} (P : Nat → ι → Heap → Prop) (fr : ι → JFrame) (step : ∀ (j : Nat) (x : ι) (hL : Heap), P j x hL → (∀ (j' : Nat) (x' : ι) (h' : Heap), j' < j → P j' x' h' → Run p l e R s m args below meth c Z own nm bytes maxL ret n0 EE h' k n (fr x')) → Run p l e R s m args below meth c Z own nm bytes maxL ret n0 EE hL k n (fr x)) (j : Nat) (x : ι) (hP : P j x h) : Run p l e R s m args below meth c Z own nm bytes maxL ret n0 EE h k n (fr x) := by
  have key : ∀ (N0 : Nat) (j : Nat), j < N0 → ∀ (x : ι) (hL : Heap), P j x hL → Run p l e R s m args below meth c Z own nm bytes maxL ret n0 EE hL k n (fr x) := by
    intro N0
    induction N0 with
    | zero => intro j hj; exact absurd hj (Nat.not_lt_zero _)
    | succ N1 ih => intro j hj x hL hP; exact step j x hL hP (fun j' x' h' hlt hP' => ih j' (by omega) x' h' hP')
  exact key (j + 1) j (Nat.lt_succ_self _) x h hP
end Layer
theorem div_toInt {x y : Int32} (hx : 0 ≤ x.toInt) {d : Int} (hy : y.toInt = d) (hd : 0 < d) : (x / y).toInt = x.toInt / d :=
  (c_idiv x y d hy (fun z => by rw [z] at hy; rw [show (-1 : Int32).toInt = -1 from by decide] at hy; omega)).1 hx
theorem rem_toInt {x y : Int32} (hx : 0 ≤ x.toInt) {d : Int} (hy : y.toInt = d) (hd : 0 < d) : (x - (x / y) * y).toInt = x.toInt % d := by
  have h1 := div_toInt hx hy hd
  have h2 := c_imul (x / y) y
  rw [h1, hy, Int.mul_comm] at h2
  have h3 := c_isub x ((x / y) * y)
  have h4 := rng32 (x - (x / y) * y)
  have h5 : x.toInt % d = x.toInt - d * (x.toInt / d) := Int.emod_def _ _
  have h6 := Int.emod_nonneg x.toInt (b := d) (by omega)
  have h7 := Int.emod_lt_of_pos x.toInt hd
  have h8 := rng32 x; have h9 := rng32 y
  omega
theorem and31 (x : Int32) : 0 ≤ (x &&& 2147483647).toInt ∧ (x &&& 2147483647).toInt < 2147483648 := by
  rw [c_mask x 2147483647 31 (by decide) (by decide)]; omega
theorem add_toInt {x y : Int32} {a b : Int} (ha : x.toInt = a) (hb : y.toInt = b) (h1 : -2147483648 ≤ a + b) (h2 : a + b < 2147483648) : (x + y).toInt = a + b := by
  have h3 := c_iadd x y; have h4 := rng32 (x + y); omega
theorem sub_toInt {x y : Int32} {a b : Int} (ha : x.toInt = a) (hb : y.toInt = b) (h1 : -2147483648 ≤ a - b) (h2 : a - b < 2147483648) : (x - y).toInt = a - b := by
  have h3 := c_isub x y; have h4 := rng32 (x - y); omega
theorem inc_toInt {x : Int32} (h : x.toInt + 1 < 2147483648) : (x + 1).toInt = x.toInt + 1 := by
  have h1 := rng32 x; exact add_toInt rfl (by decide) (by omega) h
theorem lt32 {x y : Int32} : x < y ↔ x.toInt < y.toInt := Int32.lt_iff_toInt_lt
theorem lt64 {x y : Int64} : x < y ↔ x.toInt < y.toInt := Int64.lt_iff_toInt_lt
theorem eq32 {x y : Int32} : x = y ↔ x.toInt = y.toInt := Int32.toInt_inj.symm
theorem eq64 {x y : Int64} : x = y ↔ x.toInt = y.toInt := Int64.toInt_inj.symm
theorem nat32 {j : Int32} (h : 0 ≤ j.toInt) : (j.toNatClampNeg : Int) = j.toInt := by rw [show j.toNatClampNeg = j.toInt.toNat from rfl]; omega
theorem nar_c (x : Int32) : nar .char (x.toUInt32.toUInt16.toUInt32.toInt32) = x.toUInt32.toUInt16.toUInt32.toInt32 := by
  show ((x.toUInt32.toUInt16.toUInt32).toUInt16.toUInt32).toInt32 = _
  rw [UInt16.toUInt16_toUInt32]
theorem allb {P : Int8 → Prop} (h : ∀ v : BitVec 8, P (Int8.ofBitVec v)) (b : Int8) : P b := h b.toBitVec
end Jvm.Own

namespace Jvm.Pilot.@@N@@
open Jvm Jvm.ClassFile Sem Op Lib Jvm.Free Jvm.Stand Jvm.LawKit Jvm.RoadKit Bundle Jvm.Pilot.@@N@@.Jvm.D Jvm.Own
theorem d1_0 : decode method_3_code 0 = .ok (.iload_n 2, 1) := by decide +kernel
theorem d1_1 : decode method_3_code 1 = .ok (.iload_n 1, 1) := by decide +kernel
theorem d1_2 : decode method_3_code 2 = .ok (.if_icmp .gt 16, 3) := by decide +kernel
theorem d1_18 : decode method_3_code 18 = .ok (.iconst 0, 1) := by decide +kernel
theorem d1_19 : decode method_3_code 19 = .ok (.ireturn, 1) := by decide +kernel
theorem d1_5 : decode method_3_code 5 = .ok (.iload_n 1, 1) := by decide +kernel
theorem d1_6 : decode method_3_code 6 = .ok (.iload_n 3, 1) := by decide +kernel
theorem d1_7 : decode method_3_code 7 = .ok (.if_icmp .ge 11, 3) := by decide +kernel
theorem d1_10 : decode method_3_code 10 = .ok (.aload_n 0, 1) := by decide +kernel
theorem d1_11 : decode method_3_code 11 = .ok (.iload_n 1, 1) := by decide +kernel
theorem d1_12 : decode method_3_code 12 = .ok (.baload, 1) := by decide +kernel
theorem d1_13 : decode method_3_code 13 = .ok (.sipush 255, 3) := by decide +kernel
theorem d1_16 : decode method_3_code 16 = .ok (.iand, 1) := by decide +kernel
theorem d1_17 : decode method_3_code 17 = .ok (.ireturn, 1) := by decide +kernel
def F_rmT (p1 : Int32) (p2 : Int32) (p3 : Int32) (f : Nat → Int32) : Int32 := (if p1 < p2 then (0 : Int32) else (if p1 < p3 then ((f p1.toNatClampNeg) &&& (255 : Int32)) else (0 : Int32)))
theorem ef_rmT (m : MethodId) (x0 : Addr) (x1 : Int32) (x2 : Int32) (x3 : Int32) : entryFrame m #[(.ref x0), (.int x1), (.int x2), (.int x3)] 4 = mkF m 0 #[.val (.ref x0), .val (.int x1), .val (.int x2), .val (.int x3)] [] := by first | (simp [entryFrame, mkF, argsToLocals, Value.category]; done) | rfl
set_option maxRecDepth 65536 in
set_option maxHeartbeats 40000000 in
theorem rmT {l : Launch} {Z : State} {a0 : Array Value} (hw : ∀ d ∈ tables_1, d.before a0 Z = true) (r0 : Addr) (p1 : Int32) (p2 : Int32) (p3 : Int32) (f : Nat → Int32) (h0 : Heap) (n0 : Nat) (Z0 : n0 ≤ h0.size) (pf0 : AI Z h0 r0 .byte 8 f) (hb : 0 ≤ p1.toInt ∧ p1.toInt < (8 : Nat)) :
    Pays l Z (⟨"com/example/serobridge/serobridge/protocol/FrameChecksumOfPinLaw", "term", "([BIII)I"⟩ : MethodName) method_3_code 4 (some .int) ({ frames := 0, cells := 0, slots := 0, locals := 0 } : Room) #[(.ref r0), (.int p1), (.int p2), (.int p3)] h0 n0 (fun v h' => v = some (.int (F_rmT p1 p2 p3 f)) ∧ h0 = h') := by
  refine Pays.of (ls := #[.val (.ref r0), .val (.int p1), .val (.int p2), .val (.int p3)]) (plainFor_of_name (by first | (simp [plainName, overriddenIn]; done) | decide +kernel)) (fun m => ef_rmT m r0 p1 p2 p3) Z0 (fun p e s m below meth c => ?_)
  refine Run.iloadN 1 d1_0 rfl ?_
  refine Run.iloadN 2 d1_1 rfl ?_
  refine Run.gt 18 5 d1_2 (fun hc2 => ?_) (fun hc2 => ?_)
  · refine Run.iconst (0 : Int32) 19 d1_18 ?_
    exact Run.retI d1_19 ⟨congrArg some (congrArg Value.int (by unfold F_rmT; rw [if_pos hc2])), rfl⟩
  · refine Run.iloadN 6 d1_5 rfl ?_
    refine Run.iloadN 7 d1_6 rfl ?_
    refine Run.ge 18 10 d1_7 (fun hc7 => ?_) (fun hc7 => ?_)
    · refine Run.iconst (0 : Int32) 19 d1_18 ?_
      exact Run.retI d1_19 ⟨congrArg some (congrArg Value.int (by unfold F_rmT; rw [if_neg hc2, if_neg hc7])), rfl⟩
    · refine Run.aloadN 11 d1_10 rfl ?_
      refine Run.iloadN 12 d1_11 rfl ?_
      refine Run.baload (f p1.toNatClampNeg) 13 pf0 hb d1_12 ?_
      refine Run.sipush (255 : Int32) 16 d1_13 ?_
      refine Run.iand ((f p1.toNatClampNeg) &&& (255 : Int32)) 17 d1_16 ?_
      exact Run.retI d1_17 ⟨congrArg some (congrArg Value.int (by unfold F_rmT; rw [if_neg hc2, if_pos hc7])), rfl⟩
theorem d4_0 : decode jdk_41_method_12_code 0 = .ok (.iload_n 0, 1) := by decide +kernel
theorem d4_1 : decode jdk_41_method_12_code 1 = .ok (.ifCond .lt 13, 3) := by decide +kernel
theorem d4_4 : decode jdk_41_method_12_code 4 = .ok (.iload_n 0, 1) := by decide +kernel
theorem d4_5 : decode jdk_41_method_12_code 5 = .ok (.iload_n 1, 1) := by decide +kernel
theorem d4_6 : decode jdk_41_method_12_code 6 = .ok (.if_icmp .gt 8, 3) := by decide +kernel
theorem d4_9 : decode jdk_41_method_12_code 9 = .ok (.iload_n 1, 1) := by decide +kernel
theorem d4_10 : decode jdk_41_method_12_code 10 = .ok (.iload_n 2, 1) := by decide +kernel
theorem d4_11 : decode jdk_41_method_12_code 11 = .ok (.if_icmp .le 11, 3) := by decide +kernel
theorem d4_22 : decode jdk_41_method_12_code 22 = .ok (.iload_n 0, 1) := by decide +kernel
theorem d4_23 : decode jdk_41_method_12_code 23 = .ok (.ireturn, 1) := by decide +kernel
theorem ef_rmK (m : MethodId) (x0 : Int32) (x1 : Int32) (x2 : Int32) : entryFrame m #[(.int x0), (.int x1), (.int x2), .null] 4 = mkF m 0 #[.val (.int x0), .val (.int x1), .val (.int x2), .val .null] [] := by first | (simp [entryFrame, mkF, argsToLocals, Value.category]; done) | rfl
set_option maxRecDepth 65536 in
set_option maxHeartbeats 40000000 in
theorem rmK {l : Launch} {Z : State} {a0 : Array Value} (hw : ∀ d ∈ tables_1, d.before a0 Z = true) (p0 : Int32) (p1 : Int32) (p2 : Int32)  (h0 : Heap) (n0 : Nat) (Z0 : n0 ≤ h0.size) (hb0 : 0 ≤ p0.toInt) (hb1 : p0.toInt ≤ p1.toInt) (hb2 : p1.toInt ≤ p2.toInt) :
    Pays l Z (⟨"jdk/internal/util/Preconditions", "checkFromToIndex", "(IIILjava/util/function/BiFunction;)I"⟩ : MethodName) jdk_41_method_12_code 4 (some .int) ({ frames := 0, cells := 0, slots := 0, locals := 0 } : Room) #[(.int p0), (.int p1), (.int p2), .null] h0 n0 (fun v h' => v = some (.int p0) ∧ h0 = h') := by
  refine Pays.of (ls := #[.val (.int p0), .val (.int p1), .val (.int p2), .val .null]) (plainFor_of_name (by first | (simp [plainName, overriddenIn]; done) | decide +kernel)) (fun m => ef_rmK m p0 p1 p2) Z0 (fun p e s m below meth c => ?_)
  refine Run.iloadN 1 d4_0 rfl ?_
  refine Run.lt0N 4 d4_1 (by rw [lt32, show (0 : Int32).toInt = 0 from by decide]; omega) ?_
  refine Run.iloadN 5 d4_4 rfl ?_
  refine Run.iloadN 6 d4_5 rfl ?_
  refine Run.gtN 9 d4_6 (by rw [lt32]; omega) ?_
  refine Run.iloadN 10 d4_9 rfl ?_
  refine Run.iloadN 11 d4_10 rfl ?_
  refine Run.leY 22 d4_11 (by rw [lt32]; omega) ?_
  refine Run.iloadN 23 d4_22 rfl ?_
  exact Run.retI d4_23 ⟨rfl, rfl⟩
theorem d3_0 : decode jdk_31_method_18_code 0 = .ok (.iload_n 0, 1) := by decide +kernel
theorem d3_1 : decode jdk_31_method_18_code 1 = .ok (.iload_n 1, 1) := by decide +kernel
theorem d3_2 : decode jdk_31_method_18_code 2 = .ok (.iload_n 2, 1) := by decide +kernel
theorem d3_3 : decode jdk_31_method_18_code 3 = .ok (.aconst_null, 1) := by decide +kernel
theorem d3_4 : decode jdk_31_method_18_code 4 = .ok (.invokestatic 111, 3) := by decide +kernel
theorem pd_0 : parseMethodDescriptor "(IIILjava/util/function/BiFunction;)I" = some ⟨[.int, .int, .int, (.object "java/util/function/BiFunction")], some .int⟩ := by decide +kernel
theorem d3_7 : decode jdk_31_method_18_code 7 = .ok (.ireturn, 1) := by decide +kernel
theorem ef_rmO (m : MethodId) (x0 : Int32) (x1 : Int32) (x2 : Int32) : entryFrame m #[(.int x0), (.int x1), (.int x2)] 3 = mkF m 0 #[.val (.int x0), .val (.int x1), .val (.int x2)] [] := by first | (simp [entryFrame, mkF, argsToLocals, Value.category]; done) | rfl
set_option maxRecDepth 65536 in
set_option maxHeartbeats 40000000 in
theorem rmO {l : Launch} {Z : State} {a0 : Array Value} (hw : ∀ d ∈ tables_1, d.before a0 Z = true) (p0 : Int32) (p1 : Int32) (p2 : Int32)  (h0 : Heap) (n0 : Nat) (Z0 : n0 ≤ h0.size) (hb0 : 0 ≤ p0.toInt) (hb1 : p0.toInt ≤ p1.toInt) (hb2 : p1.toInt ≤ p2.toInt) :
    Pays l Z (⟨"java/util/Objects", "checkFromToIndex", "(III)I"⟩ : MethodName) jdk_31_method_18_code 3 (some .int) ({ frames := 1, cells := 0, slots := 0, locals := 15 } : Room) #[(.int p0), (.int p1), (.int p2)] h0 n0 (fun v h' => v = some (.int p0) ∧ h0 = h') := by
  refine Pays.of (ls := #[.val (.int p0), .val (.int p1), .val (.int p2)]) (plainFor_of_name (by first | (simp [plainName, overriddenIn]; done) | decide +kernel)) (fun m => ef_rmO m p0 p1 p2) Z0 (fun p e s m below meth c => ?_)
  refine Run.iloadN 1 d3_0 rfl ?_
  refine Run.iloadN 2 d3_1 rfl ?_
  refine Run.iloadN 3 d3_2 rfl ?_
  refine Run.aconstNull 4 d3_3 ?_
  refine Run.callS 7 0 (argsL := [(.int p0), (.int p1), (.int p2), .null]) (st := []) (rmK hw p0 p1 p2 h0 n0 Z0 hb0 hb1 hb2) (hw _ (List.mem_of_getElem? (i := 14) rfl)) (hw _ (List.mem_of_getElem? (i := 15) rfl)) (hw _ (List.mem_of_getElem? (i := 16) rfl)) (hw _ (List.mem_of_getElem? (i := 17) rfl)) pd_0 d3_4 (fun v1 h1 => ?_)
  rintro ⟨rfl, rfl⟩
  show Run p l e _ s m _ below meth c Z _ _ _ _ _ n0 _ h0 0 0 (mkF m 7 #[.val (.int p0), .val (.int p1), .val (.int p2)] [(.int p0)])
  exact Run.retI d3_7 ⟨rfl, rfl⟩
def own_g (a b : Int32) (f : Nat → Int32) (k : Nat) : Int32 := if a.toInt ≤ k ∧ (k : Int) < b.toInt then f k &&& 255 else 0
def own_s (g : Nat → Int32) : Nat → Int32
  | 0 => 0
  | k + 1 => own_s g k + g k
theorem own_lo {a b : Int32} {f : Nat → Int32} : ∀ k : Nat, (k : Int) ≤ a.toInt → own_s (own_g a b f) k = 0
  | 0, _ => rfl
  | k + 1, h => by
    show own_s (own_g a b f) k + own_g a b f k = 0
    rw [own_lo k (by omega), own_g, if_neg (by omega)]; rfl
theorem own_hi {a b : Int32} {f : Nat → Int32} (m : Nat) (hm : b.toInt ≤ m) : ∀ d : Nat, own_s (own_g a b f) (m + d) = own_s (own_g a b f) m
  | 0 => rfl
  | d + 1 => by
    show own_s (own_g a b f) (m + d) + own_g a b f (m + d) = _
    rw [own_hi m hm d, own_g, if_neg (by omega), Int32.add_zero]
theorem own_g_rg (a b : Int32) (f : Nat → Int32) (k : Nat) : 0 ≤ (own_g a b f k).toInt ∧ (own_g a b f k).toInt ≤ 255 := by
  unfold own_g; split
  · rw [c_mask (f k) 255 8 (by decide) (by decide)]; omega
  · decide
theorem own_s_rg (a b : Int32) (f : Nat → Int32) : ∀ k : Nat, k ≤ 8 → 0 ≤ (own_s (own_g a b f) k).toInt ∧ (own_s (own_g a b f) k).toInt ≤ 255 * k
  | 0, _ => by show 0 ≤ (0 : Int32).toInt ∧ (0 : Int32).toInt ≤ 255 * ((0 : Nat) : Int); decide
  | k + 1, h => by
    have h1 := own_s_rg a b f k (by omega); have h2 := own_g_rg a b f k
    have h3 : (own_s (own_g a b f) (k + 1)).toInt = _ + _ := add_toInt (x := own_s (own_g a b f) k) (y := own_g a b f k) rfl rfl (by omega) (by omega)
    omega
theorem d2_0 : decode prog_34_method_2_code 0 = .ok (.iload_n 1, 1) := by decide +kernel
theorem d2_1 : decode prog_34_method_2_code 1 = .ok (.iload_n 2, 1) := by decide +kernel
theorem d2_2 : decode prog_34_method_2_code 2 = .ok (.aload_n 0, 1) := by decide +kernel
theorem d2_3 : decode prog_34_method_2_code 3 = .ok (.arraylength, 1) := by decide +kernel
theorem d2_4 : decode prog_34_method_2_code 4 = .ok (.invokestatic 7, 3) := by decide +kernel
theorem pd_1 : parseMethodDescriptor "(III)I" = some ⟨[.int, .int, .int], some .int⟩ := by decide +kernel
theorem d2_7 : decode prog_34_method_2_code 7 = .ok (.pop, 1) := by decide +kernel
theorem d2_8 : decode prog_34_method_2_code 8 = .ok (.iconst 0, 1) := by decide +kernel
theorem d2_9 : decode prog_34_method_2_code 9 = .ok (.istore_n 3, 1) := by decide +kernel
theorem d2_10 : decode prog_34_method_2_code 10 = .ok (.iload_n 1, 1) := by decide +kernel
theorem d2_11 : decode prog_34_method_2_code 11 = .ok (.istore 4, 2) := by decide +kernel
theorem d2_13 : decode prog_34_method_2_code 13 = .ok (.iload 4, 2) := by decide +kernel
theorem d2_15 : decode prog_34_method_2_code 15 = .ok (.iload_n 2, 1) := by decide +kernel
theorem d2_16 : decode prog_34_method_2_code 16 = .ok (.if_icmp .ge 20, 3) := by decide +kernel
theorem d2_36 : decode prog_34_method_2_code 36 = .ok (.iload_n 3, 1) := by decide +kernel
theorem d2_37 : decode prog_34_method_2_code 37 = .ok (.sipush 255, 3) := by decide +kernel
theorem d2_40 : decode prog_34_method_2_code 40 = .ok (.iand, 1) := by decide +kernel
theorem d2_41 : decode prog_34_method_2_code 41 = .ok (.ireturn, 1) := by decide +kernel
theorem d2_19 : decode prog_34_method_2_code 19 = .ok (.iload_n 3, 1) := by decide +kernel
theorem d2_20 : decode prog_34_method_2_code 20 = .ok (.aload_n 0, 1) := by decide +kernel
theorem d2_21 : decode prog_34_method_2_code 21 = .ok (.iload 4, 2) := by decide +kernel
theorem d2_23 : decode prog_34_method_2_code 23 = .ok (.baload, 1) := by decide +kernel
theorem d2_24 : decode prog_34_method_2_code 24 = .ok (.sipush 255, 3) := by decide +kernel
theorem d2_27 : decode prog_34_method_2_code 27 = .ok (.iand, 1) := by decide +kernel
theorem d2_28 : decode prog_34_method_2_code 28 = .ok (.iadd, 1) := by decide +kernel
theorem d2_29 : decode prog_34_method_2_code 29 = .ok (.istore_n 3, 1) := by decide +kernel
theorem d2_30 : decode prog_34_method_2_code 30 = .ok (.iinc 4 1, 3) := by decide +kernel
theorem d2_33 : decode prog_34_method_2_code 33 = .ok (.goto (-20), 3) := by decide +kernel
theorem ef_rmF (m : MethodId) (x0 : Addr) (x1 : Int32) (x2 : Int32) : entryFrame m #[(.ref x0), (.int x1), (.int x2)] 5 = mkF m 0 #[.val (.ref x0), .val (.int x1), .val (.int x2), .unset, .unset] [] := by first | (simp [entryFrame, mkF, argsToLocals, Value.category]; done) | rfl
set_option maxRecDepth 65536 in
set_option maxHeartbeats 40000000 in
theorem rmF {l : Launch} {Z : State} {a0 : Array Value} (hw : ∀ d ∈ tables_1, d.before a0 Z = true) (r0 : Addr) (p1 : Int32) (p2 : Int32) (f : Nat → Int32) (h0 : Heap) (n0 : Nat) (Z0 : n0 ≤ h0.size) (pf0 : AI Z h0 r0 .byte 8 f) (hb : 0 ≤ p1.toInt ∧ p1.toInt ≤ p2.toInt ∧ p2.toInt ≤ (8 : Int32).toInt) :
    Pays l Z (⟨"com/example/serobridge/serobridge/protocol/FrameChecksum", "of", "([BII)I"⟩ : MethodName) prog_34_method_2_code 5 (some .int) ({ frames := 2, cells := 0, slots := 0, locals := 29 } : Room) #[(.ref r0), (.int p1), (.int p2)] h0 n0 (fun v h' => v = some (.int ((own_s (own_g p1 p2 f) 8) &&& 255)) ∧ h0 = h') := by
  refine Pays.of (ls := #[.val (.ref r0), .val (.int p1), .val (.int p2), .unset, .unset]) (plainFor_of_name (by first | (simp [plainName, overriddenIn]; done) | decide +kernel)) (fun m => ef_rmF m r0 p1 p2) Z0 (fun p e s m below meth c => ?_)
  have h8 : (8 : Int32).toInt = 8 := by decide
  refine Run.iloadN 1 d2_0 rfl ?_
  refine Run.iloadN 2 d2_1 rfl ?_
  refine Run.aloadN 3 d2_2 rfl ?_
  refine Run.lenI (8 : Int32) 4 pf0 d2_3 ?_
  refine Run.callS 7 0 (argsL := [(.int p1), (.int p2), (.int (8 : Int32))]) (st := []) (rmO hw p1 p2 (8 : Int32) h0 n0 Z0 hb.1 hb.2.1 hb.2.2) (hw _ (List.mem_of_getElem? (i := 10) rfl)) (hw _ (List.mem_of_getElem? (i := 11) rfl)) (hw _ (List.mem_of_getElem? (i := 12) rfl)) (hw _ (List.mem_of_getElem? (i := 13) rfl)) pd_1 d2_4 (fun v1 h1 => ?_)
  rintro ⟨rfl, rfl⟩
  show Run p l e _ s m _ below meth c Z _ _ _ _ _ n0 _ h0 0 0 (mkF m 7 #[.val (.ref r0), .val (.int p1), .val (.int p2), .unset, .unset] [(.int p1)])
  refine Run.pop 8 d2_7 ?_
  refine Run.iconst (0 : Int32) 9 d2_8 ?_
  refine Run.istoreN 10 #[.val (.ref r0), .val (.int p1), .val (.int p2), .val (.int (0 : Int32)), .unset] d2_9 ?_
  refine Run.iloadN 11 d2_10 rfl ?_
  refine Run.istore 13 #[.val (.ref r0), .val (.int p1), .val (.int p2), .val (.int (0 : Int32)), .val (.int p1)] d2_11 ?_
  refine Run.ind (ι := Int32 × Int32) (fun j x hh => h0 = hh ∧ p1.toInt ≤ (x.2).toInt ∧ (x.2).toInt ≤ p2.toInt ∧ (j : Int) = 8 - (x.2).toInt ∧ (x.1) = own_s (own_g p1 p2 f) (x.2).toNatClampNeg) (fun x => (mkF m 13 #[.val (.ref r0), .val (.int p1), .val (.int p2), .val (.int x.1), .val (.int x.2)] [])) (fun j x hL hP ih => ?_) (8 - p1.toInt).toNat (0, p1) (by (try dsimp only); exact ⟨rfl, Int.le_refl _, hb.2.1, by omega, (own_lo _ (by rw [nat32 hb.1]; exact Int.le_refl _)).symm⟩)
  obtain ⟨sm, i⟩ := x
  try dsimp only at hP
  obtain ⟨rfl, hi1, hi2, hj, hv⟩ := hP
  have hn : (i.toNatClampNeg : Int) = i.toInt := nat32 (by omega)
  show Run p l e _ s m _ below meth c Z _ _ _ _ _ n0 _ h0 0 0 (mkF m 13 #[.val (.ref r0), .val (.int p1), .val (.int p2), .val (.int sm), .val (.int i)] [])
  refine Run.iload 15 d2_13 rfl ?_
  refine Run.iloadN 16 d2_15 rfl ?_
  refine Run.ge 36 19 d2_16 (fun hc16 => ?_) (fun hc16 => ?_)
  · refine Run.iloadN 37 d2_36 rfl ?_
    refine Run.sipush (255 : Int32) 40 d2_37 ?_
    refine Run.iand (sm &&& (255 : Int32)) 41 d2_40 ?_
    exact Run.retI d2_41 ⟨(congrArg some (congrArg Value.int (by have w := hc16; rw [lt32] at w; obtain ⟨d, hd⟩ : ∃ d, 8 = i.toNatClampNeg + d := ⟨8 - i.toNatClampNeg, by omega⟩; rw [hv, hd, own_hi _ (by omega)]))), rfl⟩
  · refine Run.iloadN 20 d2_19 rfl ?_
    refine Run.aloadN 21 d2_20 rfl ?_
    refine Run.iload 23 d2_21 rfl ?_
    refine Run.baload (f i.toNatClampNeg) 24 pf0 ⟨by omega, by have q := hc16; rw [lt32] at q; omega⟩ d2_23 ?_
    refine Run.sipush (255 : Int32) 27 d2_24 ?_
    refine Run.iand ((f i.toNatClampNeg) &&& (255 : Int32)) 28 d2_27 ?_
    refine Run.iadd (sm + ((f i.toNatClampNeg) &&& (255 : Int32))) 29 d2_28 ?_
    refine Run.istoreN 30 #[.val (.ref r0), .val (.int p1), .val (.int p2), .val (.int (sm + ((f i.toNatClampNeg) &&& (255 : Int32)))), .val (.int i)] d2_29 ?_
    refine Run.iinc (i + (1 : Int32)) 33 #[.val (.ref r0), .val (.int p1), .val (.int p2), .val (.int (sm + ((f i.toNatClampNeg) &&& (255 : Int32)))), .val (.int (i + (1 : Int32)))] d2_30 rfl ?_
    refine Run.goto 13 d2_33 ?_
    have hlt : i.toInt < p2.toInt := by have q := hc16; rw [lt32] at q; omega
    have hs : (i + 1).toInt = i.toInt + 1 := inc_toInt (by omega)
    have hn' : ((i + 1).toNatClampNeg : Int) = (i + 1).toInt := nat32 (by omega)
    refine ih (j - 1) (_, i + 1) _ (by omega) ?_
    try dsimp only
    refine ⟨rfl, by show _ ≤ (i + 1).toInt; omega, by show (i + 1).toInt ≤ _; omega, by show _ = 8 - (i + 1).toInt; omega, ?_⟩
    show sm + (f i.toNatClampNeg &&& 255) = own_s (own_g p1 p2 f) (i + 1).toNatClampNeg
    rw [show (i + 1).toNatClampNeg = i.toNatClampNeg + 1 from by omega, hv]
    show _ = own_s (own_g p1 p2 f) i.toNatClampNeg + own_g p1 p2 f i.toNatClampNeg
    rw [own_g, if_pos (by omega)]
theorem own_t (k : Nat) (w a b : Int32) (f : Nat → Int32) (hw : w.toInt = k) : F_rmT w a b f = own_g a b f k := by
  have hn : w.toNatClampNeg = k := by have := nat32 (j := w) (by omega); omega
  unfold F_rmT own_g; rw [hn]; simp only [lt32]; repeat' split
  all_goals first | rfl | (exfalso; omega)
theorem own_tot (a b : Int32) (f : Nat → Int32) (tt : Int32) (h : F_rmT 0 a b f + F_rmT 1 a b f + F_rmT 2 a b f + F_rmT 3 a b f + F_rmT 4 a b f + F_rmT 5 a b f + F_rmT 6 a b f + F_rmT 7 a b f = tt) : own_s (own_g a b f) 8 = tt := by
  rw [own_t 0 0 a b f (by decide), own_t 1 1 a b f (by decide), own_t 2 2 a b f (by decide), own_t 3 3 a b f (by decide), own_t 4 4 a b f (by decide), own_t 5 5 a b f (by decide), own_t 6 6 a b f (by decide), own_t 7 7 a b f (by decide)] at h
  rw [← h]; simp only [own_s, Int32.zero_add]
theorem own_fin (a b : Int32) (f : Nat → Int32) (tt : Int32) (h : own_s (own_g a b f) 8 = tt) : (own_s (own_g a b f) 8) &&& 255 = tt - (tt / 256) * 256 := by
  have h1 := own_s_rg a b f 8 (by decide); rw [h] at h1 ⊢
  rw [eq32, c_mask tt 255 8 (by decide) (by decide), rem_toInt h1.1 (show (256 : Int32).toInt = 256 from by decide) (by decide)]; rfl
theorem own_rg {x w : Int32} (h : (x &&& 2147483647) - ((x &&& 2147483647) / 9) * 9 = w) : 0 ≤ w.toInt ∧ w.toInt < 9 := by
  have h1 := and31 x; have h2 := rem_toInt (x := x &&& 2147483647) (y := 9) h1.1 (show (9 : Int32).toInt = 9 from by decide) (by decide); rw [h] at h2; omega
theorem own_9 {a : Int32} (h : 0 ≤ a.toInt ∧ a.toInt < 9) : (9 - a).toInt = 9 - a.toInt := sub_toInt (by decide) rfl (by omega) (by omega)
theorem own_90 {a : Int32} (h : 0 ≤ a.toInt ∧ a.toInt < 9) : 9 - a ≠ 0 := fun z => by have h1 := own_9 h; rw [z, show (0 : Int32).toInt = 0 from by decide] at h1; omega
theorem own_to {x a w : Int32} (ha : 0 ≤ a.toInt ∧ a.toInt < 9) (h : a + ((x &&& 2147483647) - ((x &&& 2147483647) / (9 - a)) * (9 - a)) = w) : a.toInt ≤ w.toInt ∧ w.toInt < 9 := by
  have h1 := and31 x; have h2 := rem_toInt (x := x &&& 2147483647) (y := 9 - a) h1.1 (own_9 ha) (by omega)
  have h3 := Int.emod_nonneg (x &&& 2147483647).toInt (b := 9 - a.toInt) (by omega); have h4 := Int.emod_lt_of_pos (x &&& 2147483647).toInt (b := 9 - a.toInt) (by omega)
  have h5 := add_toInt (x := a) rfl h2 (by omega) (by omega); rw [h] at h5; omega
theorem pd_2 : parseMethodDescriptor "([BIII)I" = some ⟨[(.array .byte), .int, .int, .int], some .int⟩ := by decide +kernel
theorem pd_3 : parseMethodDescriptor "([BII)I" = some ⟨[(.array .byte), .int, .int], some .int⟩ := by decide +kernel
theorem ef_rm0 (m : MethodId) (x0 : Int64) (x1 : Int32) (x2 : Int32) : entryFrame m #[(.long x0), (.int x1), (.int x2)] maxLocals = mkF m 0 #[.val (.long x0), .second, .val (.int x1), .val (.int x2), .unset, .unset, .unset, .unset, .unset] [] := by first | (simp [entryFrame, mkF, argsToLocals, Value.category, maxLocals]; done) | rfl
set_option maxRecDepth 65536 in
set_option maxHeartbeats 40000000 in
theorem rm0 {l : Launch} {Z : State} {a0 : Array Value} (hw : ∀ d ∈ tables_1, d.before a0 Z = true) (q0 : Int64) (p1 : Int32) (p2 : Int32) (h0 : Heap) (n0 : Nat) (Z0 : n0 ≤ h0.size) :
    Pays l Z x code maxLocals ret room_1 #[(.long q0), (.int p1), (.int p2)] h0 n0 (fun v _ => v = some (.int 1) ∧ True) := by
  refine Pays.of (ls := #[.val (.long q0), .second, .val (.int p1), .val (.int p2), .unset, .unset, .unset, .unset, .unset]) (plainFor_of_name (by first | (simp [plainName, overriddenIn]; done) | decide +kernel)) (fun m => ef_rm0 m q0 p1 p2) Z0 (fun p e s m below meth c => ?_)
  show Run p l e _ s m _ below meth c Z "com/example/serobridge/serobridge/protocol/FrameChecksumOfPinLaw" "law" code 9 (some .boolean) n0 (EndN s n0 _ 16 128) h0 0 0 (mkF m 0 #[.val (.long q0), .second, .val (.int p1), .val (.int p2), .unset, .unset, .unset, .unset, .unset] [])
  refine Run.bipush (8 : Int32) 2 at_0 ?_
  refine Run.new_byte 4 8 8 (hw _ (List.mem_of_getElem? (i := 0) rfl)) (by decide) at_2 (fun h1 ob1 g1 u1 E1 A1 => ?_)
  show Run p l e _ s m _ below meth c Z _ _ _ _ _ n0 _ h1 1 8 (mkF m 4 #[.val (.long q0), .second, .val (.int p1), .val (.int p2), .unset, .unset, .unset, .unset, .unset] [(.ref ob1)])
  refine Run.astore 6 #[.val (.long q0), .second, .val (.int p1), .val (.int p2), .val (.ref ob1), .unset, .unset, .unset, .unset] at_4 ?_
  refine Run.aload 8 at_6 rfl ?_
  refine Run.iconst (0 : Int32) 9 at_8 ?_
  refine Run.lloadN 10 at_9 rfl ?_
  refine Run.l2i q0.toInt32 11 at_10 ?_
  refine Run.i2b q0.toInt32.toInt8.toInt32 12 at_11 ?_
  refine Run.bastore q0.toInt32.toInt8.toInt32 13 A1 (by decide) u1 at_12 (fun h2 W2 A2 => ?_) (hv := by simp [nar])
  refine Run.aload 15 at_13 rfl ?_
  refine Run.iconst (1 : Int32) 16 at_15 ?_
  refine Run.lloadN 17 at_16 rfl ?_
  refine Run.bipush (8 : Int32) 19 at_17 ?_
  refine Run.lushr (q0.toUInt64 >>> ((8 : Int32) &&& 0x3f).toInt64.toUInt64).toInt64 20 at_19 ?_
  refine Run.l2i (q0.toUInt64 >>> ((8 : Int32) &&& 0x3f).toInt64.toUInt64).toInt64.toInt32 21 at_20 ?_
  refine Run.i2b (q0.toUInt64 >>> ((8 : Int32) &&& 0x3f).toInt64.toUInt64).toInt64.toInt32.toInt8.toInt32 22 at_21 ?_
  refine Run.bastore (q0.toUInt64 >>> ((8 : Int32) &&& 0x3f).toInt64.toUInt64).toInt64.toInt32.toInt8.toInt32 23 A2 (by decide) u1 at_22 (fun h3 W3 A3 => ?_) (hv := by simp [nar])
  refine Run.aload 25 at_23 rfl ?_
  refine Run.iconst (2 : Int32) 26 at_25 ?_
  refine Run.lloadN 27 at_26 rfl ?_
  refine Run.bipush (16 : Int32) 29 at_27 ?_
  refine Run.lushr (q0.toUInt64 >>> ((16 : Int32) &&& 0x3f).toInt64.toUInt64).toInt64 30 at_29 ?_
  refine Run.l2i (q0.toUInt64 >>> ((16 : Int32) &&& 0x3f).toInt64.toUInt64).toInt64.toInt32 31 at_30 ?_
  refine Run.i2b (q0.toUInt64 >>> ((16 : Int32) &&& 0x3f).toInt64.toUInt64).toInt64.toInt32.toInt8.toInt32 32 at_31 ?_
  refine Run.bastore (q0.toUInt64 >>> ((16 : Int32) &&& 0x3f).toInt64.toUInt64).toInt64.toInt32.toInt8.toInt32 33 A3 (by decide) u1 at_32 (fun h4 W4 A4 => ?_) (hv := by simp [nar])
  refine Run.aload 35 at_33 rfl ?_
  refine Run.iconst (3 : Int32) 36 at_35 ?_
  refine Run.lloadN 37 at_36 rfl ?_
  refine Run.bipush (24 : Int32) 39 at_37 ?_
  refine Run.lushr (q0.toUInt64 >>> ((24 : Int32) &&& 0x3f).toInt64.toUInt64).toInt64 40 at_39 ?_
  refine Run.l2i (q0.toUInt64 >>> ((24 : Int32) &&& 0x3f).toInt64.toUInt64).toInt64.toInt32 41 at_40 ?_
  refine Run.i2b (q0.toUInt64 >>> ((24 : Int32) &&& 0x3f).toInt64.toUInt64).toInt64.toInt32.toInt8.toInt32 42 at_41 ?_
  refine Run.bastore (q0.toUInt64 >>> ((24 : Int32) &&& 0x3f).toInt64.toUInt64).toInt64.toInt32.toInt8.toInt32 43 A4 (by decide) u1 at_42 (fun h5 W5 A5 => ?_) (hv := by simp [nar])
  refine Run.aload 45 at_43 rfl ?_
  refine Run.iconst (4 : Int32) 46 at_45 ?_
  refine Run.lloadN 47 at_46 rfl ?_
  refine Run.bipush (32 : Int32) 49 at_47 ?_
  refine Run.lushr (q0.toUInt64 >>> ((32 : Int32) &&& 0x3f).toInt64.toUInt64).toInt64 50 at_49 ?_
  refine Run.l2i (q0.toUInt64 >>> ((32 : Int32) &&& 0x3f).toInt64.toUInt64).toInt64.toInt32 51 at_50 ?_
  refine Run.i2b (q0.toUInt64 >>> ((32 : Int32) &&& 0x3f).toInt64.toUInt64).toInt64.toInt32.toInt8.toInt32 52 at_51 ?_
  refine Run.bastore (q0.toUInt64 >>> ((32 : Int32) &&& 0x3f).toInt64.toUInt64).toInt64.toInt32.toInt8.toInt32 53 A5 (by decide) u1 at_52 (fun h6 W6 A6 => ?_) (hv := by simp [nar])
  refine Run.aload 55 at_53 rfl ?_
  refine Run.iconst (5 : Int32) 56 at_55 ?_
  refine Run.lloadN 57 at_56 rfl ?_
  refine Run.bipush (40 : Int32) 59 at_57 ?_
  refine Run.lushr (q0.toUInt64 >>> ((40 : Int32) &&& 0x3f).toInt64.toUInt64).toInt64 60 at_59 ?_
  refine Run.l2i (q0.toUInt64 >>> ((40 : Int32) &&& 0x3f).toInt64.toUInt64).toInt64.toInt32 61 at_60 ?_
  refine Run.i2b (q0.toUInt64 >>> ((40 : Int32) &&& 0x3f).toInt64.toUInt64).toInt64.toInt32.toInt8.toInt32 62 at_61 ?_
  refine Run.bastore (q0.toUInt64 >>> ((40 : Int32) &&& 0x3f).toInt64.toUInt64).toInt64.toInt32.toInt8.toInt32 63 A6 (by decide) u1 at_62 (fun h7 W7 A7 => ?_) (hv := by simp [nar])
  refine Run.aload 65 at_63 rfl ?_
  refine Run.bipush (6 : Int32) 67 at_65 ?_
  refine Run.lloadN 68 at_67 rfl ?_
  refine Run.bipush (48 : Int32) 70 at_68 ?_
  refine Run.lushr (q0.toUInt64 >>> ((48 : Int32) &&& 0x3f).toInt64.toUInt64).toInt64 71 at_70 ?_
  refine Run.l2i (q0.toUInt64 >>> ((48 : Int32) &&& 0x3f).toInt64.toUInt64).toInt64.toInt32 72 at_71 ?_
  refine Run.i2b (q0.toUInt64 >>> ((48 : Int32) &&& 0x3f).toInt64.toUInt64).toInt64.toInt32.toInt8.toInt32 73 at_72 ?_
  refine Run.bastore (q0.toUInt64 >>> ((48 : Int32) &&& 0x3f).toInt64.toUInt64).toInt64.toInt32.toInt8.toInt32 74 A7 (by decide) u1 at_73 (fun h8 W8 A8 => ?_) (hv := by simp [nar])
  refine Run.aload 76 at_74 rfl ?_
  refine Run.bipush (7 : Int32) 78 at_76 ?_
  refine Run.lloadN 79 at_78 rfl ?_
  refine Run.bipush (56 : Int32) 81 at_79 ?_
  refine Run.lushr (q0.toUInt64 >>> ((56 : Int32) &&& 0x3f).toInt64.toUInt64).toInt64 82 at_81 ?_
  refine Run.l2i (q0.toUInt64 >>> ((56 : Int32) &&& 0x3f).toInt64.toUInt64).toInt64.toInt32 83 at_82 ?_
  refine Run.i2b (q0.toUInt64 >>> ((56 : Int32) &&& 0x3f).toInt64.toUInt64).toInt64.toInt32.toInt8.toInt32 84 at_83 ?_
  refine Run.bastore (q0.toUInt64 >>> ((56 : Int32) &&& 0x3f).toInt64.toUInt64).toInt64.toInt32.toInt8.toInt32 85 A8 (by decide) u1 at_84 (fun h9 W9 A9 => ?_) (hv := by simp [nar])
  obtain ⟨f, e_f⟩ : ∃ z, (oupd (oupd (oupd (oupd (oupd (oupd (oupd (oupd (fun _ => 0) 0 q0.toInt32.toInt8.toInt32) 1 (q0.toUInt64 >>> ((8 : Int32) &&& 0x3f).toInt64.toUInt64).toInt64.toInt32.toInt8.toInt32) 2 (q0.toUInt64 >>> ((16 : Int32) &&& 0x3f).toInt64.toUInt64).toInt64.toInt32.toInt8.toInt32) 3 (q0.toUInt64 >>> ((24 : Int32) &&& 0x3f).toInt64.toUInt64).toInt64.toInt32.toInt8.toInt32) 4 (q0.toUInt64 >>> ((32 : Int32) &&& 0x3f).toInt64.toUInt64).toInt64.toInt32.toInt8.toInt32) 5 (q0.toUInt64 >>> ((40 : Int32) &&& 0x3f).toInt64.toUInt64).toInt64.toInt32.toInt8.toInt32) 6 (q0.toUInt64 >>> ((48 : Int32) &&& 0x3f).toInt64.toUInt64).toInt64.toInt32.toInt8.toInt32) 7 (q0.toUInt64 >>> ((56 : Int32) &&& 0x3f).toInt64.toUInt64).toInt64.toInt32.toInt8.toInt32) = z := ⟨_, rfl⟩
  have A_f : AI Z h9 ob1 .byte 8 f := by rw [← e_f]; exact A9
  refine Run.iloadN 86 at_85 rfl ?_
  refine Run.ldcI 88 (hw _ (List.mem_of_getElem? (i := 1) rfl)) at_86 ?_
  refine Run.iand (p1 &&& (2147483647 : Int32)) 89 at_88 ?_
  refine Run.bipush (9 : Int32) 91 at_89 ?_
  obtain ⟨fr, e_fr⟩ : ∃ z, ((p1 &&& (2147483647 : Int32)) - ((p1 &&& (2147483647 : Int32)) / (9 : Int32)) * (9 : Int32)) = z := ⟨_, rfl⟩
  refine Run.irem fr 92 at_91 (by decide) ?_ e_fr
  have hfr := own_rg e_fr
  refine Run.istore 94 #[.val (.long q0), .second, .val (.int p1), .val (.int p2), .val (.ref ob1), .val (.int fr), .unset, .unset, .unset] at_92 ?_
  refine Run.iload 96 at_94 rfl ?_
  refine Run.iloadN 97 at_96 rfl ?_
  refine Run.ldcI 99 (hw _ (List.mem_of_getElem? (i := 1) rfl)) at_97 ?_
  refine Run.iand (p2 &&& (2147483647 : Int32)) 100 at_99 ?_
  refine Run.bipush (9 : Int32) 102 at_100 ?_
  refine Run.iload 104 at_102 rfl ?_
  refine Run.isub ((9 : Int32) - fr) 105 at_104 ?_
  refine Run.irem ((p2 &&& (2147483647 : Int32)) - ((p2 &&& (2147483647 : Int32)) / ((9 : Int32) - fr)) * ((9 : Int32) - fr)) 106 at_105 (own_90 hfr) ?_
  obtain ⟨tt, e_tt⟩ : ∃ z, (fr + ((p2 &&& (2147483647 : Int32)) - ((p2 &&& (2147483647 : Int32)) / ((9 : Int32) - fr)) * ((9 : Int32) - fr))) = z := ⟨_, rfl⟩
  refine Run.iadd tt 107 at_106 ?_ e_tt
  have hto := own_to hfr e_tt
  refine Run.istore 109 #[.val (.long q0), .second, .val (.int p1), .val (.int p2), .val (.ref ob1), .val (.int fr), .val (.int tt), .unset, .unset] at_107 ?_
  refine Run.aload 111 at_109 rfl ?_
  refine Run.iconst (0 : Int32) 112 at_111 ?_
  refine Run.iload 114 at_112 rfl ?_
  refine Run.iload 116 at_114 rfl ?_
  refine Run.sz fun hsz_h9 => ?_
  refine Run.callS 119 0 (argsL := [(.ref ob1), (.int (0 : Int32)), (.int fr), (.int tt)]) (st := []) (rmT hw ob1 (0 : Int32) fr tt f h9 n0 hsz_h9 A_f (by decide)) (hw _ (List.mem_of_getElem? (i := 2) rfl)) (hw _ (List.mem_of_getElem? (i := 3) rfl)) (hw _ (List.mem_of_getElem? (i := 4) rfl)) (hw _ (List.mem_of_getElem? (i := 5) rfl)) pd_2 at_116 (fun v10 h10 => ?_)
  rintro ⟨rfl, rfl⟩
  show Run p l e _ s m _ below meth c Z _ _ _ _ _ n0 _ h9 1 8 (mkF m 119 #[.val (.long q0), .second, .val (.int p1), .val (.int p2), .val (.ref ob1), .val (.int fr), .val (.int tt), .unset, .unset] [(.int (F_rmT (0 : Int32) fr tt f))])
  refine Run.aload 121 at_119 rfl ?_
  refine Run.iconst (1 : Int32) 122 at_121 ?_
  refine Run.iload 124 at_122 rfl ?_
  refine Run.iload 126 at_124 rfl ?_
  refine Run.callS 129 1 (argsL := [(.ref ob1), (.int (1 : Int32)), (.int fr), (.int tt)]) (st := [(.int (F_rmT (0 : Int32) fr tt f))]) (rmT hw ob1 (1 : Int32) fr tt f h9 n0 hsz_h9 A_f (by decide)) (hw _ (List.mem_of_getElem? (i := 2) rfl)) (hw _ (List.mem_of_getElem? (i := 3) rfl)) (hw _ (List.mem_of_getElem? (i := 4) rfl)) (hw _ (List.mem_of_getElem? (i := 5) rfl)) pd_2 at_126 (fun v11 h11 => ?_)
  rintro ⟨rfl, rfl⟩
  show Run p l e _ s m _ below meth c Z _ _ _ _ _ n0 _ h9 1 8 (mkF m 129 #[.val (.long q0), .second, .val (.int p1), .val (.int p2), .val (.ref ob1), .val (.int fr), .val (.int tt), .unset, .unset] [(.int (F_rmT (1 : Int32) fr tt f)), (.int (F_rmT (0 : Int32) fr tt f))])
  refine Run.iadd ((F_rmT (0 : Int32) fr tt f) + (F_rmT (1 : Int32) fr tt f)) 130 at_129 ?_
  refine Run.aload 132 at_130 rfl ?_
  refine Run.iconst (2 : Int32) 133 at_132 ?_
  refine Run.iload 135 at_133 rfl ?_
  refine Run.iload 137 at_135 rfl ?_
  refine Run.callS 140 1 (argsL := [(.ref ob1), (.int (2 : Int32)), (.int fr), (.int tt)]) (st := [(.int ((F_rmT (0 : Int32) fr tt f) + (F_rmT (1 : Int32) fr tt f)))]) (rmT hw ob1 (2 : Int32) fr tt f h9 n0 hsz_h9 A_f (by decide)) (hw _ (List.mem_of_getElem? (i := 2) rfl)) (hw _ (List.mem_of_getElem? (i := 3) rfl)) (hw _ (List.mem_of_getElem? (i := 4) rfl)) (hw _ (List.mem_of_getElem? (i := 5) rfl)) pd_2 at_137 (fun v12 h12 => ?_)
  rintro ⟨rfl, rfl⟩
  show Run p l e _ s m _ below meth c Z _ _ _ _ _ n0 _ h9 1 8 (mkF m 140 #[.val (.long q0), .second, .val (.int p1), .val (.int p2), .val (.ref ob1), .val (.int fr), .val (.int tt), .unset, .unset] [(.int (F_rmT (2 : Int32) fr tt f)), (.int ((F_rmT (0 : Int32) fr tt f) + (F_rmT (1 : Int32) fr tt f)))])
  refine Run.iadd (((F_rmT (0 : Int32) fr tt f) + (F_rmT (1 : Int32) fr tt f)) + (F_rmT (2 : Int32) fr tt f)) 141 at_140 ?_
  refine Run.aload 143 at_141 rfl ?_
  refine Run.iconst (3 : Int32) 144 at_143 ?_
  refine Run.iload 146 at_144 rfl ?_
  refine Run.iload 148 at_146 rfl ?_
  refine Run.callS 151 1 (argsL := [(.ref ob1), (.int (3 : Int32)), (.int fr), (.int tt)]) (st := [(.int (((F_rmT (0 : Int32) fr tt f) + (F_rmT (1 : Int32) fr tt f)) + (F_rmT (2 : Int32) fr tt f)))]) (rmT hw ob1 (3 : Int32) fr tt f h9 n0 hsz_h9 A_f (by decide)) (hw _ (List.mem_of_getElem? (i := 2) rfl)) (hw _ (List.mem_of_getElem? (i := 3) rfl)) (hw _ (List.mem_of_getElem? (i := 4) rfl)) (hw _ (List.mem_of_getElem? (i := 5) rfl)) pd_2 at_148 (fun v13 h13 => ?_)
  rintro ⟨rfl, rfl⟩
  show Run p l e _ s m _ below meth c Z _ _ _ _ _ n0 _ h9 1 8 (mkF m 151 #[.val (.long q0), .second, .val (.int p1), .val (.int p2), .val (.ref ob1), .val (.int fr), .val (.int tt), .unset, .unset] [(.int (F_rmT (3 : Int32) fr tt f)), (.int (((F_rmT (0 : Int32) fr tt f) + (F_rmT (1 : Int32) fr tt f)) + (F_rmT (2 : Int32) fr tt f)))])
  refine Run.iadd ((((F_rmT (0 : Int32) fr tt f) + (F_rmT (1 : Int32) fr tt f)) + (F_rmT (2 : Int32) fr tt f)) + (F_rmT (3 : Int32) fr tt f)) 152 at_151 ?_
  refine Run.aload 154 at_152 rfl ?_
  refine Run.iconst (4 : Int32) 155 at_154 ?_
  refine Run.iload 157 at_155 rfl ?_
  refine Run.iload 159 at_157 rfl ?_
  refine Run.callS 162 1 (argsL := [(.ref ob1), (.int (4 : Int32)), (.int fr), (.int tt)]) (st := [(.int ((((F_rmT (0 : Int32) fr tt f) + (F_rmT (1 : Int32) fr tt f)) + (F_rmT (2 : Int32) fr tt f)) + (F_rmT (3 : Int32) fr tt f)))]) (rmT hw ob1 (4 : Int32) fr tt f h9 n0 hsz_h9 A_f (by decide)) (hw _ (List.mem_of_getElem? (i := 2) rfl)) (hw _ (List.mem_of_getElem? (i := 3) rfl)) (hw _ (List.mem_of_getElem? (i := 4) rfl)) (hw _ (List.mem_of_getElem? (i := 5) rfl)) pd_2 at_159 (fun v14 h14 => ?_)
  rintro ⟨rfl, rfl⟩
  show Run p l e _ s m _ below meth c Z _ _ _ _ _ n0 _ h9 1 8 (mkF m 162 #[.val (.long q0), .second, .val (.int p1), .val (.int p2), .val (.ref ob1), .val (.int fr), .val (.int tt), .unset, .unset] [(.int (F_rmT (4 : Int32) fr tt f)), (.int ((((F_rmT (0 : Int32) fr tt f) + (F_rmT (1 : Int32) fr tt f)) + (F_rmT (2 : Int32) fr tt f)) + (F_rmT (3 : Int32) fr tt f)))])
  refine Run.iadd (((((F_rmT (0 : Int32) fr tt f) + (F_rmT (1 : Int32) fr tt f)) + (F_rmT (2 : Int32) fr tt f)) + (F_rmT (3 : Int32) fr tt f)) + (F_rmT (4 : Int32) fr tt f)) 163 at_162 ?_
  refine Run.aload 165 at_163 rfl ?_
  refine Run.iconst (5 : Int32) 166 at_165 ?_
  refine Run.iload 168 at_166 rfl ?_
  refine Run.iload 170 at_168 rfl ?_
  refine Run.callS 173 1 (argsL := [(.ref ob1), (.int (5 : Int32)), (.int fr), (.int tt)]) (st := [(.int (((((F_rmT (0 : Int32) fr tt f) + (F_rmT (1 : Int32) fr tt f)) + (F_rmT (2 : Int32) fr tt f)) + (F_rmT (3 : Int32) fr tt f)) + (F_rmT (4 : Int32) fr tt f)))]) (rmT hw ob1 (5 : Int32) fr tt f h9 n0 hsz_h9 A_f (by decide)) (hw _ (List.mem_of_getElem? (i := 2) rfl)) (hw _ (List.mem_of_getElem? (i := 3) rfl)) (hw _ (List.mem_of_getElem? (i := 4) rfl)) (hw _ (List.mem_of_getElem? (i := 5) rfl)) pd_2 at_170 (fun v15 h15 => ?_)
  rintro ⟨rfl, rfl⟩
  show Run p l e _ s m _ below meth c Z _ _ _ _ _ n0 _ h9 1 8 (mkF m 173 #[.val (.long q0), .second, .val (.int p1), .val (.int p2), .val (.ref ob1), .val (.int fr), .val (.int tt), .unset, .unset] [(.int (F_rmT (5 : Int32) fr tt f)), (.int (((((F_rmT (0 : Int32) fr tt f) + (F_rmT (1 : Int32) fr tt f)) + (F_rmT (2 : Int32) fr tt f)) + (F_rmT (3 : Int32) fr tt f)) + (F_rmT (4 : Int32) fr tt f)))])
  refine Run.iadd ((((((F_rmT (0 : Int32) fr tt f) + (F_rmT (1 : Int32) fr tt f)) + (F_rmT (2 : Int32) fr tt f)) + (F_rmT (3 : Int32) fr tt f)) + (F_rmT (4 : Int32) fr tt f)) + (F_rmT (5 : Int32) fr tt f)) 174 at_173 ?_
  refine Run.aload 176 at_174 rfl ?_
  refine Run.bipush (6 : Int32) 178 at_176 ?_
  refine Run.iload 180 at_178 rfl ?_
  refine Run.iload 182 at_180 rfl ?_
  refine Run.callS 185 1 (argsL := [(.ref ob1), (.int (6 : Int32)), (.int fr), (.int tt)]) (st := [(.int ((((((F_rmT (0 : Int32) fr tt f) + (F_rmT (1 : Int32) fr tt f)) + (F_rmT (2 : Int32) fr tt f)) + (F_rmT (3 : Int32) fr tt f)) + (F_rmT (4 : Int32) fr tt f)) + (F_rmT (5 : Int32) fr tt f)))]) (rmT hw ob1 (6 : Int32) fr tt f h9 n0 hsz_h9 A_f (by decide)) (hw _ (List.mem_of_getElem? (i := 2) rfl)) (hw _ (List.mem_of_getElem? (i := 3) rfl)) (hw _ (List.mem_of_getElem? (i := 4) rfl)) (hw _ (List.mem_of_getElem? (i := 5) rfl)) pd_2 at_182 (fun v16 h16 => ?_)
  rintro ⟨rfl, rfl⟩
  show Run p l e _ s m _ below meth c Z _ _ _ _ _ n0 _ h9 1 8 (mkF m 185 #[.val (.long q0), .second, .val (.int p1), .val (.int p2), .val (.ref ob1), .val (.int fr), .val (.int tt), .unset, .unset] [(.int (F_rmT (6 : Int32) fr tt f)), (.int ((((((F_rmT (0 : Int32) fr tt f) + (F_rmT (1 : Int32) fr tt f)) + (F_rmT (2 : Int32) fr tt f)) + (F_rmT (3 : Int32) fr tt f)) + (F_rmT (4 : Int32) fr tt f)) + (F_rmT (5 : Int32) fr tt f)))])
  refine Run.iadd (((((((F_rmT (0 : Int32) fr tt f) + (F_rmT (1 : Int32) fr tt f)) + (F_rmT (2 : Int32) fr tt f)) + (F_rmT (3 : Int32) fr tt f)) + (F_rmT (4 : Int32) fr tt f)) + (F_rmT (5 : Int32) fr tt f)) + (F_rmT (6 : Int32) fr tt f)) 186 at_185 ?_
  refine Run.aload 188 at_186 rfl ?_
  refine Run.bipush (7 : Int32) 190 at_188 ?_
  refine Run.iload 192 at_190 rfl ?_
  refine Run.iload 194 at_192 rfl ?_
  refine Run.callS 197 1 (argsL := [(.ref ob1), (.int (7 : Int32)), (.int fr), (.int tt)]) (st := [(.int (((((((F_rmT (0 : Int32) fr tt f) + (F_rmT (1 : Int32) fr tt f)) + (F_rmT (2 : Int32) fr tt f)) + (F_rmT (3 : Int32) fr tt f)) + (F_rmT (4 : Int32) fr tt f)) + (F_rmT (5 : Int32) fr tt f)) + (F_rmT (6 : Int32) fr tt f)))]) (rmT hw ob1 (7 : Int32) fr tt f h9 n0 hsz_h9 A_f (by decide)) (hw _ (List.mem_of_getElem? (i := 2) rfl)) (hw _ (List.mem_of_getElem? (i := 3) rfl)) (hw _ (List.mem_of_getElem? (i := 4) rfl)) (hw _ (List.mem_of_getElem? (i := 5) rfl)) pd_2 at_194 (fun v17 h17 => ?_)
  rintro ⟨rfl, rfl⟩
  show Run p l e _ s m _ below meth c Z _ _ _ _ _ n0 _ h9 1 8 (mkF m 197 #[.val (.long q0), .second, .val (.int p1), .val (.int p2), .val (.ref ob1), .val (.int fr), .val (.int tt), .unset, .unset] [(.int (F_rmT (7 : Int32) fr tt f)), (.int (((((((F_rmT (0 : Int32) fr tt f) + (F_rmT (1 : Int32) fr tt f)) + (F_rmT (2 : Int32) fr tt f)) + (F_rmT (3 : Int32) fr tt f)) + (F_rmT (4 : Int32) fr tt f)) + (F_rmT (5 : Int32) fr tt f)) + (F_rmT (6 : Int32) fr tt f)))])
  obtain ⟨tot, e_tot⟩ : ∃ z, ((((((((F_rmT (0 : Int32) fr tt f) + (F_rmT (1 : Int32) fr tt f)) + (F_rmT (2 : Int32) fr tt f)) + (F_rmT (3 : Int32) fr tt f)) + (F_rmT (4 : Int32) fr tt f)) + (F_rmT (5 : Int32) fr tt f)) + (F_rmT (6 : Int32) fr tt f)) + (F_rmT (7 : Int32) fr tt f)) = z := ⟨_, rfl⟩
  refine Run.iadd tot 198 at_197 ?_ e_tot
  have htot := own_tot fr tt f tot e_tot
  refine Run.istore 200 #[.val (.long q0), .second, .val (.int p1), .val (.int p2), .val (.ref ob1), .val (.int fr), .val (.int tt), .val (.int tot), .unset] at_198 ?_
  refine Run.iload 202 at_200 rfl ?_
  refine Run.sipush (256 : Int32) 205 at_202 ?_
  refine Run.irem (tot - (tot / (256 : Int32)) * (256 : Int32)) 206 at_205 (by decide) ?_
  refine Run.istore 208 #[.val (.long q0), .second, .val (.int p1), .val (.int p2), .val (.ref ob1), .val (.int fr), .val (.int tt), .val (.int tot), .val (.int (tot - (tot / (256 : Int32)) * (256 : Int32)))] at_206 ?_
  refine Run.aload 210 at_208 rfl ?_
  refine Run.iload 212 at_210 rfl ?_
  refine Run.iload 214 at_212 rfl ?_
  refine Run.callS 217 0 (argsL := [(.ref ob1), (.int fr), (.int tt)]) (st := []) (rmF hw ob1 fr tt f h9 n0 hsz_h9 A_f ⟨hfr.1, hto.1, by rw [show (8 : Int32).toInt = 8 from by decide]; omega⟩) (hw _ (List.mem_of_getElem? (i := 6) rfl)) (hw _ (List.mem_of_getElem? (i := 7) rfl)) (hw _ (List.mem_of_getElem? (i := 8) rfl)) (hw _ (List.mem_of_getElem? (i := 9) rfl)) pd_3 at_214 (fun v18 h18 => ?_)
  rintro ⟨rfl, rfl⟩
  show Run p l e _ s m _ below meth c Z _ _ _ _ _ n0 _ h9 1 8 (mkF m 217 #[.val (.long q0), .second, .val (.int p1), .val (.int p2), .val (.ref ob1), .val (.int fr), .val (.int tt), .val (.int tot), .val (.int (tot - (tot / (256 : Int32)) * (256 : Int32)))] [(.int ((own_s (own_g fr tt f) 8) &&& 255))])
  refine Run.iload 219 at_217 rfl ?_
  refine Run.neN 222 at_219 (own_fin fr tt f tot htot) ?_
  refine Run.iconst (1 : Int32) 223 at_222 ?_
  refine Run.goto 227 at_223 ?_
  exact Run.ret1 at_227 ⟨rfl, trivial⟩
set_option maxRecDepth 65536 in
set_option maxHeartbeats 40000000 in
theorem comes_1 {Post : Tables → Env → Array Value → State → Outcome → State → Prop} (hpost : ∀ tb e args s v u, (limb_1_1.after args s (.returned v) u = true ∧ limb_1_2.after args s (.returned v) u = true ∧ True) → FrameEnd s (.returned v) u (Jvm.fieldLocs frame_1_writes args s ++ Jvm.arrayLocs frame_1_arrays args s ++ Jvm.staticLocs frame_1_statics s) 16 128 → Post tb e args s (.returned v) u) :
    ArmFor flags0 classFile x code maxLocals ret World_1 tables_1 room_1 Calls_1 rest_1 Pre_1 Post := by
  intro l hfl _ _ p e ha hc hk s m args below hf hA hF happ hP
  obtain ⟨hcalls, hrest, hpre⟩ := hP
  obtain ⟨-, -, -, hnamed, -, -, -, hat⟩ := (Spec.applies_iff hf).mp happ
  obtain ⟨hg, hn⟩ := and_e (Cond.before_iff.mp (show (Jvm.Cond.and given_1 narrow_1).before args s = true from hpre))
  obtain ⟨g1, g2⟩ := and_e hg
  obtain ⟨g3, g4⟩ := and_e g2
  obtain ⟨g5, g6⟩ := and_e g4
  obtain ⟨w0, w1, w2, rfl⟩ : ∃ w0 w1 w2 : Value, args = #[w0, w1, w2] := by
    have hs : args.size = 3 := by simpa [Cond.value, given_1] using g1
    obtain ⟨L⟩ := args
    match L, hs with
    | [w0, w1, w2], _ => exact ⟨w0, w1, w2, rfl⟩
  have hw := fun d (hd : d ∈ tables_1) => atoms_spec (ws := Jvm.Cond.code x code maxLocals ret :: tables_1) hat d (List.mem_cons_of_mem _ hd)
  obtain ⟨i0, ei0⟩ := isL_v g3
  obtain rfl : w0 = (.long i0) := Option.some.inj ei0
  obtain ⟨i1, ei1⟩ := is_v g5
  obtain rfl : w1 = (.int i1) := Option.some.inj ei1
  obtain ⟨i2, ei2⟩ := is_v g6
  obtain rfl : w2 = (.int i2) := Option.some.inj ei2
  obtain ⟨n, o, h1, h2, h3, _, L, rfl, ⟨⟨rfl, _⟩, N⟩, hq⟩ := rm0 (l := l) hw i0 i1 i2 s.heap s.heap.size (Nat.le_refl _) tables_1 p e ha hc hk s m _ below hf ((Spec.applies_iff_loose hf).mp happ).1 ⟨rfl, State.Warmed39.refl s, rfl⟩ trivial
  refine ⟨n, _, h1, h2, h3, hpost _ _ _ _ _ _ ⟨Cond.after_iff.mpr rfl, Cond.after_iff.mpr (eq_i res_at (Term.int_eval (1)) rfl), trivial⟩ ⟨hq.1, hq.2.1, (hq.2.2.sift fun y hy => Or.inr (N y hy)).mono (by decide) (by decide)⟩⟩
theorem main_1_1 : Claimed_1_1 := comes_1 fun _ _ _ _ _ _ h hF => ⟨h.1, hF⟩
theorem main_1_2 : Claimed_1_2 := comes_1 fun _ _ _ _ _ _ h hF => ⟨h.2.1, hF⟩
end Jvm.Pilot.@@N@@
namespace Jvm.Pilot.@@N@@
open Jvm Jvm.ClassFile Sem Op Lib Jvm.Free Jvm.Stand Jvm.Pilot.@@N@@.Jvm.D
/-! MADE BY PROGRAM (witnessworld.py) out of the Statement's table words and the real class files: 11 classes; the members and pool entries that the words name. The judged class is class 1, her method 1. -/
namespace start1
open Jvm.ClassFile
def u (s : String) : CpInfo := .utf8 (stringToUtf16 s)
/-- a pool by its gaps: so many unusable entries, then the entry; so many at the end -/
def gap : Nat → List CpInfo → List CpInfo
  | 0, r => r
  | n + 1, r => .unusable :: gap n r
def poolList (es : List (Nat × CpInfo)) (last : Nat) : List CpInfo := es.foldr (fun e r => gap e.1 (e.2 :: r)) (gap last [])
def pool (es : List (Nat × CpInfo)) (last : Nat) : Array CpInfo := ⟨poolList es last⟩
def fileOf (pool : Array CpInfo) (this : Nat) (attrs : Array Attribute := #[]) (ms : Array MethodInfo := #[]) (fl : Nat := 33) (sup : Nat := 0) (ifs : Array Nat := #[]) (fds : Array FieldInfo := #[]) : ClassFile where
  minorVersion := 0
  majorVersion := 65
  constantPool := pool
  accessFlags := fl
  thisClass := this
  superClass := sup
  interfaces := ifs
  fields := fds
  methods := ms
  attributes := attrs
def plain (name : String) (sup : Option ClassId) : Class where
  name := name
  kind := .ordinary
  loader := none
  accessFlags := 33
  super := sup
  interfaces := #[]
  cf := none
  fields := #[]
  methods := #[]
  instanceTypes := #[]
  staticTypes := #[]
  resolved := #[]
  callSites := []
  init := .initialized
  statics := none
  mirror := none

def pool0 : Array CpInfo := pool [(5, u "<init>"), (0, u "()V"), (1, .class_ 10), (1, u "java/lang/Object")] 113

def k0m0 : Method := { name := "<init>", desc := "()V", sig := { parameters := [], returnType := none }, accessFlags := 1, code := none }
/-- java/lang/Object -/
def k0 : Class := { plain "java/lang/Object" none with
  accessFlags := 33
  interfaces := #[]
  cf := some (fileOf pool0 8 #[] #[{ accessFlags := 1, nameIndex := 5, descriptorIndex := 6, attributes := #[] }] 33 0 #[] #[])
  fields := #[]
  methods := #[k0m0]
  instanceTypes := #[]
  staticTypes := #[]
  resolved := Array.replicate 124 none
  statics := none }

def pool1 : Array CpInfo := pool [(2, .class_ 4), (1, u "java/lang/Object"), (0, u "<init>"), (0, u "()V"), (0, .integer 2147483647), (0, .methodref 9 10), (0, .class_ 11), (0, .nameAndType 12 13), (0, u "com/example/serobridge/serobridge/protocol/FrameChecksumOfPinLaw"), (0, u "term"), (0, u "([BIII)I"), (0, .methodref 15 16), (0, .class_ 17), (0, .nameAndType 18 19), (0, u "com/example/serobridge/serobridge/protocol/FrameChecksum"), (0, u "of"), (0, u "([BII)I"), (2, u "law"), (0, u "(JII)Z")] 5

def k1m0 : Method := { name := "<init>", desc := "()V", sig := { parameters := [], returnType := none }, accessFlags := 2, code := none }
def k1c1 : Code := { maxStack := 5, maxLocals := 9, code := code, exceptionTable := #[], attributes := #[] }
def k1m1 : Method := { name := "law", desc := "(JII)Z", sig := { parameters := [.long, .int, .int], returnType := some .boolean }, accessFlags := 9, code := some k1c1 }
def k1c2 : Code := { maxStack := 2, maxLocals := 4, code := method_3_code, exceptionTable := #[], attributes := #[] }
def k1m2 : Method := { name := "term", desc := "([BIII)I", sig := { parameters := [(.array .byte), .int, .int, .int], returnType := some .int }, accessFlags := 10, code := some k1c2 }
/-- com/example/serobridge/serobridge/protocol/FrameChecksumOfPinLaw -/
def k1 : Class := { plain "com/example/serobridge/serobridge/protocol/FrameChecksumOfPinLaw" (some 0) with
  accessFlags := 49
  interfaces := #[]
  cf := some (fileOf pool1 9 #[] #[{ accessFlags := 2, nameIndex := 5, descriptorIndex := 6, attributes := #[] }, { accessFlags := 9, nameIndex := 22, descriptorIndex := 23, attributes := #[] }, { accessFlags := 10, nameIndex := 12, descriptorIndex := 13, attributes := #[] }] 49 2 #[] #[])
  fields := #[]
  methods := #[k1m0, k1m1, k1m2]
  instanceTypes := #[]
  staticTypes := #[]
  resolved := Array.replicate 29 none
  statics := none }

def pool2 : Array CpInfo := pool [(2, .class_ 4), (1, u "java/lang/Object"), (0, u "<init>"), (0, u "()V"), (0, .methodref 8 9), (0, .class_ 10), (0, .nameAndType 11 12), (0, u "java/util/Objects"), (0, u "checkFromToIndex"), (0, u "(III)I"), (4, .class_ 19), (1, u "com/example/serobridge/serobridge/protocol/FrameChecksum"), (0, u "DIGITS"), (0, u "Ljava/util/HexFormat;"), (24, u "of"), (6, u "([BII)I")] 22

def k2m0 : Method := { name := "<init>", desc := "()V", sig := { parameters := [], returnType := none }, accessFlags := 2, code := none }
def k2c1 : Code := { maxStack := 3, maxLocals := 5, code := prog_34_method_2_code, exceptionTable := #[], attributes := #[] }
def k2m1 : Method := { name := "of", desc := "([BII)I", sig := { parameters := [(.array .byte), .int, .int], returnType := some .int }, accessFlags := 9, code := some k2c1 }
/-- com/example/serobridge/serobridge/protocol/FrameChecksum -/
def k2 : Class := { plain "com/example/serobridge/serobridge/protocol/FrameChecksum" (some 0) with
  accessFlags := 49
  interfaces := #[]
  cf := some (fileOf pool2 17 #[] #[{ accessFlags := 2, nameIndex := 5, descriptorIndex := 6, attributes := #[] }, { accessFlags := 9, nameIndex := 46, descriptorIndex := 53, attributes := #[] }] 49 2 #[] #[{ accessFlags := 26, nameIndex := 20, descriptorIndex := 21, attributes := #[] }])
  fields := #[{ name := "DIGITS", type := (.object "java/util/HexFormat"), accessFlags := 26, slot := 0, constantValue := 0 }]
  methods := #[k2m0, k2m1]
  instanceTypes := #[]
  staticTypes := #[(.object "java/util/HexFormat")]
  resolved := Array.replicate 76 none
  statics := none }

def pool3 : Array CpInfo := pool [(2, .class_ 4), (1, u "java/lang/Object"), (0, u "<init>"), (0, u "()V"), (35, .class_ 44), (1, u "java/util/Objects"), (61, .class_ 108), (1, u "jdk/internal/util/Preconditions"), (2, .methodref 106 112), (0, .nameAndType 113 114), (0, u "checkFromToIndex"), (0, u "(IIILjava/util/function/BiFunction;)I"), (60, u "(III)I")] 8

def k3m0 : Method := { name := "<init>", desc := "()V", sig := { parameters := [], returnType := none }, accessFlags := 2, code := none }
def k3c1 : Code := { maxStack := 4, maxLocals := 3, code := jdk_31_method_18_code, exceptionTable := #[], attributes := #[] }
def k3m1 : Method := { name := "checkFromToIndex", desc := "(III)I", sig := { parameters := [.int, .int, .int], returnType := some .int }, accessFlags := 9, code := some k3c1 }
/-- java/util/Objects -/
def k3 : Class := { plain "java/util/Objects" (some 0) with
  accessFlags := 49
  interfaces := #[]
  cf := some (fileOf pool3 42 #[] #[{ accessFlags := 2, nameIndex := 5, descriptorIndex := 6, attributes := #[] }, { accessFlags := 9, nameIndex := 113, descriptorIndex := 175, attributes := #[] }] 49 2 #[] #[])
  fields := #[]
  methods := #[k3m0, k3m1]
  instanceTypes := #[]
  staticTypes := #[]
  resolved := Array.replicate 184 none
  statics := none }

def pool4 : Array CpInfo := pool [(2, .class_ 4), (1, u "java/lang/Object"), (0, u "<init>"), (0, u "()V"), (17, .class_ 26), (1, u "jdk/internal/util/Preconditions"), (20, u "checkFromToIndex"), (7, .class_ 56), (0, u "jdk/internal/util/Preconditions$4"), (57, .class_ 115), (0, u "jdk/internal/util/Preconditions$1"), (7, u "SIOOBE_FORMATTER"), (0, u "Ljava/util/function/BiFunction;"), (0, .class_ 126), (0, u "jdk/internal/util/Preconditions$2"), (3, u "AIOOBE_FORMATTER"), (0, .class_ 132), (0, u "jdk/internal/util/Preconditions$3"), (3, u "IOOBE_FORMATTER"), (46, u "(IIILjava/util/function/BiFunction;)I")] 10

def k4m0 : Method := { name := "<init>", desc := "()V", sig := { parameters := [], returnType := none }, accessFlags := 1, code := none }
def k4c1 : Code := { maxStack := 4, maxLocals := 4, code := jdk_41_method_12_code, exceptionTable := #[], attributes := #[] }
def k4m1 : Method := { name := "checkFromToIndex", desc := "(IIILjava/util/function/BiFunction;)I", sig := { parameters := [.int, .int, .int, (.object "java/util/function/BiFunction")], returnType := some .int }, accessFlags := 9, code := some k4c1 }
/-- jdk/internal/util/Preconditions -/
def k4 : Class := { plain "jdk/internal/util/Preconditions" (some 0) with
  accessFlags := 33
  interfaces := #[]
  cf := some (fileOf pool4 24 #[.nestMembers #[55, 131, 125, 114]] #[{ accessFlags := 1, nameIndex := 5, descriptorIndex := 6, attributes := #[] }, { accessFlags := 9, nameIndex := 47, descriptorIndex := 183, attributes := #[] }] 33 2 #[] #[{ accessFlags := 25, nameIndex := 123, descriptorIndex := 124, attributes := #[] }, { accessFlags := 25, nameIndex := 130, descriptorIndex := 124, attributes := #[] }, { accessFlags := 25, nameIndex := 136, descriptorIndex := 124, attributes := #[] }])
  fields := #[{ name := "SIOOBE_FORMATTER", type := (.object "java/util/function/BiFunction"), accessFlags := 25, slot := 0, constantValue := 0 }, { name := "AIOOBE_FORMATTER", type := (.object "java/util/function/BiFunction"), accessFlags := 25, slot := 1, constantValue := 0 }, { name := "IOOBE_FORMATTER", type := (.object "java/util/function/BiFunction"), accessFlags := 25, slot := 2, constantValue := 0 }]
  methods := #[k4m0, k4m1]
  instanceTypes := #[]
  staticTypes := #[(.object "java/util/function/BiFunction"), (.object "java/util/function/BiFunction"), (.object "java/util/function/BiFunction")]
  resolved := Array.replicate 194 none
  statics := none }

def pool5 : Array CpInfo := pool [(1, u "java/lang/Cloneable"), (0, .class_ 1), (0, u "java/lang/Object"), (0, .class_ 3)] 3

/-- java/lang/Cloneable -/
def k5 : Class := { plain "java/lang/Cloneable" (some 0) with
  accessFlags := 1537
  interfaces := #[]
  cf := some (fileOf pool5 2 #[] #[] 1537 4 #[] #[])
  fields := #[]
  methods := #[]
  instanceTypes := #[]
  staticTypes := #[]
  resolved := Array.replicate 8 none
  statics := none }

def pool6 : Array CpInfo := pool [(1, u "java/io/Serializable"), (0, .class_ 1), (0, u "java/lang/Object"), (0, .class_ 3)] 3

/-- java/io/Serializable -/
def k6 : Class := { plain "java/io/Serializable" (some 0) with
  accessFlags := 1537
  interfaces := #[]
  cf := some (fileOf pool6 2 #[] #[] 1537 4 #[] #[])
  fields := #[]
  methods := #[]
  instanceTypes := #[]
  staticTypes := #[]
  resolved := Array.replicate 8 none
  statics := none }

/-- the primitive byte -/
def k7 : Class := { plain "byte" none with kind := .primitive 'B', accessFlags := 0x411 }
/-- [B -/
def k8 : Class := { plain "[B" (some 0) with kind := .array 7 .byte, interfaces := #[5, 6], accessFlags := 1041 }

/-- the primitive int -/
def k9 : Class := { plain "int" none with kind := .primitive 'I', accessFlags := 0x411 }
/-- [I -/
def k10 : Class := { plain "[I" (some 0) with kind := .array 9 .int, interfaces := #[5, 6], accessFlags := 1041 }

def heap : Heap := #[]
def classes : Array Class := #[k0, k1, k2, k3, k4, k5, k6, k7, k8, k9, k10]
def interned : List (Array UInt16 × Addr) := []
def slotsUsed : Nat := 0
def theMethod : MethodId := ⟨1, 1⟩
def args0 : Array Value := #[.long 650000, .int 1, .int 3]
def aboutOver (below : List Frame) : State where
  vm := { classes := classes, interned := interned.toArray }
  heap := heap
  slotsUsed := slotsUsed
  threads := #[{ frames := .invoking theMethod args0 :: below }]
def below0 : List Frame := [.native { method := ⟨0, 0⟩, args := #[] }]
def about1 : State := aboutOver below0
def p0 : Program := .bare "" "" ""
def e0 : Env := launch0.env 0 0 0
theorem w_frames : about1.frames = Frame.invoking theMethod args0 :: below0 := rfl
set_option maxRecDepth 65536 in
theorem w_args : argsFit about1.vm theMethod args0 = true := by decide +kernel
set_option maxRecDepth 65536 in
theorem w_heap : heapFits about1 = true := by decide +kernel
set_option maxRecDepth 65536 in
theorem w_runnable : about1.curStatus? = some .runnable := by decide +kernel
set_option maxRecDepth 65536 in
theorem w_alone : about1.alone = true := by decide +kernel
set_option maxRecDepth 65536 in
theorem w_named : about1.methodNamed? x = some theMethod := by decide +kernel
set_option maxRecDepth 65536 in
theorem w_hears : about1.hears theMethod below0 = true := by decide +kernel
set_option maxRecDepth 65536 in
theorem w_ripe : about1.ripe theMethod args0 below0 = true := by decide +kernel
theorem w_running : about1.status = .running := rfl
set_option maxRecDepth 65536 in
theorem w_room : about1.hasRoom e0.platform room_1 = true :=
  launch0.hasRoom_least _ room_1 (by decide +kernel) (by decide +kernel) (by decide +kernel) (by decide +kernel) (by decide +kernel) (by decide +kernel)
theorem allAtoms_all (ts : List Jvm.Cond) (a : Array Jvm.Value) (st : Jvm.State) : (allAtoms ts).before a st = ts.all (fun c => c.before a st) := by
  induction ts with
  | nil => rfl
  | cons c t ih =>
    show (Jvm.Cond.and c (allAtoms t)).before a st = _
    rw [Jvm.Cond.before_and, ih, List.all_cons]
def words1 : List Jvm.Cond := Jvm.Cond.code x code maxLocals ret :: tables_1
/-- a 'code' word, met by the world's own term for the bytes: nothing is compared byte by byte -/
theorem code_word {y : MethodName} {bytes : ByteArray} {mx : Nat} {rt : Option FieldType} {a : Array Value} {s : State} {m : MethodId} {meth : Method} {c : Code} (h1 : s.methodNamed? y = some m) (h2 : s.vm.method? m = some meth) (h3 : meth.code = some c) (h4 : c.code = bytes)
    (h5 : (c.maxLocals == mx && c.exceptionTable.isEmpty && decide (c.maxStack ≤ mostOperands) && decide (meth.sig.returnType = rt) && !meth.locks && decide (parseMethodDescriptor y.desc = some meth.sig)) = true) : (Jvm.Cond.code y bytes mx rt).before a s = true := by
  simp only [Bool.and_eq_true, beq_iff_eq, Bool.not_eq_true', decide_eq_true_eq] at h5
  obtain ⟨⟨⟨⟨⟨g1, g2⟩, g3⟩, g4⟩, g5⟩, g6⟩ := h5
  simp [Cond.before, Cond.holds, Cond.value, h1, h2, h3, h4, g1, g2, g3, g4, g5, g6]
def isCode : Jvm.Cond → Bool
  | .code _ _ _ _ => true
  | _ => false
theorem all_split {L : List Jvm.Cond} {P : Jvm.Cond → Bool} (h1 : L.all (fun c => isCode c || P c) = true) (h2 : ∀ c ∈ L.filter isCode, P c = true) : L.all P = true := by
  refine List.all_eq_true.mpr fun c hc => ?_
  have h := List.all_eq_true.mp h1 c hc
  rcases Bool.eq_false_or_eq_true (isCode c) with hi | hi
  · exact h2 c (List.mem_filter.mpr ⟨hc, hi⟩)
  · simpa [hi] using h
set_option maxRecDepth 65536 in
theorem w_c0 : (Jvm.Cond.code x code maxLocals ret).before args0 about1 = true := code_word (m := ⟨1, 1⟩) (meth := k1m1) (c := k1c1) (by decide +kernel) rfl rfl rfl (by decide +kernel)
set_option maxRecDepth 65536 in
theorem w_c1 : (Jvm.Cond.code ({ cls := "com/example/serobridge/serobridge/protocol/FrameChecksumOfPinLaw", name := "term", desc := "([BIII)I" } : Jvm.MethodName) method_3_code (4 : Nat) (Option.some Jvm.ClassFile.FieldType.int)).before args0 about1 = true := code_word (m := ⟨1, 2⟩) (meth := k1m2) (c := k1c2) (by decide +kernel) rfl rfl rfl (by decide +kernel)
set_option maxRecDepth 65536 in
theorem w_c2 : (Jvm.Cond.code ({ cls := "com/example/serobridge/serobridge/protocol/FrameChecksum", name := "of", desc := "([BII)I" } : Jvm.MethodName) prog_34_method_2_code (5 : Nat) (Option.some Jvm.ClassFile.FieldType.int)).before args0 about1 = true := code_word (m := ⟨2, 1⟩) (meth := k2m1) (c := k2c1) (by decide +kernel) rfl rfl rfl (by decide +kernel)
set_option maxRecDepth 65536 in
theorem w_c3 : (Jvm.Cond.code ({ cls := "java/util/Objects", name := "checkFromToIndex", desc := "(III)I" } : Jvm.MethodName) jdk_31_method_18_code (3 : Nat) (Option.some Jvm.ClassFile.FieldType.int)).before args0 about1 = true := code_word (m := ⟨3, 1⟩) (meth := k3m1) (c := k3c1) (by decide +kernel) rfl rfl rfl (by decide +kernel)
set_option maxRecDepth 65536 in
theorem w_c4 : (Jvm.Cond.code ({ cls := "jdk/internal/util/Preconditions", name := "checkFromToIndex", desc := "(IIILjava/util/function/BiFunction;)I" } : Jvm.MethodName) jdk_41_method_12_code (4 : Nat) (Option.some Jvm.ClassFile.FieldType.int)).before args0 about1 = true := code_word (m := ⟨4, 1⟩) (meth := k4m1) (c := k4c1) (by decide +kernel) rfl rfl rfl (by decide +kernel)
def codes1 : List Jvm.Cond := [Jvm.Cond.code x code maxLocals ret, Jvm.Cond.code ({ cls := "com/example/serobridge/serobridge/protocol/FrameChecksumOfPinLaw", name := "term", desc := "([BIII)I" } : Jvm.MethodName) method_3_code (4 : Nat) (Option.some Jvm.ClassFile.FieldType.int), Jvm.Cond.code ({ cls := "com/example/serobridge/serobridge/protocol/FrameChecksum", name := "of", desc := "([BII)I" } : Jvm.MethodName) prog_34_method_2_code (5 : Nat) (Option.some Jvm.ClassFile.FieldType.int), Jvm.Cond.code ({ cls := "java/util/Objects", name := "checkFromToIndex", desc := "(III)I" } : Jvm.MethodName) jdk_31_method_18_code (3 : Nat) (Option.some Jvm.ClassFile.FieldType.int), Jvm.Cond.code ({ cls := "jdk/internal/util/Preconditions", name := "checkFromToIndex", desc := "(IIILjava/util/function/BiFunction;)I" } : Jvm.MethodName) jdk_41_method_12_code (4 : Nat) (Option.some Jvm.ClassFile.FieldType.int)]
set_option maxRecDepth 65536 in
theorem codes_eq : words1.filter isCode = codes1 := rfl
theorem w_codes : ∀ c ∈ words1.filter isCode, c.before args0 about1 = true := by
  rw [codes_eq]
  intro c hc
  simp only [codes1, List.mem_cons, List.not_mem_nil, or_false] at hc
  rcases hc with rfl | rfl | rfl | rfl | rfl
  · exact w_c0
  · exact w_c1
  · exact w_c2
  · exact w_c3
  · exact w_c4
set_option maxRecDepth 65536 in
theorem w_t1 : words1.all (fun c => isCode c || c.before args0 about1) = true := by decide +kernel
theorem w_tables : (allAtoms (Jvm.Cond.code x code maxLocals ret :: tables_1)).before args0 about1 = true := by
  rw [allAtoms_all]
  show words1.all (fun c => c.before args0 about1) = true
  refine all_split ?_ w_codes
  rw [w_t1]
set_option maxRecDepth 65536 in
theorem w_case : (Jvm.Cond.and given_1 narrow_1).before args0 about1 = true := by decide +kernel
theorem w_applies : (headSpec (Jvm.Cond.code x code maxLocals ret :: tables_1) room_1).applies x e0.platform about1 = true :=
  (Spec.applies_iff w_frames).mpr ⟨w_running, w_runnable, w_alone, w_named, w_hears, w_ripe, w_room, w_tables⟩
theorem atStart : AtStart classFile x code maxLocals ret World_1 tables_1 room_1 Calls_1 rest_1 Pre_1 launch0 p0 e0 about1 theMethod args0 below0 :=
  ⟨lists_1, trivial, launch0.admits_env _ _ _, launch0.least_env, fairChoices_fair.cas, fairChoices_fair.clock, w_frames, w_args, w_heap, w_applies, trivial, trivial, w_case⟩
end start1
theorem witness_1 : WitnessClaimed_1 := ⟨start1.p0, start1.e0, start1.about1, start1.theMethod, start1.args0, start1.below0, start1.atStart⟩
end Jvm.Pilot.@@N@@
