import JvmDerived
import JvmDerived.Pilot.@@N@@Statement
import JvmDerived.Pilot.@@N@@Code
set_option linter.unusedVariables false
set_option linter.unusedSimpArgs false
namespace Jvm.Own
open Sem ClassFile Op Lib Jvm.Stand Jvm.Free Jvm.LawKit Jvm.RoadKit
section Layer
variable {p : Program} {l : Launch} {e : Env} {R : Room} {s : State} {m : MethodId} {args : Array Value} {below : List Frame} {meth : Method} {c : Code} {Z : State} {own nm : String} {bytes : ByteArray} {maxL : Nat} {ret : Option FieldType} {n0 : Nat} {EE : Outcome → State → Prop} {h : Heap} {k n : Nat} {a0 : Array Value} {pc : Nat} {ls : Array Slot} {st : List Value}
def Cx (p : Program) (s : State) (m : MethodId) (meth : Method) (c : Code) (Z : State) (own nm : String) (bytes : ByteArray) (maxL : Nat) (ret : Option FieldType) (n0 : Nat) : Prop :=
  p.tables.exec = Jvm.exec ∧ c.code = bytes ∧ c.maxLocals = maxL ∧ s.vm.findClass own = some m.cls ∧ meth.name = nm ∧ Z.Warmed39 s.vm ∧ meth.sig.returnType = ret ∧ meth.locks = false ∧ n0 ≤ s.heap.size
def EndN (s : State) (n0 : Nat) (Q : Option Value → Heap → Prop) (K N : Nat) (o : Outcome) (t : State) : Prop := ∃ v L, o = .returned v ∧ (Q v t.heap ∧ Fr n0 L) ∧ FrameEnd s o t L K N
def Run (p : Program) (l : Launch) (e : Env) (R : Room) (s : State) (m : MethodId) (args : Array Value) (below : List Frame) (meth : Method) (c : Code) (Z : State) (own nm : String) (bytes : ByteArray) (maxL : Nat) (ret : Option FieldType) (n0 : Nat) (EE : Outcome → State → Prop) (h : Heap) (k n : Nat) (g : JFrame) : Prop :=
  Cx p s m meth c Z own nm bytes maxL ret n0 → ∀ (T : State) (locs : List Loc), Stand p l e R s m args below meth c T locs k n → Fr n0 locs → T.heap = h →
    ∃ s₂ o, Steps p.tables e below (T.setTop g) s₂ ∧ s₂.status = .running ∧ Ended s₂ below o ∧ EE o s₂
/-- a callee's contract: from heap h with the arguments as it returns with what Q says, nothing older than n0 written -/
def Pays (l : Launch) (Z : State) (y : MethodName) (bytes : ByteArray) (maxL : Nat) (ret : Option FieldType) (rm : Room) (as' : Array Value) (h : Heap) (n0 : Nat) (Q : Option Value → Heap → Prop) : Prop :=
  ∀ ws : List Jvm.Cond, MetFree l y (head1 (Jvm.Cond.code y bytes maxL ret :: ws) rm) (fun a U => a = as' ∧ Z.Warmed39 U.vm ∧ U.heap = h) (fun _ _ _ _ _ => True) (fun _ U o U' => ∃ v L, o = .returned v ∧ (Q v U'.heap ∧ Fr n0 L) ∧ FrameEnd U o U' L rm.cells rm.slots)
theorem Pays.of {Q : Option Value → Heap → Prop} {y : MethodName} {rm : Room} {as' : Array Value} (hpl : plainFor y = true) (ef : ∀ m, entryFrame m as' maxL = mkF m 0 ls []) (hn0 : n0 ≤ h.size)
    (body : ∀ p e s m below meth c, Run p l e rm s m as' below meth c Z y.cls y.name bytes maxL ret n0 (EndN s n0 Q rm.cells rm.slots) h 0 0 (mkF m 0 ls [])) : Pays l Z y bytes maxL ret rm as' h n0 Q := fun ws => by
  refine MetFree.of_bodySF hpl hisR ?_
  intro p e s m args below meth c s₁ Bd hml0 hP hK
  obtain ⟨rfl, hZ, hh⟩ := hP
  have hown : s.vm.findClass y.cls = some m.cls := findClass_of_methodNamed Bd.named
  have hnm := (name_of_methodNamed Bd.named Bd.method).1
  have e0 : s₁.heap = h := by rw [← hh, Bd.state]; rfl
  have q := body p e s m below meth c ⟨Bd.exec, Bd.bytes, hml0, hown, hnm, hZ, Bd.returns, Bd.notSynchronized, by rw [hh]; exact hn0⟩ s₁ [] (Stand.of_body Bd) (Fr.nil n0) e0
  obtain ⟨s₂, o, q1, q2⟩ := q
  exact ⟨s₂, o, castTop (ef m) q1, q2⟩
theorem Run.sz {g : JFrame} (hr : n0 ≤ h.size → Run p l e R s m args below meth c Z own nm bytes maxL ret n0 EE h k n g) : Run p l e R s m args below meth c Z own nm bytes maxL ret n0 EE h k n g := fun C T locs X F E =>
  hr (by subst E; exact Nat.le_trans C.2.2.2.2.2.2.2.2 X.same.2.1) C T locs X F E
theorem Run.step {g g' : JFrame} (hs : ∀ T target, p.tables.exec = Jvm.exec → c.code = bytes → At T m c below → Steps p.tables e below (T.setTop g') target → Steps p.tables e below (T.setTop g) target) (hr : Run p l e R s m args below meth c Z own nm bytes maxL ret n0 EE h k n g') : Run p l e R s m args below meth c Z own nm bytes maxL ret n0 EE h k n g := fun C T locs X F E => by
  obtain ⟨s₂, o, q1, q2⟩ := hr C T locs X F E
  exact ⟨s₂, o, hs T s₂ C.1 C.2.1 X.here q1, q2⟩
theorem Run.cut {g : JFrame} (g' : JFrame) (hj : Run p l e R s m args below meth c Z own nm bytes maxL ret n0 EE h k n g') (hr : Run p l e R s m args below meth c Z own nm bytes maxL ret n0 EE h k n g' → Run p l e R s m args below meth c Z own nm bytes maxL ret n0 EE h k n g) : Run p l e R s m args below meth c Z own nm bytes maxL ret n0 EE h k n g := hr hj
theorem Run.cast {g g' : JFrame} (q : g = g') (hr : Run p l e R s m args below meth c Z own nm bytes maxL ret n0 EE h k n g') : Run p l e R s m args below meth c Z own nm bytes maxL ret n0 EE h k n g := q ▸ hr

theorem Run.aloadN {i : Fin 4} {v : Value} (q : Nat) (hd : decode bytes pc = .ok (.aload_n i, 1)) (hl : ls[i.val]? = some (.val v)) (hr : Run p l e R s m args below meth c Z own nm bytes maxL ret n0 EE h k n (mkF m q ls (v :: st))) (hv : v.isRef = true := by rfl) (hq : q = pc + 1 := by rfl) : Run p l e R s m args below meth c Z own nm bytes maxL ret n0 EE h k n (mkF m pc ls st) := by
  subst hq; exact Run.step (fun T t hx hb A z => XS.aloadN A hx rfl (hb ▸ hd) hl hv z) hr
theorem Run.aload {i : Nat} {v : Value} (q : Nat) (hd : decode bytes pc = .ok (.aload i, 2)) (hl : ls[i]? = some (.val v)) (hr : Run p l e R s m args below meth c Z own nm bytes maxL ret n0 EE h k n (mkF m q ls (v :: st))) (hv : v.isRef = true := by rfl) (hq : q = pc + 2 := by rfl) : Run p l e R s m args below meth c Z own nm bytes maxL ret n0 EE h k n (mkF m pc ls st) := by
  subst hq; exact Run.step (fun T t hx hb A z => XS.aload A hx rfl (hb ▸ hd) hl hv z) hr
theorem Run.iloadN {i : Fin 4} {v : Int32} (q : Nat) (hd : decode bytes pc = .ok (.iload_n i, 1)) (hl : ls[i.val]? = some (.val (.int v))) (hr : Run p l e R s m args below meth c Z own nm bytes maxL ret n0 EE h k n (mkF m q ls (.int v :: st))) (hq : q = pc + 1 := by rfl) : Run p l e R s m args below meth c Z own nm bytes maxL ret n0 EE h k n (mkF m pc ls st) := by
  subst hq; exact Run.step (fun T t hx hb A z => XS.iloadN A hx rfl (hb ▸ hd) hl z) hr
theorem Run.iload {i : Nat} {v : Int32} (q : Nat) (hd : decode bytes pc = .ok (.iload i, 2)) (hl : ls[i]? = some (.val (.int v))) (hr : Run p l e R s m args below meth c Z own nm bytes maxL ret n0 EE h k n (mkF m q ls (.int v :: st))) (hq : q = pc + 2 := by rfl) : Run p l e R s m args below meth c Z own nm bytes maxL ret n0 EE h k n (mkF m pc ls st) := by
  subst hq; exact Run.step (fun T t hx hb A z => XS.iload A hx rfl (hb ▸ hd) hl z) hr
theorem Run.lloadN {i : Fin 4} {v : Int64} (q : Nat) (hd : decode bytes pc = .ok (.lload_n i, 1)) (hl : ls[i.val]? = some (.val (.long v))) (hr : Run p l e R s m args below meth c Z own nm bytes maxL ret n0 EE h k n (mkF m q ls (.long v :: st))) (hq : q = pc + 1 := by rfl) : Run p l e R s m args below meth c Z own nm bytes maxL ret n0 EE h k n (mkF m pc ls st) := by
  subst hq; exact Run.step (fun T t hx hb A z => XS.lloadN A hx rfl (hb ▸ hd) hl z) hr
theorem Run.lload {i : Nat} {v : Int64} (q : Nat) (hd : decode bytes pc = .ok (.lload i, 2)) (hl : ls[i]? = some (.val (.long v))) (hr : Run p l e R s m args below meth c Z own nm bytes maxL ret n0 EE h k n (mkF m q ls (.long v :: st))) (hq : q = pc + 2 := by rfl) : Run p l e R s m args below meth c Z own nm bytes maxL ret n0 EE h k n (mkF m pc ls st) := by
  subst hq; exact Run.step (fun T t hx hb A z => XS.lload A hx rfl (hb ▸ hd) hl z) hr
theorem Run.istoreN {i : Fin 4} {x : Int32} (q : Nat) (ls' : Array Slot) (hd : decode bytes pc = .ok (.istore_n i, 1)) (hr : Run p l e R s m args below meth c Z own nm bytes maxL ret n0 EE h k n (mkF m q ls' st)) (hl : storeLocals ls i.val (.int x) = some ls' := by rfl) (hq : q = pc + 1 := by rfl) : Run p l e R s m args below meth c Z own nm bytes maxL ret n0 EE h k n (mkF m pc ls (.int x :: st)) := by
  subst hq; exact Run.step (fun T t hx hb A z => XS.istoreN A hx rfl (hb ▸ hd) rfl hl z) hr
theorem Run.istore {i : Nat} {x : Int32} (q : Nat) (ls' : Array Slot) (hd : decode bytes pc = .ok (.istore i, 2)) (hr : Run p l e R s m args below meth c Z own nm bytes maxL ret n0 EE h k n (mkF m q ls' st)) (hl : storeLocals ls i (.int x) = some ls' := by rfl) (hq : q = pc + 2 := by rfl) : Run p l e R s m args below meth c Z own nm bytes maxL ret n0 EE h k n (mkF m pc ls (.int x :: st)) := by
  subst hq; exact Run.step (fun T t hx hb A z => XS.istore A hx rfl (hb ▸ hd) rfl hl z) hr
theorem Run.lstoreN {i : Fin 4} {x : Int64} (q : Nat) (ls' : Array Slot) (hd : decode bytes pc = .ok (.lstore_n i, 1)) (hr : Run p l e R s m args below meth c Z own nm bytes maxL ret n0 EE h k n (mkF m q ls' st)) (hl : storeLocals ls i.val (.long x) = some ls' := by rfl) (hq : q = pc + 1 := by rfl) : Run p l e R s m args below meth c Z own nm bytes maxL ret n0 EE h k n (mkF m pc ls (.long x :: st)) := by
  subst hq; exact Run.step (fun T t hx hb A z => XS.lstoreN A hx rfl (hb ▸ hd) rfl hl z) hr
theorem Run.lstore {i : Nat} {x : Int64} (q : Nat) (ls' : Array Slot) (hd : decode bytes pc = .ok (.lstore i, 2)) (hr : Run p l e R s m args below meth c Z own nm bytes maxL ret n0 EE h k n (mkF m q ls' st)) (hl : storeLocals ls i (.long x) = some ls' := by rfl) (hq : q = pc + 2 := by rfl) : Run p l e R s m args below meth c Z own nm bytes maxL ret n0 EE h k n (mkF m pc ls (.long x :: st)) := by
  subst hq; exact Run.step (fun T t hx hb A z => XS.lstore A hx rfl (hb ▸ hd) rfl hl z) hr
theorem Run.astoreN {i : Fin 4} {x : Value} (q : Nat) (ls' : Array Slot) (hd : decode bytes pc = .ok (.astore_n i, 1)) (hr : Run p l e R s m args below meth c Z own nm bytes maxL ret n0 EE h k n (mkF m q ls' st)) (hv : x.isRef = true := by rfl) (hl : storeLocals ls i.val x = some ls' := by rfl) (hq : q = pc + 1 := by rfl) : Run p l e R s m args below meth c Z own nm bytes maxL ret n0 EE h k n (mkF m pc ls (x :: st)) := by
  subst hq; exact Run.step (fun T t hx hb A z => XS.astoreN A hx rfl (hb ▸ hd) rfl hv hl z) hr
theorem Run.astore {i : Nat} {x : Value} (q : Nat) (ls' : Array Slot) (hd : decode bytes pc = .ok (.astore i, 2)) (hr : Run p l e R s m args below meth c Z own nm bytes maxL ret n0 EE h k n (mkF m q ls' st)) (hv : x.isRef = true := by rfl) (hl : storeLocals ls i x = some ls' := by rfl) (hq : q = pc + 2 := by rfl) : Run p l e R s m args below meth c Z own nm bytes maxL ret n0 EE h k n (mkF m pc ls (x :: st)) := by
  subst hq; exact Run.step (fun T t hx hb A z => XS.astore A hx rfl (hb ▸ hd) rfl hv hl z) hr
theorem Run.iconst {i : Int} (x : Int32) (q : Nat) (hd : decode bytes pc = .ok (.iconst i, 1)) (hr : Run p l e R s m args below meth c Z own nm bytes maxL ret n0 EE h k n (mkF m q ls (.int x :: st))) (hv : Int32.ofInt i = x := by first | rfl | decide) (hq : q = pc + 1 := by rfl) : Run p l e R s m args below meth c Z own nm bytes maxL ret n0 EE h k n (mkF m pc ls st) := by
  subst hq hv; exact Run.step (fun T t hx hb A z => XS.iconst A hx rfl (hb ▸ hd) z) hr
theorem Run.bipush {i : Int} (x : Int32) (q : Nat) (hd : decode bytes pc = .ok (.bipush i, 2)) (hr : Run p l e R s m args below meth c Z own nm bytes maxL ret n0 EE h k n (mkF m q ls (.int x :: st))) (hv : (Int8.ofInt i).toInt32 = x := by first | rfl | decide) (hq : q = pc + 2 := by rfl) : Run p l e R s m args below meth c Z own nm bytes maxL ret n0 EE h k n (mkF m pc ls st) := by
  subst hq hv; exact Run.step (fun T t hx hb A z => XS.bipush A hx rfl (hb ▸ hd) z) hr
theorem Run.sipush {i : Int} (x : Int32) (q : Nat) (hd : decode bytes pc = .ok (.sipush i, 3)) (hr : Run p l e R s m args below meth c Z own nm bytes maxL ret n0 EE h k n (mkF m q ls (.int x :: st))) (hv : (Int16.ofInt i).toInt32 = x := by first | rfl | decide) (hq : q = pc + 3 := by rfl) : Run p l e R s m args below meth c Z own nm bytes maxL ret n0 EE h k n (mkF m pc ls st) := by
  subst hq hv; exact Run.step (fun T t hx hb A z => XS.sipush A hx rfl (hb ▸ hd) z) hr
theorem Run.lconst {i : Fin 2} (x : Int64) (q : Nat) (hd : decode bytes pc = .ok (.lconst i, 1)) (hr : Run p l e R s m args below meth c Z own nm bytes maxL ret n0 EE h k n (mkF m q ls (.long x :: st))) (hv : Int64.ofNat i = x := by first | rfl | decide) (hq : q = pc + 1 := by rfl) : Run p l e R s m args below meth c Z own nm bytes maxL ret n0 EE h k n (mkF m pc ls st) := by
  subst hq hv; exact Run.step (fun T t hx hb A z => XS.lconst A hx rfl (hb ▸ hd) z) hr
theorem Run.aconstNull (q : Nat) (hd : decode bytes pc = .ok (.aconst_null, 1)) (hr : Run p l e R s m args below meth c Z own nm bytes maxL ret n0 EE h k n (mkF m q ls (.null :: st))) (hq : q = pc + 1 := by rfl) : Run p l e R s m args below meth c Z own nm bytes maxL ret n0 EE h k n (mkF m pc ls st) := by
  subst hq; exact Run.step (fun T t hx hb A z => XS.aconstNull A hx rfl (hb ▸ hd) z) hr
theorem Run.iadd {x y : Int32} (w : Int32) (q : Nat) (hd : decode bytes pc = .ok (.iadd, 1)) (hr : Run p l e R s m args below meth c Z own nm bytes maxL ret n0 EE h k n (mkF m q ls (.int w :: st))) (hv : x + y = w := by rfl) (hq : q = pc + 1 := by rfl) : Run p l e R s m args below meth c Z own nm bytes maxL ret n0 EE h k n (mkF m pc ls (.int y :: .int x :: st)) := by
  subst hq hv; exact Run.step (fun T t hx hb A z => XS.iadd A hx rfl (hb ▸ hd) rfl z) hr
theorem Run.isub {x y : Int32} (w : Int32) (q : Nat) (hd : decode bytes pc = .ok (.isub, 1)) (hr : Run p l e R s m args below meth c Z own nm bytes maxL ret n0 EE h k n (mkF m q ls (.int w :: st))) (hv : x - y = w := by rfl) (hq : q = pc + 1 := by rfl) : Run p l e R s m args below meth c Z own nm bytes maxL ret n0 EE h k n (mkF m pc ls (.int y :: .int x :: st)) := by
  subst hq hv; exact Run.step (fun T t hx hb A z => XS.isub A hx rfl (hb ▸ hd) rfl z) hr
theorem Run.imul {x y : Int32} (w : Int32) (q : Nat) (hd : decode bytes pc = .ok (.imul, 1)) (hr : Run p l e R s m args below meth c Z own nm bytes maxL ret n0 EE h k n (mkF m q ls (.int w :: st))) (hv : x * y = w := by rfl) (hq : q = pc + 1 := by rfl) : Run p l e R s m args below meth c Z own nm bytes maxL ret n0 EE h k n (mkF m pc ls (.int y :: .int x :: st)) := by
  subst hq hv; exact Run.step (fun T t hx hb A z => XS.imul A hx rfl (hb ▸ hd) rfl z) hr
theorem Run.iand {x y : Int32} (w : Int32) (q : Nat) (hd : decode bytes pc = .ok (.iand, 1)) (hr : Run p l e R s m args below meth c Z own nm bytes maxL ret n0 EE h k n (mkF m q ls (.int w :: st))) (hv : x &&& y = w := by rfl) (hq : q = pc + 1 := by rfl) : Run p l e R s m args below meth c Z own nm bytes maxL ret n0 EE h k n (mkF m pc ls (.int y :: .int x :: st)) := by
  subst hq hv; exact Run.step (fun T t hx hb A z => XS.iand A hx rfl (hb ▸ hd) rfl z) hr
theorem Run.ior {x y : Int32} (w : Int32) (q : Nat) (hd : decode bytes pc = .ok (.ior, 1)) (hr : Run p l e R s m args below meth c Z own nm bytes maxL ret n0 EE h k n (mkF m q ls (.int w :: st))) (hv : x ||| y = w := by rfl) (hq : q = pc + 1 := by rfl) : Run p l e R s m args below meth c Z own nm bytes maxL ret n0 EE h k n (mkF m pc ls (.int y :: .int x :: st)) := by
  subst hq hv; exact Run.step (fun T t hx hb A z => XS.ior A hx rfl (hb ▸ hd) rfl z) hr
theorem Run.ixor {x y : Int32} (w : Int32) (q : Nat) (hd : decode bytes pc = .ok (.ixor, 1)) (hr : Run p l e R s m args below meth c Z own nm bytes maxL ret n0 EE h k n (mkF m q ls (.int w :: st))) (hv : x ^^^ y = w := by rfl) (hq : q = pc + 1 := by rfl) : Run p l e R s m args below meth c Z own nm bytes maxL ret n0 EE h k n (mkF m pc ls (.int y :: .int x :: st)) := by
  subst hq hv; exact Run.step (fun T t hx hb A z => XS.ixor A hx rfl (hb ▸ hd) rfl z) hr
theorem Run.ishl {x y : Int32} (w : Int32) (q : Nat) (hd : decode bytes pc = .ok (.ishl, 1)) (hr : Run p l e R s m args below meth c Z own nm bytes maxL ret n0 EE h k n (mkF m q ls (.int w :: st))) (hv : x <<< (y &&& 31) = w := by rfl) (hq : q = pc + 1 := by rfl) : Run p l e R s m args below meth c Z own nm bytes maxL ret n0 EE h k n (mkF m pc ls (.int y :: .int x :: st)) := by
  subst hq hv; exact Run.step (fun T t hx hb A z => XS.ishl A hx rfl (hb ▸ hd) rfl z) hr
theorem Run.ishr {x y : Int32} (w : Int32) (q : Nat) (hd : decode bytes pc = .ok (.ishr, 1)) (hr : Run p l e R s m args below meth c Z own nm bytes maxL ret n0 EE h k n (mkF m q ls (.int w :: st))) (hv : x >>> (y &&& 31) = w := by rfl) (hq : q = pc + 1 := by rfl) : Run p l e R s m args below meth c Z own nm bytes maxL ret n0 EE h k n (mkF m pc ls (.int y :: .int x :: st)) := by
  subst hq hv; exact Run.step (fun T t hx hb A z => XS.ishr A hx rfl (hb ▸ hd) rfl z) hr
theorem Run.iushr {x y : Int32} (w : Int32) (q : Nat) (hd : decode bytes pc = .ok (.iushr, 1)) (hr : Run p l e R s m args below meth c Z own nm bytes maxL ret n0 EE h k n (mkF m q ls (.int w :: st))) (hv : (x.toUInt32 >>> (y &&& 31).toUInt32).toInt32 = w := by rfl) (hq : q = pc + 1 := by rfl) : Run p l e R s m args below meth c Z own nm bytes maxL ret n0 EE h k n (mkF m pc ls (.int y :: .int x :: st)) := by
  subst hq hv; exact Run.step (fun T t hx hb A z => XS.iushr A hx rfl (hb ▸ hd) rfl z) hr
theorem Run.idiv {x y : Int32} (w : Int32) (q : Nat) (hd : decode bytes pc = .ok (.idiv, 1)) (hy : y ≠ 0) (hr : Run p l e R s m args below meth c Z own nm bytes maxL ret n0 EE h k n (mkF m q ls (.int w :: st))) (hv : x / y = w := by rfl) (hq : q = pc + 1 := by rfl) : Run p l e R s m args below meth c Z own nm bytes maxL ret n0 EE h k n (mkF m pc ls (.int y :: .int x :: st)) := by
  subst hq hv; exact Run.step (fun T t hx hb A z => XS.idiv A hx rfl (hb ▸ hd) rfl hy z) hr
theorem Run.irem {x y : Int32} (w : Int32) (q : Nat) (hd : decode bytes pc = .ok (.irem, 1)) (hy : y ≠ 0) (hr : Run p l e R s m args below meth c Z own nm bytes maxL ret n0 EE h k n (mkF m q ls (.int w :: st))) (hv : x - (x / y) * y = w := by rfl) (hq : q = pc + 1 := by rfl) : Run p l e R s m args below meth c Z own nm bytes maxL ret n0 EE h k n (mkF m pc ls (.int y :: .int x :: st)) := by
  subst hq hv; exact Run.step (fun T t hx hb A z => XS.irem A hx rfl (hb ▸ hd) rfl hy z) hr
theorem Run.ladd {x y : Int64} (w : Int64) (q : Nat) (hd : decode bytes pc = .ok (.ladd, 1)) (hr : Run p l e R s m args below meth c Z own nm bytes maxL ret n0 EE h k n (mkF m q ls (.long w :: st))) (hv : x + y = w := by rfl) (hq : q = pc + 1 := by rfl) : Run p l e R s m args below meth c Z own nm bytes maxL ret n0 EE h k n (mkF m pc ls (.long y :: .long x :: st)) := by
  subst hq hv; exact Run.step (fun T t hx hb A z => XS.ladd A hx rfl (hb ▸ hd) rfl z) hr
theorem Run.lsub {x y : Int64} (w : Int64) (q : Nat) (hd : decode bytes pc = .ok (.lsub, 1)) (hr : Run p l e R s m args below meth c Z own nm bytes maxL ret n0 EE h k n (mkF m q ls (.long w :: st))) (hv : x - y = w := by rfl) (hq : q = pc + 1 := by rfl) : Run p l e R s m args below meth c Z own nm bytes maxL ret n0 EE h k n (mkF m pc ls (.long y :: .long x :: st)) := by
  subst hq hv; exact Run.step (fun T t hx hb A z => XS.lsub A hx rfl (hb ▸ hd) rfl z) hr
theorem Run.lmul {x y : Int64} (w : Int64) (q : Nat) (hd : decode bytes pc = .ok (.lmul, 1)) (hr : Run p l e R s m args below meth c Z own nm bytes maxL ret n0 EE h k n (mkF m q ls (.long w :: st))) (hv : x * y = w := by rfl) (hq : q = pc + 1 := by rfl) : Run p l e R s m args below meth c Z own nm bytes maxL ret n0 EE h k n (mkF m pc ls (.long y :: .long x :: st)) := by
  subst hq hv; exact Run.step (fun T t hx hb A z => XS.lmul A hx rfl (hb ▸ hd) rfl z) hr
theorem Run.land {x y : Int64} (w : Int64) (q : Nat) (hd : decode bytes pc = .ok (.land, 1)) (hr : Run p l e R s m args below meth c Z own nm bytes maxL ret n0 EE h k n (mkF m q ls (.long w :: st))) (hv : x &&& y = w := by rfl) (hq : q = pc + 1 := by rfl) : Run p l e R s m args below meth c Z own nm bytes maxL ret n0 EE h k n (mkF m pc ls (.long y :: .long x :: st)) := by
  subst hq hv; exact Run.step (fun T t hx hb A z => XS.land A hx rfl (hb ▸ hd) rfl z) hr
theorem Run.lor {x y : Int64} (w : Int64) (q : Nat) (hd : decode bytes pc = .ok (.lor, 1)) (hr : Run p l e R s m args below meth c Z own nm bytes maxL ret n0 EE h k n (mkF m q ls (.long w :: st))) (hv : x ||| y = w := by rfl) (hq : q = pc + 1 := by rfl) : Run p l e R s m args below meth c Z own nm bytes maxL ret n0 EE h k n (mkF m pc ls (.long y :: .long x :: st)) := by
  subst hq hv; exact Run.step (fun T t hx hb A z => XS.lor A hx rfl (hb ▸ hd) rfl z) hr
theorem Run.lxor {x y : Int64} (w : Int64) (q : Nat) (hd : decode bytes pc = .ok (.lxor, 1)) (hr : Run p l e R s m args below meth c Z own nm bytes maxL ret n0 EE h k n (mkF m q ls (.long w :: st))) (hv : x ^^^ y = w := by rfl) (hq : q = pc + 1 := by rfl) : Run p l e R s m args below meth c Z own nm bytes maxL ret n0 EE h k n (mkF m pc ls (.long y :: .long x :: st)) := by
  subst hq hv; exact Run.step (fun T t hx hb A z => XS.lxor A hx rfl (hb ▸ hd) rfl z) hr
theorem Run.ldiv {x y : Int64} (w : Int64) (q : Nat) (hd : decode bytes pc = .ok (.ldiv, 1)) (hy : y ≠ 0) (hr : Run p l e R s m args below meth c Z own nm bytes maxL ret n0 EE h k n (mkF m q ls (.long w :: st))) (hv : x / y = w := by rfl) (hq : q = pc + 1 := by rfl) : Run p l e R s m args below meth c Z own nm bytes maxL ret n0 EE h k n (mkF m pc ls (.long y :: .long x :: st)) := by
  subst hq hv; exact Run.step (fun T t hx hb A z => XS.ldiv A hx rfl (hb ▸ hd) rfl hy z) hr
theorem Run.lrem {x y : Int64} (w : Int64) (q : Nat) (hd : decode bytes pc = .ok (.lrem, 1)) (hy : y ≠ 0) (hr : Run p l e R s m args below meth c Z own nm bytes maxL ret n0 EE h k n (mkF m q ls (.long w :: st))) (hv : x - (x / y) * y = w := by rfl) (hq : q = pc + 1 := by rfl) : Run p l e R s m args below meth c Z own nm bytes maxL ret n0 EE h k n (mkF m pc ls (.long y :: .long x :: st)) := by
  subst hq hv; exact Run.step (fun T t hx hb A z => XS.lrem A hx rfl (hb ▸ hd) rfl hy z) hr
theorem Run.lshl {x : Int64} {y : Int32} (w : Int64) (q : Nat) (hd : decode bytes pc = .ok (.lshl, 1)) (hr : Run p l e R s m args below meth c Z own nm bytes maxL ret n0 EE h k n (mkF m q ls (.long w :: st))) (hv : x <<< (y &&& 0x3f).toInt64 = w := by rfl) (hq : q = pc + 1 := by rfl) : Run p l e R s m args below meth c Z own nm bytes maxL ret n0 EE h k n (mkF m pc ls (.int y :: .long x :: st)) := by
  subst hq hv; exact Run.step (fun T t hx hb A z => XS.lshl A hx rfl (hb ▸ hd) rfl z) hr
theorem Run.lshr {x : Int64} {y : Int32} (w : Int64) (q : Nat) (hd : decode bytes pc = .ok (.lshr, 1)) (hr : Run p l e R s m args below meth c Z own nm bytes maxL ret n0 EE h k n (mkF m q ls (.long w :: st))) (hv : x >>> (y &&& 0x3f).toInt64 = w := by rfl) (hq : q = pc + 1 := by rfl) : Run p l e R s m args below meth c Z own nm bytes maxL ret n0 EE h k n (mkF m pc ls (.int y :: .long x :: st)) := by
  subst hq hv; exact Run.step (fun T t hx hb A z => XS.lshr A hx rfl (hb ▸ hd) rfl z) hr
theorem Run.lushr {x : Int64} {y : Int32} (w : Int64) (q : Nat) (hd : decode bytes pc = .ok (.lushr, 1)) (hr : Run p l e R s m args below meth c Z own nm bytes maxL ret n0 EE h k n (mkF m q ls (.long w :: st))) (hv : (x.toUInt64 >>> (y &&& 0x3f).toInt64.toUInt64).toInt64 = w := by rfl) (hq : q = pc + 1 := by rfl) : Run p l e R s m args below meth c Z own nm bytes maxL ret n0 EE h k n (mkF m pc ls (.int y :: .long x :: st)) := by
  subst hq hv; exact Run.step (fun T t hx hb A z => XS.lushr A hx rfl (hb ▸ hd) rfl z) hr
theorem Run.i2b {x : Int32} (w : Int32) (q : Nat) (hd : decode bytes pc = .ok (.i2b, 1)) (hr : Run p l e R s m args below meth c Z own nm bytes maxL ret n0 EE h k n (mkF m q ls (.int w :: st))) (hv : x.toInt8.toInt32 = w := by rfl) (hq : q = pc + 1 := by rfl) : Run p l e R s m args below meth c Z own nm bytes maxL ret n0 EE h k n (mkF m pc ls (.int x :: st)) := by
  subst hq hv; exact Run.step (fun T t hx hb A z => XS.i2b A hx rfl (hb ▸ hd) rfl z) hr
theorem Run.i2c {x : Int32} (w : Int32) (q : Nat) (hd : decode bytes pc = .ok (.i2c, 1)) (hr : Run p l e R s m args below meth c Z own nm bytes maxL ret n0 EE h k n (mkF m q ls (.int w :: st))) (hv : x.toUInt32.toUInt16.toUInt32.toInt32 = w := by rfl) (hq : q = pc + 1 := by rfl) : Run p l e R s m args below meth c Z own nm bytes maxL ret n0 EE h k n (mkF m pc ls (.int x :: st)) := by
  subst hq hv; exact Run.step (fun T t hx hb A z => XS.i2c A hx rfl (hb ▸ hd) rfl z) hr
theorem Run.i2s {x : Int32} (w : Int32) (q : Nat) (hd : decode bytes pc = .ok (.i2s, 1)) (hr : Run p l e R s m args below meth c Z own nm bytes maxL ret n0 EE h k n (mkF m q ls (.int w :: st))) (hv : x.toInt16.toInt32 = w := by rfl) (hq : q = pc + 1 := by rfl) : Run p l e R s m args below meth c Z own nm bytes maxL ret n0 EE h k n (mkF m pc ls (.int x :: st)) := by
  subst hq hv; exact Run.step (fun T t hx hb A z => XS.i2s A hx rfl (hb ▸ hd) rfl z) hr
theorem Run.i2l {x : Int32} (w : Int64) (q : Nat) (hd : decode bytes pc = .ok (.i2l, 1)) (hr : Run p l e R s m args below meth c Z own nm bytes maxL ret n0 EE h k n (mkF m q ls (.long w :: st))) (hv : x.toInt64 = w := by rfl) (hq : q = pc + 1 := by rfl) : Run p l e R s m args below meth c Z own nm bytes maxL ret n0 EE h k n (mkF m pc ls (.int x :: st)) := by
  subst hq hv; exact Run.step (fun T t hx hb A z => XS.i2l A hx rfl (hb ▸ hd) rfl z) hr
theorem Run.l2i {x : Int64} (w : Int32) (q : Nat) (hd : decode bytes pc = .ok (.l2i, 1)) (hr : Run p l e R s m args below meth c Z own nm bytes maxL ret n0 EE h k n (mkF m q ls (.int w :: st))) (hv : x.toInt32 = w := by rfl) (hq : q = pc + 1 := by rfl) : Run p l e R s m args below meth c Z own nm bytes maxL ret n0 EE h k n (mkF m pc ls (.long x :: st)) := by
  subst hq hv; exact Run.step (fun T t hx hb A z => XS.l2i A hx rfl (hb ▸ hd) rfl z) hr
theorem Run.ineg {x : Int32} (w : Int32) (q : Nat) (hd : decode bytes pc = .ok (.ineg, 1)) (hr : Run p l e R s m args below meth c Z own nm bytes maxL ret n0 EE h k n (mkF m q ls (.int w :: st))) (hv : -x = w := by rfl) (hq : q = pc + 1 := by rfl) : Run p l e R s m args below meth c Z own nm bytes maxL ret n0 EE h k n (mkF m pc ls (.int x :: st)) := by
  subst hq hv; exact Run.step (fun T t hx hb A z => XS.ineg A hx rfl (hb ▸ hd) rfl z) hr
theorem Run.lneg {x : Int64} (w : Int64) (q : Nat) (hd : decode bytes pc = .ok (.lneg, 1)) (hr : Run p l e R s m args below meth c Z own nm bytes maxL ret n0 EE h k n (mkF m q ls (.long w :: st))) (hv : -x = w := by rfl) (hq : q = pc + 1 := by rfl) : Run p l e R s m args below meth c Z own nm bytes maxL ret n0 EE h k n (mkF m pc ls (.long x :: st)) := by
  subst hq hv; exact Run.step (fun T t hx hb A z => XS.lneg A hx rfl (hb ▸ hd) rfl z) hr
theorem Run.iinc {i : Nat} {cst : Int} {x : Int32} (w : Int32) (q : Nat) (ls' : Array Slot) (hd : decode bytes pc = .ok (.iinc i cst, 3)) (hl : ls[i]? = some (.val (.int x))) (hr : Run p l e R s m args below meth c Z own nm bytes maxL ret n0 EE h k n (mkF m q ls' st)) (hv : x + Int32.ofInt cst = w := by first | rfl | decide) (hs : storeLocals ls i (.int w) = some ls' := by rfl) (hq : q = pc + 3 := by rfl) : Run p l e R s m args below meth c Z own nm bytes maxL ret n0 EE h k n (mkF m pc ls st) := by
  subst hq hv; exact Run.step (fun T t hx hb A z => XS.iinc A hx rfl (hb ▸ hd) hl hs z) hr
theorem Run.dup {x : Value} (q : Nat) (hd : decode bytes pc = .ok (.dup, 1)) (hr : Run p l e R s m args below meth c Z own nm bytes maxL ret n0 EE h k n (mkF m q ls (x :: x :: st))) (hc : x.category = 1 := by rfl) (hq : q = pc + 1 := by rfl) : Run p l e R s m args below meth c Z own nm bytes maxL ret n0 EE h k n (mkF m pc ls (x :: st)) := by
  subst hq; exact Run.step (fun T t hx hb A z => XS.dup A hx rfl (hb ▸ hd) rfl hc z) hr
theorem Run.pop {x : Value} (q : Nat) (hd : decode bytes pc = .ok (.pop, 1)) (hr : Run p l e R s m args below meth c Z own nm bytes maxL ret n0 EE h k n (mkF m q ls st)) (hc : x.category = 1 := by rfl) (hq : q = pc + 1 := by rfl) : Run p l e R s m args below meth c Z own nm bytes maxL ret n0 EE h k n (mkF m pc ls (x :: st)) := by
  subst hq; exact Run.step (fun T t hx hb A z => XS.pop A hx rfl (hb ▸ hd) rfl hc z) hr
theorem Run.dupX1 {x y : Value} (q : Nat) (hd : decode bytes pc = .ok (.dup_x1, 1)) (hr : Run p l e R s m args below meth c Z own nm bytes maxL ret n0 EE h k n (mkF m q ls (x :: y :: x :: st))) (hc : x.category = 1 := by rfl) (hc' : y.category = 1 := by rfl) (hq : q = pc + 1 := by rfl) : Run p l e R s m args below meth c Z own nm bytes maxL ret n0 EE h k n (mkF m pc ls (x :: y :: st)) := by
  subst hq; exact Run.step (fun T t hx hb A z => XS.dupX1 A hx rfl (hb ▸ hd) rfl hc hc' z) hr
theorem Run.goto {o : Int} (q : Nat) (hd : decode bytes pc = .ok (.goto o, 3)) (hr : Run p l e R s m args below meth c Z own nm bytes maxL ret n0 EE h k n (mkF m q ls st)) (ho : 0 ≤ (pc : Int) + o := by decide) (hq : ((pc : Int) + o).toNat = q := by rfl) : Run p l e R s m args below meth c Z own nm bytes maxL ret n0 EE h k n (mkF m pc ls st) :=
  Run.step (fun T t hx hb A z => XS.goto A hx rfl rfl (hb ▸ hd) ho hq z) hr
theorem Run.ltY {x y : Int32} {o : Int} (q : Nat) (hd : decode bytes pc = .ok (.if_icmp .lt o, 3)) (hc : x < y) (hr : Run p l e R s m args below meth c Z own nm bytes maxL ret n0 EE h k n (mkF m q ls st)) (ho : 0 ≤ (pc : Int) + o := by decide) (hq : ((pc : Int) + o).toNat = q := by rfl) : Run p l e R s m args below meth c Z own nm bytes maxL ret n0 EE h k n (mkF m pc ls (.int y :: .int x :: st)) :=
  Run.step (fun T t hx hb A z => XS.icmpYes A hx rfl rfl (hb ▸ hd) rfl (tlt hc).1 ho hq z) hr
theorem Run.ltN {x y : Int32} {o : Int} (q : Nat) (hd : decode bytes pc = .ok (.if_icmp .lt o, 3)) (hc : ¬ (x < y)) (hr : Run p l e R s m args below meth c Z own nm bytes maxL ret n0 EE h k n (mkF m q ls st)) (hq : q = pc + 3 := by rfl) : Run p l e R s m args below meth c Z own nm bytes maxL ret n0 EE h k n (mkF m pc ls (.int y :: .int x :: st)) := by
  subst hq; exact Run.step (fun T t hx hb A z => XS.icmpNo A hx rfl (hb ▸ hd) rfl (flt hc).1 z) hr
theorem Run.lt {x y : Int32} {o : Int} (q q' : Nat) (hd : decode bytes pc = .ok (.if_icmp .lt o, 3)) (hr : x < y → Run p l e R s m args below meth c Z own nm bytes maxL ret n0 EE h k n (mkF m q ls st)) (hr' : ¬ (x < y) → Run p l e R s m args below meth c Z own nm bytes maxL ret n0 EE h k n (mkF m q' ls st)) (ho : 0 ≤ (pc : Int) + o := by decide) (hq : ((pc : Int) + o).toNat = q := by rfl) (hq' : q' = pc + 3 := by rfl) : Run p l e R s m args below meth c Z own nm bytes maxL ret n0 EE h k n (mkF m pc ls (.int y :: .int x :: st)) := by
  by_cases hc : x < y
  · exact Run.ltY q hd hc (hr hc) ho hq
  · exact Run.ltN q' hd hc (hr' hc) hq'
theorem Run.lt0Y {x : Int32} {o : Int} (q : Nat) (hd : decode bytes pc = .ok (.ifCond .lt o, 3)) (hc : x < (0 : Int32)) (hr : Run p l e R s m args below meth c Z own nm bytes maxL ret n0 EE h k n (mkF m q ls st)) (ho : 0 ≤ (pc : Int) + o := by decide) (hq : ((pc : Int) + o).toNat = q := by rfl) : Run p l e R s m args below meth c Z own nm bytes maxL ret n0 EE h k n (mkF m pc ls (.int x :: st)) :=
  Run.step (fun T t hx hb A z => XS.ifYes A hx rfl rfl (hb ▸ hd) rfl ((if0 _ _).trans (tlt hc).1) ho hq z) hr
theorem Run.lt0N {x : Int32} {o : Int} (q : Nat) (hd : decode bytes pc = .ok (.ifCond .lt o, 3)) (hc : ¬ (x < (0 : Int32))) (hr : Run p l e R s m args below meth c Z own nm bytes maxL ret n0 EE h k n (mkF m q ls st)) (hq : q = pc + 3 := by rfl) : Run p l e R s m args below meth c Z own nm bytes maxL ret n0 EE h k n (mkF m pc ls (.int x :: st)) := by
  subst hq; exact Run.step (fun T t hx hb A z => XS.ifNo A hx rfl (hb ▸ hd) rfl ((if0 _ _).trans (flt hc).1) z) hr
theorem Run.lt0 {x : Int32} {o : Int} (q q' : Nat) (hd : decode bytes pc = .ok (.ifCond .lt o, 3)) (hr : x < (0 : Int32) → Run p l e R s m args below meth c Z own nm bytes maxL ret n0 EE h k n (mkF m q ls st)) (hr' : ¬ (x < (0 : Int32)) → Run p l e R s m args below meth c Z own nm bytes maxL ret n0 EE h k n (mkF m q' ls st)) (ho : 0 ≤ (pc : Int) + o := by decide) (hq : ((pc : Int) + o).toNat = q := by rfl) (hq' : q' = pc + 3 := by rfl) : Run p l e R s m args below meth c Z own nm bytes maxL ret n0 EE h k n (mkF m pc ls (.int x :: st)) := by
  by_cases hc : x < (0 : Int32)
  · exact Run.lt0Y q hd hc (hr hc) ho hq
  · exact Run.lt0N q' hd hc (hr' hc) hq'
theorem Run.geY {x y : Int32} {o : Int} (q : Nat) (hd : decode bytes pc = .ok (.if_icmp .ge o, 3)) (hc : ¬ (x < y)) (hr : Run p l e R s m args below meth c Z own nm bytes maxL ret n0 EE h k n (mkF m q ls st)) (ho : 0 ≤ (pc : Int) + o := by decide) (hq : ((pc : Int) + o).toNat = q := by rfl) : Run p l e R s m args below meth c Z own nm bytes maxL ret n0 EE h k n (mkF m pc ls (.int y :: .int x :: st)) :=
  Run.step (fun T t hx hb A z => XS.icmpYes A hx rfl rfl (hb ▸ hd) rfl (flt hc).2.1 ho hq z) hr
theorem Run.geN {x y : Int32} {o : Int} (q : Nat) (hd : decode bytes pc = .ok (.if_icmp .ge o, 3)) (hc : x < y) (hr : Run p l e R s m args below meth c Z own nm bytes maxL ret n0 EE h k n (mkF m q ls st)) (hq : q = pc + 3 := by rfl) : Run p l e R s m args below meth c Z own nm bytes maxL ret n0 EE h k n (mkF m pc ls (.int y :: .int x :: st)) := by
  subst hq; exact Run.step (fun T t hx hb A z => XS.icmpNo A hx rfl (hb ▸ hd) rfl (tlt hc).2.1 z) hr
theorem Run.ge {x y : Int32} {o : Int} (q q' : Nat) (hd : decode bytes pc = .ok (.if_icmp .ge o, 3)) (hr : ¬ (x < y) → Run p l e R s m args below meth c Z own nm bytes maxL ret n0 EE h k n (mkF m q ls st)) (hr' : x < y → Run p l e R s m args below meth c Z own nm bytes maxL ret n0 EE h k n (mkF m q' ls st)) (ho : 0 ≤ (pc : Int) + o := by decide) (hq : ((pc : Int) + o).toNat = q := by rfl) (hq' : q' = pc + 3 := by rfl) : Run p l e R s m args below meth c Z own nm bytes maxL ret n0 EE h k n (mkF m pc ls (.int y :: .int x :: st)) := by
  by_cases hc : x < y
  · exact Run.geN q' hd hc (hr' hc) hq'
  · exact Run.geY q hd hc (hr hc) ho hq
theorem Run.ge0Y {x : Int32} {o : Int} (q : Nat) (hd : decode bytes pc = .ok (.ifCond .ge o, 3)) (hc : ¬ (x < (0 : Int32))) (hr : Run p l e R s m args below meth c Z own nm bytes maxL ret n0 EE h k n (mkF m q ls st)) (ho : 0 ≤ (pc : Int) + o := by decide) (hq : ((pc : Int) + o).toNat = q := by rfl) : Run p l e R s m args below meth c Z own nm bytes maxL ret n0 EE h k n (mkF m pc ls (.int x :: st)) :=
  Run.step (fun T t hx hb A z => XS.ifYes A hx rfl rfl (hb ▸ hd) rfl ((if0 _ _).trans (flt hc).2.1) ho hq z) hr
theorem Run.ge0N {x : Int32} {o : Int} (q : Nat) (hd : decode bytes pc = .ok (.ifCond .ge o, 3)) (hc : x < (0 : Int32)) (hr : Run p l e R s m args below meth c Z own nm bytes maxL ret n0 EE h k n (mkF m q ls st)) (hq : q = pc + 3 := by rfl) : Run p l e R s m args below meth c Z own nm bytes maxL ret n0 EE h k n (mkF m pc ls (.int x :: st)) := by
  subst hq; exact Run.step (fun T t hx hb A z => XS.ifNo A hx rfl (hb ▸ hd) rfl ((if0 _ _).trans (tlt hc).2.1) z) hr
theorem Run.ge0 {x : Int32} {o : Int} (q q' : Nat) (hd : decode bytes pc = .ok (.ifCond .ge o, 3)) (hr : ¬ (x < (0 : Int32)) → Run p l e R s m args below meth c Z own nm bytes maxL ret n0 EE h k n (mkF m q ls st)) (hr' : x < (0 : Int32) → Run p l e R s m args below meth c Z own nm bytes maxL ret n0 EE h k n (mkF m q' ls st)) (ho : 0 ≤ (pc : Int) + o := by decide) (hq : ((pc : Int) + o).toNat = q := by rfl) (hq' : q' = pc + 3 := by rfl) : Run p l e R s m args below meth c Z own nm bytes maxL ret n0 EE h k n (mkF m pc ls (.int x :: st)) := by
  by_cases hc : x < (0 : Int32)
  · exact Run.ge0N q' hd hc (hr' hc) hq'
  · exact Run.ge0Y q hd hc (hr hc) ho hq
theorem Run.gtY {x y : Int32} {o : Int} (q : Nat) (hd : decode bytes pc = .ok (.if_icmp .gt o, 3)) (hc : y < x) (hr : Run p l e R s m args below meth c Z own nm bytes maxL ret n0 EE h k n (mkF m q ls st)) (ho : 0 ≤ (pc : Int) + o := by decide) (hq : ((pc : Int) + o).toNat = q := by rfl) : Run p l e R s m args below meth c Z own nm bytes maxL ret n0 EE h k n (mkF m pc ls (.int y :: .int x :: st)) :=
  Run.step (fun T t hx hb A z => XS.icmpYes A hx rfl rfl (hb ▸ hd) rfl (tlt hc).2.2.1 ho hq z) hr
theorem Run.gtN {x y : Int32} {o : Int} (q : Nat) (hd : decode bytes pc = .ok (.if_icmp .gt o, 3)) (hc : ¬ (y < x)) (hr : Run p l e R s m args below meth c Z own nm bytes maxL ret n0 EE h k n (mkF m q ls st)) (hq : q = pc + 3 := by rfl) : Run p l e R s m args below meth c Z own nm bytes maxL ret n0 EE h k n (mkF m pc ls (.int y :: .int x :: st)) := by
  subst hq; exact Run.step (fun T t hx hb A z => XS.icmpNo A hx rfl (hb ▸ hd) rfl (flt hc).2.2.1 z) hr
theorem Run.gt {x y : Int32} {o : Int} (q q' : Nat) (hd : decode bytes pc = .ok (.if_icmp .gt o, 3)) (hr : y < x → Run p l e R s m args below meth c Z own nm bytes maxL ret n0 EE h k n (mkF m q ls st)) (hr' : ¬ (y < x) → Run p l e R s m args below meth c Z own nm bytes maxL ret n0 EE h k n (mkF m q' ls st)) (ho : 0 ≤ (pc : Int) + o := by decide) (hq : ((pc : Int) + o).toNat = q := by rfl) (hq' : q' = pc + 3 := by rfl) : Run p l e R s m args below meth c Z own nm bytes maxL ret n0 EE h k n (mkF m pc ls (.int y :: .int x :: st)) := by
  by_cases hc : y < x
  · exact Run.gtY q hd hc (hr hc) ho hq
  · exact Run.gtN q' hd hc (hr' hc) hq'
theorem Run.gt0Y {x : Int32} {o : Int} (q : Nat) (hd : decode bytes pc = .ok (.ifCond .gt o, 3)) (hc : (0 : Int32) < x) (hr : Run p l e R s m args below meth c Z own nm bytes maxL ret n0 EE h k n (mkF m q ls st)) (ho : 0 ≤ (pc : Int) + o := by decide) (hq : ((pc : Int) + o).toNat = q := by rfl) : Run p l e R s m args below meth c Z own nm bytes maxL ret n0 EE h k n (mkF m pc ls (.int x :: st)) :=
  Run.step (fun T t hx hb A z => XS.ifYes A hx rfl rfl (hb ▸ hd) rfl ((if0 _ _).trans (tlt hc).2.2.1) ho hq z) hr
theorem Run.gt0N {x : Int32} {o : Int} (q : Nat) (hd : decode bytes pc = .ok (.ifCond .gt o, 3)) (hc : ¬ ((0 : Int32) < x)) (hr : Run p l e R s m args below meth c Z own nm bytes maxL ret n0 EE h k n (mkF m q ls st)) (hq : q = pc + 3 := by rfl) : Run p l e R s m args below meth c Z own nm bytes maxL ret n0 EE h k n (mkF m pc ls (.int x :: st)) := by
  subst hq; exact Run.step (fun T t hx hb A z => XS.ifNo A hx rfl (hb ▸ hd) rfl ((if0 _ _).trans (flt hc).2.2.1) z) hr
theorem Run.gt0 {x : Int32} {o : Int} (q q' : Nat) (hd : decode bytes pc = .ok (.ifCond .gt o, 3)) (hr : (0 : Int32) < x → Run p l e R s m args below meth c Z own nm bytes maxL ret n0 EE h k n (mkF m q ls st)) (hr' : ¬ ((0 : Int32) < x) → Run p l e R s m args below meth c Z own nm bytes maxL ret n0 EE h k n (mkF m q' ls st)) (ho : 0 ≤ (pc : Int) + o := by decide) (hq : ((pc : Int) + o).toNat = q := by rfl) (hq' : q' = pc + 3 := by rfl) : Run p l e R s m args below meth c Z own nm bytes maxL ret n0 EE h k n (mkF m pc ls (.int x :: st)) := by
  by_cases hc : (0 : Int32) < x
  · exact Run.gt0Y q hd hc (hr hc) ho hq
  · exact Run.gt0N q' hd hc (hr' hc) hq'
theorem Run.leY {x y : Int32} {o : Int} (q : Nat) (hd : decode bytes pc = .ok (.if_icmp .le o, 3)) (hc : ¬ (y < x)) (hr : Run p l e R s m args below meth c Z own nm bytes maxL ret n0 EE h k n (mkF m q ls st)) (ho : 0 ≤ (pc : Int) + o := by decide) (hq : ((pc : Int) + o).toNat = q := by rfl) : Run p l e R s m args below meth c Z own nm bytes maxL ret n0 EE h k n (mkF m pc ls (.int y :: .int x :: st)) :=
  Run.step (fun T t hx hb A z => XS.icmpYes A hx rfl rfl (hb ▸ hd) rfl (flt hc).2.2.2 ho hq z) hr
theorem Run.leN {x y : Int32} {o : Int} (q : Nat) (hd : decode bytes pc = .ok (.if_icmp .le o, 3)) (hc : y < x) (hr : Run p l e R s m args below meth c Z own nm bytes maxL ret n0 EE h k n (mkF m q ls st)) (hq : q = pc + 3 := by rfl) : Run p l e R s m args below meth c Z own nm bytes maxL ret n0 EE h k n (mkF m pc ls (.int y :: .int x :: st)) := by
  subst hq; exact Run.step (fun T t hx hb A z => XS.icmpNo A hx rfl (hb ▸ hd) rfl (tlt hc).2.2.2 z) hr
theorem Run.le {x y : Int32} {o : Int} (q q' : Nat) (hd : decode bytes pc = .ok (.if_icmp .le o, 3)) (hr : ¬ (y < x) → Run p l e R s m args below meth c Z own nm bytes maxL ret n0 EE h k n (mkF m q ls st)) (hr' : y < x → Run p l e R s m args below meth c Z own nm bytes maxL ret n0 EE h k n (mkF m q' ls st)) (ho : 0 ≤ (pc : Int) + o := by decide) (hq : ((pc : Int) + o).toNat = q := by rfl) (hq' : q' = pc + 3 := by rfl) : Run p l e R s m args below meth c Z own nm bytes maxL ret n0 EE h k n (mkF m pc ls (.int y :: .int x :: st)) := by
  by_cases hc : y < x
  · exact Run.leN q' hd hc (hr' hc) hq'
  · exact Run.leY q hd hc (hr hc) ho hq
theorem Run.le0Y {x : Int32} {o : Int} (q : Nat) (hd : decode bytes pc = .ok (.ifCond .le o, 3)) (hc : ¬ ((0 : Int32) < x)) (hr : Run p l e R s m args below meth c Z own nm bytes maxL ret n0 EE h k n (mkF m q ls st)) (ho : 0 ≤ (pc : Int) + o := by decide) (hq : ((pc : Int) + o).toNat = q := by rfl) : Run p l e R s m args below meth c Z own nm bytes maxL ret n0 EE h k n (mkF m pc ls (.int x :: st)) :=
  Run.step (fun T t hx hb A z => XS.ifYes A hx rfl rfl (hb ▸ hd) rfl ((if0 _ _).trans (flt hc).2.2.2) ho hq z) hr
theorem Run.le0N {x : Int32} {o : Int} (q : Nat) (hd : decode bytes pc = .ok (.ifCond .le o, 3)) (hc : (0 : Int32) < x) (hr : Run p l e R s m args below meth c Z own nm bytes maxL ret n0 EE h k n (mkF m q ls st)) (hq : q = pc + 3 := by rfl) : Run p l e R s m args below meth c Z own nm bytes maxL ret n0 EE h k n (mkF m pc ls (.int x :: st)) := by
  subst hq; exact Run.step (fun T t hx hb A z => XS.ifNo A hx rfl (hb ▸ hd) rfl ((if0 _ _).trans (tlt hc).2.2.2) z) hr
theorem Run.le0 {x : Int32} {o : Int} (q q' : Nat) (hd : decode bytes pc = .ok (.ifCond .le o, 3)) (hr : ¬ ((0 : Int32) < x) → Run p l e R s m args below meth c Z own nm bytes maxL ret n0 EE h k n (mkF m q ls st)) (hr' : (0 : Int32) < x → Run p l e R s m args below meth c Z own nm bytes maxL ret n0 EE h k n (mkF m q' ls st)) (ho : 0 ≤ (pc : Int) + o := by decide) (hq : ((pc : Int) + o).toNat = q := by rfl) (hq' : q' = pc + 3 := by rfl) : Run p l e R s m args below meth c Z own nm bytes maxL ret n0 EE h k n (mkF m pc ls (.int x :: st)) := by
  by_cases hc : (0 : Int32) < x
  · exact Run.le0N q' hd hc (hr' hc) hq'
  · exact Run.le0Y q hd hc (hr hc) ho hq
theorem Run.eqY {x y : Int32} {o : Int} (q : Nat) (hd : decode bytes pc = .ok (.if_icmp .eq o, 3)) (hc : x = y) (hr : Run p l e R s m args below meth c Z own nm bytes maxL ret n0 EE h k n (mkF m q ls st)) (ho : 0 ≤ (pc : Int) + o := by decide) (hq : ((pc : Int) + o).toNat = q := by rfl) : Run p l e R s m args below meth c Z own nm bytes maxL ret n0 EE h k n (mkF m pc ls (.int y :: .int x :: st)) :=
  Run.step (fun T t hx hb A z => XS.icmpYes A hx rfl rfl (hb ▸ hd) rfl (teq hc).1 ho hq z) hr
theorem Run.eqN {x y : Int32} {o : Int} (q : Nat) (hd : decode bytes pc = .ok (.if_icmp .eq o, 3)) (hc : ¬ (x = y)) (hr : Run p l e R s m args below meth c Z own nm bytes maxL ret n0 EE h k n (mkF m q ls st)) (hq : q = pc + 3 := by rfl) : Run p l e R s m args below meth c Z own nm bytes maxL ret n0 EE h k n (mkF m pc ls (.int y :: .int x :: st)) := by
  subst hq; exact Run.step (fun T t hx hb A z => XS.icmpNo A hx rfl (hb ▸ hd) rfl (feq hc).1 z) hr
theorem Run.eq {x y : Int32} {o : Int} (q q' : Nat) (hd : decode bytes pc = .ok (.if_icmp .eq o, 3)) (hr : x = y → Run p l e R s m args below meth c Z own nm bytes maxL ret n0 EE h k n (mkF m q ls st)) (hr' : ¬ (x = y) → Run p l e R s m args below meth c Z own nm bytes maxL ret n0 EE h k n (mkF m q' ls st)) (ho : 0 ≤ (pc : Int) + o := by decide) (hq : ((pc : Int) + o).toNat = q := by rfl) (hq' : q' = pc + 3 := by rfl) : Run p l e R s m args below meth c Z own nm bytes maxL ret n0 EE h k n (mkF m pc ls (.int y :: .int x :: st)) := by
  by_cases hc : x = y
  · exact Run.eqY q hd hc (hr hc) ho hq
  · exact Run.eqN q' hd hc (hr' hc) hq'
theorem Run.eq0Y {x : Int32} {o : Int} (q : Nat) (hd : decode bytes pc = .ok (.ifCond .eq o, 3)) (hc : x = (0 : Int32)) (hr : Run p l e R s m args below meth c Z own nm bytes maxL ret n0 EE h k n (mkF m q ls st)) (ho : 0 ≤ (pc : Int) + o := by decide) (hq : ((pc : Int) + o).toNat = q := by rfl) : Run p l e R s m args below meth c Z own nm bytes maxL ret n0 EE h k n (mkF m pc ls (.int x :: st)) :=
  Run.step (fun T t hx hb A z => XS.ifYes A hx rfl rfl (hb ▸ hd) rfl ((if0 _ _).trans (teq hc).1) ho hq z) hr
theorem Run.eq0N {x : Int32} {o : Int} (q : Nat) (hd : decode bytes pc = .ok (.ifCond .eq o, 3)) (hc : ¬ (x = (0 : Int32))) (hr : Run p l e R s m args below meth c Z own nm bytes maxL ret n0 EE h k n (mkF m q ls st)) (hq : q = pc + 3 := by rfl) : Run p l e R s m args below meth c Z own nm bytes maxL ret n0 EE h k n (mkF m pc ls (.int x :: st)) := by
  subst hq; exact Run.step (fun T t hx hb A z => XS.ifNo A hx rfl (hb ▸ hd) rfl ((if0 _ _).trans (feq hc).1) z) hr
theorem Run.eq0 {x : Int32} {o : Int} (q q' : Nat) (hd : decode bytes pc = .ok (.ifCond .eq o, 3)) (hr : x = (0 : Int32) → Run p l e R s m args below meth c Z own nm bytes maxL ret n0 EE h k n (mkF m q ls st)) (hr' : ¬ (x = (0 : Int32)) → Run p l e R s m args below meth c Z own nm bytes maxL ret n0 EE h k n (mkF m q' ls st)) (ho : 0 ≤ (pc : Int) + o := by decide) (hq : ((pc : Int) + o).toNat = q := by rfl) (hq' : q' = pc + 3 := by rfl) : Run p l e R s m args below meth c Z own nm bytes maxL ret n0 EE h k n (mkF m pc ls (.int x :: st)) := by
  by_cases hc : x = (0 : Int32)
  · exact Run.eq0Y q hd hc (hr hc) ho hq
  · exact Run.eq0N q' hd hc (hr' hc) hq'
theorem Run.neY {x y : Int32} {o : Int} (q : Nat) (hd : decode bytes pc = .ok (.if_icmp .ne o, 3)) (hc : ¬ (x = y)) (hr : Run p l e R s m args below meth c Z own nm bytes maxL ret n0 EE h k n (mkF m q ls st)) (ho : 0 ≤ (pc : Int) + o := by decide) (hq : ((pc : Int) + o).toNat = q := by rfl) : Run p l e R s m args below meth c Z own nm bytes maxL ret n0 EE h k n (mkF m pc ls (.int y :: .int x :: st)) :=
  Run.step (fun T t hx hb A z => XS.icmpYes A hx rfl rfl (hb ▸ hd) rfl (feq hc).2 ho hq z) hr
theorem Run.neN {x y : Int32} {o : Int} (q : Nat) (hd : decode bytes pc = .ok (.if_icmp .ne o, 3)) (hc : x = y) (hr : Run p l e R s m args below meth c Z own nm bytes maxL ret n0 EE h k n (mkF m q ls st)) (hq : q = pc + 3 := by rfl) : Run p l e R s m args below meth c Z own nm bytes maxL ret n0 EE h k n (mkF m pc ls (.int y :: .int x :: st)) := by
  subst hq; exact Run.step (fun T t hx hb A z => XS.icmpNo A hx rfl (hb ▸ hd) rfl (teq hc).2 z) hr
theorem Run.ne {x y : Int32} {o : Int} (q q' : Nat) (hd : decode bytes pc = .ok (.if_icmp .ne o, 3)) (hr : ¬ (x = y) → Run p l e R s m args below meth c Z own nm bytes maxL ret n0 EE h k n (mkF m q ls st)) (hr' : x = y → Run p l e R s m args below meth c Z own nm bytes maxL ret n0 EE h k n (mkF m q' ls st)) (ho : 0 ≤ (pc : Int) + o := by decide) (hq : ((pc : Int) + o).toNat = q := by rfl) (hq' : q' = pc + 3 := by rfl) : Run p l e R s m args below meth c Z own nm bytes maxL ret n0 EE h k n (mkF m pc ls (.int y :: .int x :: st)) := by
  by_cases hc : x = y
  · exact Run.neN q' hd hc (hr' hc) hq'
  · exact Run.neY q hd hc (hr hc) ho hq
theorem Run.ne0Y {x : Int32} {o : Int} (q : Nat) (hd : decode bytes pc = .ok (.ifCond .ne o, 3)) (hc : ¬ (x = (0 : Int32))) (hr : Run p l e R s m args below meth c Z own nm bytes maxL ret n0 EE h k n (mkF m q ls st)) (ho : 0 ≤ (pc : Int) + o := by decide) (hq : ((pc : Int) + o).toNat = q := by rfl) : Run p l e R s m args below meth c Z own nm bytes maxL ret n0 EE h k n (mkF m pc ls (.int x :: st)) :=
  Run.step (fun T t hx hb A z => XS.ifYes A hx rfl rfl (hb ▸ hd) rfl ((if0 _ _).trans (feq hc).2) ho hq z) hr
theorem Run.ne0N {x : Int32} {o : Int} (q : Nat) (hd : decode bytes pc = .ok (.ifCond .ne o, 3)) (hc : x = (0 : Int32)) (hr : Run p l e R s m args below meth c Z own nm bytes maxL ret n0 EE h k n (mkF m q ls st)) (hq : q = pc + 3 := by rfl) : Run p l e R s m args below meth c Z own nm bytes maxL ret n0 EE h k n (mkF m pc ls (.int x :: st)) := by
  subst hq; exact Run.step (fun T t hx hb A z => XS.ifNo A hx rfl (hb ▸ hd) rfl ((if0 _ _).trans (teq hc).2) z) hr
theorem Run.ne0 {x : Int32} {o : Int} (q q' : Nat) (hd : decode bytes pc = .ok (.ifCond .ne o, 3)) (hr : ¬ (x = (0 : Int32)) → Run p l e R s m args below meth c Z own nm bytes maxL ret n0 EE h k n (mkF m q ls st)) (hr' : x = (0 : Int32) → Run p l e R s m args below meth c Z own nm bytes maxL ret n0 EE h k n (mkF m q' ls st)) (ho : 0 ≤ (pc : Int) + o := by decide) (hq : ((pc : Int) + o).toNat = q := by rfl) (hq' : q' = pc + 3 := by rfl) : Run p l e R s m args below meth c Z own nm bytes maxL ret n0 EE h k n (mkF m pc ls (.int x :: st)) := by
  by_cases hc : x = (0 : Int32)
  · exact Run.ne0N q' hd hc (hr' hc) hq'
  · exact Run.ne0Y q hd hc (hr hc) ho hq
theorem Run.lltY {x y : Int64} {o : Int} (q : Nat) (hd1 : decode bytes pc = .ok (.lcmp, 1)) (hd : decode bytes (pc + 1) = .ok (.ifCond .lt o, 3)) (hc : x < y) (hr : Run p l e R s m args below meth c Z own nm bytes maxL ret n0 EE h k n (mkF m q ls st)) (ho : 0 ≤ ((pc + 1 : Nat) : Int) + o := by decide) (hq : (((pc + 1 : Nat) : Int) + o).toNat = q := by rfl) : Run p l e R s m args below meth c Z own nm bytes maxL ret n0 EE h k n (mkF m pc ls (.long y :: .long x :: st)) :=
  Run.step (fun T t hx hb A z => XS.lcmp A hx rfl (hb ▸ hd1) rfl (XS.ifYes (x := lcmpW x y) (rest := st) (g := mkF m (pc + 1) ls (.int (lcmpW x y) :: st)) A hx rfl rfl (hb ▸ hd) rfl ((if0 _ _).trans (tlt ((lw_lt x y).mpr hc)).1) ho hq z)) hr
theorem Run.lltN {x y : Int64} {o : Int} (q : Nat) (hd1 : decode bytes pc = .ok (.lcmp, 1)) (hd : decode bytes (pc + 1) = .ok (.ifCond .lt o, 3)) (hc : ¬ (x < y)) (hr : Run p l e R s m args below meth c Z own nm bytes maxL ret n0 EE h k n (mkF m q ls st)) (hq : q = pc + 4 := by rfl) : Run p l e R s m args below meth c Z own nm bytes maxL ret n0 EE h k n (mkF m pc ls (.long y :: .long x :: st)) := by
  subst hq; exact Run.step (fun T t hx hb A z => XS.lcmp A hx rfl (hb ▸ hd1) rfl (XS.ifNo (x := lcmpW x y) (rest := st) (g := mkF m (pc + 1) ls (.int (lcmpW x y) :: st)) A hx rfl (hb ▸ hd) rfl ((if0 _ _).trans (flt (fun z => hc ((lw_lt x y).mp z))).1) z)) hr
theorem Run.llt {x y : Int64} {o : Int} (q q' : Nat) (hd1 : decode bytes pc = .ok (.lcmp, 1)) (hd : decode bytes (pc + 1) = .ok (.ifCond .lt o, 3)) (hr : x < y → Run p l e R s m args below meth c Z own nm bytes maxL ret n0 EE h k n (mkF m q ls st)) (hr' : ¬ (x < y) → Run p l e R s m args below meth c Z own nm bytes maxL ret n0 EE h k n (mkF m q' ls st)) (ho : 0 ≤ ((pc + 1 : Nat) : Int) + o := by decide) (hq : (((pc + 1 : Nat) : Int) + o).toNat = q := by rfl) (hq' : q' = pc + 4 := by rfl) : Run p l e R s m args below meth c Z own nm bytes maxL ret n0 EE h k n (mkF m pc ls (.long y :: .long x :: st)) := by
  by_cases hc : x < y
  · exact Run.lltY q hd1 hd hc (hr hc) ho hq
  · exact Run.lltN q' hd1 hd hc (hr' hc) hq'
theorem Run.lgeY {x y : Int64} {o : Int} (q : Nat) (hd1 : decode bytes pc = .ok (.lcmp, 1)) (hd : decode bytes (pc + 1) = .ok (.ifCond .ge o, 3)) (hc : ¬ (x < y)) (hr : Run p l e R s m args below meth c Z own nm bytes maxL ret n0 EE h k n (mkF m q ls st)) (ho : 0 ≤ ((pc + 1 : Nat) : Int) + o := by decide) (hq : (((pc + 1 : Nat) : Int) + o).toNat = q := by rfl) : Run p l e R s m args below meth c Z own nm bytes maxL ret n0 EE h k n (mkF m pc ls (.long y :: .long x :: st)) :=
  Run.step (fun T t hx hb A z => XS.lcmp A hx rfl (hb ▸ hd1) rfl (XS.ifYes (x := lcmpW x y) (rest := st) (g := mkF m (pc + 1) ls (.int (lcmpW x y) :: st)) A hx rfl rfl (hb ▸ hd) rfl ((if0 _ _).trans (flt (fun z => hc ((lw_lt x y).mp z))).2.1) ho hq z)) hr
theorem Run.lgeN {x y : Int64} {o : Int} (q : Nat) (hd1 : decode bytes pc = .ok (.lcmp, 1)) (hd : decode bytes (pc + 1) = .ok (.ifCond .ge o, 3)) (hc : x < y) (hr : Run p l e R s m args below meth c Z own nm bytes maxL ret n0 EE h k n (mkF m q ls st)) (hq : q = pc + 4 := by rfl) : Run p l e R s m args below meth c Z own nm bytes maxL ret n0 EE h k n (mkF m pc ls (.long y :: .long x :: st)) := by
  subst hq; exact Run.step (fun T t hx hb A z => XS.lcmp A hx rfl (hb ▸ hd1) rfl (XS.ifNo (x := lcmpW x y) (rest := st) (g := mkF m (pc + 1) ls (.int (lcmpW x y) :: st)) A hx rfl (hb ▸ hd) rfl ((if0 _ _).trans (tlt ((lw_lt x y).mpr hc)).2.1) z)) hr
theorem Run.lge {x y : Int64} {o : Int} (q q' : Nat) (hd1 : decode bytes pc = .ok (.lcmp, 1)) (hd : decode bytes (pc + 1) = .ok (.ifCond .ge o, 3)) (hr : ¬ (x < y) → Run p l e R s m args below meth c Z own nm bytes maxL ret n0 EE h k n (mkF m q ls st)) (hr' : x < y → Run p l e R s m args below meth c Z own nm bytes maxL ret n0 EE h k n (mkF m q' ls st)) (ho : 0 ≤ ((pc + 1 : Nat) : Int) + o := by decide) (hq : (((pc + 1 : Nat) : Int) + o).toNat = q := by rfl) (hq' : q' = pc + 4 := by rfl) : Run p l e R s m args below meth c Z own nm bytes maxL ret n0 EE h k n (mkF m pc ls (.long y :: .long x :: st)) := by
  by_cases hc : x < y
  · exact Run.lgeN q' hd1 hd hc (hr' hc) hq'
  · exact Run.lgeY q hd1 hd hc (hr hc) ho hq
theorem Run.lgtY {x y : Int64} {o : Int} (q : Nat) (hd1 : decode bytes pc = .ok (.lcmp, 1)) (hd : decode bytes (pc + 1) = .ok (.ifCond .gt o, 3)) (hc : y < x) (hr : Run p l e R s m args below meth c Z own nm bytes maxL ret n0 EE h k n (mkF m q ls st)) (ho : 0 ≤ ((pc + 1 : Nat) : Int) + o := by decide) (hq : (((pc + 1 : Nat) : Int) + o).toNat = q := by rfl) : Run p l e R s m args below meth c Z own nm bytes maxL ret n0 EE h k n (mkF m pc ls (.long y :: .long x :: st)) :=
  Run.step (fun T t hx hb A z => XS.lcmp A hx rfl (hb ▸ hd1) rfl (XS.ifYes (x := lcmpW x y) (rest := st) (g := mkF m (pc + 1) ls (.int (lcmpW x y) :: st)) A hx rfl rfl (hb ▸ hd) rfl ((if0 _ _).trans (tlt ((lw_gt x y).mpr hc)).2.2.1) ho hq z)) hr
theorem Run.lgtN {x y : Int64} {o : Int} (q : Nat) (hd1 : decode bytes pc = .ok (.lcmp, 1)) (hd : decode bytes (pc + 1) = .ok (.ifCond .gt o, 3)) (hc : ¬ (y < x)) (hr : Run p l e R s m args below meth c Z own nm bytes maxL ret n0 EE h k n (mkF m q ls st)) (hq : q = pc + 4 := by rfl) : Run p l e R s m args below meth c Z own nm bytes maxL ret n0 EE h k n (mkF m pc ls (.long y :: .long x :: st)) := by
  subst hq; exact Run.step (fun T t hx hb A z => XS.lcmp A hx rfl (hb ▸ hd1) rfl (XS.ifNo (x := lcmpW x y) (rest := st) (g := mkF m (pc + 1) ls (.int (lcmpW x y) :: st)) A hx rfl (hb ▸ hd) rfl ((if0 _ _).trans (flt (fun z => hc ((lw_gt x y).mp z))).2.2.1) z)) hr
theorem Run.lgt {x y : Int64} {o : Int} (q q' : Nat) (hd1 : decode bytes pc = .ok (.lcmp, 1)) (hd : decode bytes (pc + 1) = .ok (.ifCond .gt o, 3)) (hr : y < x → Run p l e R s m args below meth c Z own nm bytes maxL ret n0 EE h k n (mkF m q ls st)) (hr' : ¬ (y < x) → Run p l e R s m args below meth c Z own nm bytes maxL ret n0 EE h k n (mkF m q' ls st)) (ho : 0 ≤ ((pc + 1 : Nat) : Int) + o := by decide) (hq : (((pc + 1 : Nat) : Int) + o).toNat = q := by rfl) (hq' : q' = pc + 4 := by rfl) : Run p l e R s m args below meth c Z own nm bytes maxL ret n0 EE h k n (mkF m pc ls (.long y :: .long x :: st)) := by
  by_cases hc : y < x
  · exact Run.lgtY q hd1 hd hc (hr hc) ho hq
  · exact Run.lgtN q' hd1 hd hc (hr' hc) hq'
theorem Run.lleY {x y : Int64} {o : Int} (q : Nat) (hd1 : decode bytes pc = .ok (.lcmp, 1)) (hd : decode bytes (pc + 1) = .ok (.ifCond .le o, 3)) (hc : ¬ (y < x)) (hr : Run p l e R s m args below meth c Z own nm bytes maxL ret n0 EE h k n (mkF m q ls st)) (ho : 0 ≤ ((pc + 1 : Nat) : Int) + o := by decide) (hq : (((pc + 1 : Nat) : Int) + o).toNat = q := by rfl) : Run p l e R s m args below meth c Z own nm bytes maxL ret n0 EE h k n (mkF m pc ls (.long y :: .long x :: st)) :=
  Run.step (fun T t hx hb A z => XS.lcmp A hx rfl (hb ▸ hd1) rfl (XS.ifYes (x := lcmpW x y) (rest := st) (g := mkF m (pc + 1) ls (.int (lcmpW x y) :: st)) A hx rfl rfl (hb ▸ hd) rfl ((if0 _ _).trans (flt (fun z => hc ((lw_gt x y).mp z))).2.2.2) ho hq z)) hr
theorem Run.lleN {x y : Int64} {o : Int} (q : Nat) (hd1 : decode bytes pc = .ok (.lcmp, 1)) (hd : decode bytes (pc + 1) = .ok (.ifCond .le o, 3)) (hc : y < x) (hr : Run p l e R s m args below meth c Z own nm bytes maxL ret n0 EE h k n (mkF m q ls st)) (hq : q = pc + 4 := by rfl) : Run p l e R s m args below meth c Z own nm bytes maxL ret n0 EE h k n (mkF m pc ls (.long y :: .long x :: st)) := by
  subst hq; exact Run.step (fun T t hx hb A z => XS.lcmp A hx rfl (hb ▸ hd1) rfl (XS.ifNo (x := lcmpW x y) (rest := st) (g := mkF m (pc + 1) ls (.int (lcmpW x y) :: st)) A hx rfl (hb ▸ hd) rfl ((if0 _ _).trans (tlt ((lw_gt x y).mpr hc)).2.2.2) z)) hr
theorem Run.lle {x y : Int64} {o : Int} (q q' : Nat) (hd1 : decode bytes pc = .ok (.lcmp, 1)) (hd : decode bytes (pc + 1) = .ok (.ifCond .le o, 3)) (hr : ¬ (y < x) → Run p l e R s m args below meth c Z own nm bytes maxL ret n0 EE h k n (mkF m q ls st)) (hr' : y < x → Run p l e R s m args below meth c Z own nm bytes maxL ret n0 EE h k n (mkF m q' ls st)) (ho : 0 ≤ ((pc + 1 : Nat) : Int) + o := by decide) (hq : (((pc + 1 : Nat) : Int) + o).toNat = q := by rfl) (hq' : q' = pc + 4 := by rfl) : Run p l e R s m args below meth c Z own nm bytes maxL ret n0 EE h k n (mkF m pc ls (.long y :: .long x :: st)) := by
  by_cases hc : y < x
  · exact Run.lleN q' hd1 hd hc (hr' hc) hq'
  · exact Run.lleY q hd1 hd hc (hr hc) ho hq
theorem Run.leqY {x y : Int64} {o : Int} (q : Nat) (hd1 : decode bytes pc = .ok (.lcmp, 1)) (hd : decode bytes (pc + 1) = .ok (.ifCond .eq o, 3)) (hc : x = y) (hr : Run p l e R s m args below meth c Z own nm bytes maxL ret n0 EE h k n (mkF m q ls st)) (ho : 0 ≤ ((pc + 1 : Nat) : Int) + o := by decide) (hq : (((pc + 1 : Nat) : Int) + o).toNat = q := by rfl) : Run p l e R s m args below meth c Z own nm bytes maxL ret n0 EE h k n (mkF m pc ls (.long y :: .long x :: st)) :=
  Run.step (fun T t hx hb A z => XS.lcmp A hx rfl (hb ▸ hd1) rfl (XS.ifYes (x := lcmpW x y) (rest := st) (g := mkF m (pc + 1) ls (.int (lcmpW x y) :: st)) A hx rfl rfl (hb ▸ hd) rfl ((if0 _ _).trans (teq ((lw_eq x y).mpr hc)).1) ho hq z)) hr
theorem Run.leqN {x y : Int64} {o : Int} (q : Nat) (hd1 : decode bytes pc = .ok (.lcmp, 1)) (hd : decode bytes (pc + 1) = .ok (.ifCond .eq o, 3)) (hc : ¬ (x = y)) (hr : Run p l e R s m args below meth c Z own nm bytes maxL ret n0 EE h k n (mkF m q ls st)) (hq : q = pc + 4 := by rfl) : Run p l e R s m args below meth c Z own nm bytes maxL ret n0 EE h k n (mkF m pc ls (.long y :: .long x :: st)) := by
  subst hq; exact Run.step (fun T t hx hb A z => XS.lcmp A hx rfl (hb ▸ hd1) rfl (XS.ifNo (x := lcmpW x y) (rest := st) (g := mkF m (pc + 1) ls (.int (lcmpW x y) :: st)) A hx rfl (hb ▸ hd) rfl ((if0 _ _).trans (feq (fun z => hc ((lw_eq x y).mp z))).1) z)) hr
theorem Run.leq {x y : Int64} {o : Int} (q q' : Nat) (hd1 : decode bytes pc = .ok (.lcmp, 1)) (hd : decode bytes (pc + 1) = .ok (.ifCond .eq o, 3)) (hr : x = y → Run p l e R s m args below meth c Z own nm bytes maxL ret n0 EE h k n (mkF m q ls st)) (hr' : ¬ (x = y) → Run p l e R s m args below meth c Z own nm bytes maxL ret n0 EE h k n (mkF m q' ls st)) (ho : 0 ≤ ((pc + 1 : Nat) : Int) + o := by decide) (hq : (((pc + 1 : Nat) : Int) + o).toNat = q := by rfl) (hq' : q' = pc + 4 := by rfl) : Run p l e R s m args below meth c Z own nm bytes maxL ret n0 EE h k n (mkF m pc ls (.long y :: .long x :: st)) := by
  by_cases hc : x = y
  · exact Run.leqY q hd1 hd hc (hr hc) ho hq
  · exact Run.leqN q' hd1 hd hc (hr' hc) hq'
theorem Run.lneY {x y : Int64} {o : Int} (q : Nat) (hd1 : decode bytes pc = .ok (.lcmp, 1)) (hd : decode bytes (pc + 1) = .ok (.ifCond .ne o, 3)) (hc : ¬ (x = y)) (hr : Run p l e R s m args below meth c Z own nm bytes maxL ret n0 EE h k n (mkF m q ls st)) (ho : 0 ≤ ((pc + 1 : Nat) : Int) + o := by decide) (hq : (((pc + 1 : Nat) : Int) + o).toNat = q := by rfl) : Run p l e R s m args below meth c Z own nm bytes maxL ret n0 EE h k n (mkF m pc ls (.long y :: .long x :: st)) :=
  Run.step (fun T t hx hb A z => XS.lcmp A hx rfl (hb ▸ hd1) rfl (XS.ifYes (x := lcmpW x y) (rest := st) (g := mkF m (pc + 1) ls (.int (lcmpW x y) :: st)) A hx rfl rfl (hb ▸ hd) rfl ((if0 _ _).trans (feq (fun z => hc ((lw_eq x y).mp z))).2) ho hq z)) hr
theorem Run.lneN {x y : Int64} {o : Int} (q : Nat) (hd1 : decode bytes pc = .ok (.lcmp, 1)) (hd : decode bytes (pc + 1) = .ok (.ifCond .ne o, 3)) (hc : x = y) (hr : Run p l e R s m args below meth c Z own nm bytes maxL ret n0 EE h k n (mkF m q ls st)) (hq : q = pc + 4 := by rfl) : Run p l e R s m args below meth c Z own nm bytes maxL ret n0 EE h k n (mkF m pc ls (.long y :: .long x :: st)) := by
  subst hq; exact Run.step (fun T t hx hb A z => XS.lcmp A hx rfl (hb ▸ hd1) rfl (XS.ifNo (x := lcmpW x y) (rest := st) (g := mkF m (pc + 1) ls (.int (lcmpW x y) :: st)) A hx rfl (hb ▸ hd) rfl ((if0 _ _).trans (teq ((lw_eq x y).mpr hc)).2) z)) hr
theorem Run.lne {x y : Int64} {o : Int} (q q' : Nat) (hd1 : decode bytes pc = .ok (.lcmp, 1)) (hd : decode bytes (pc + 1) = .ok (.ifCond .ne o, 3)) (hr : ¬ (x = y) → Run p l e R s m args below meth c Z own nm bytes maxL ret n0 EE h k n (mkF m q ls st)) (hr' : x = y → Run p l e R s m args below meth c Z own nm bytes maxL ret n0 EE h k n (mkF m q' ls st)) (ho : 0 ≤ ((pc + 1 : Nat) : Int) + o := by decide) (hq : (((pc + 1 : Nat) : Int) + o).toNat = q := by rfl) (hq' : q' = pc + 4 := by rfl) : Run p l e R s m args below meth c Z own nm bytes maxL ret n0 EE h k n (mkF m pc ls (.long y :: .long x :: st)) := by
  by_cases hc : x = y
  · exact Run.lneN q' hd1 hd hc (hr' hc) hq'
  · exact Run.lneY q hd1 hd hc (hr hc) ho hq
theorem Run.ldcI {i : Nat} {v : Int32} (q : Nat) (w : (Jvm.Cond.constant own i v).before a0 Z = true) (hd : decode bytes pc = .ok (.ldc i, 2)) (hr : Run p l e R s m args below meth c Z own nm bytes maxL ret n0 EE h k n (mkF m q ls (.int v :: st))) (hq : q = pc + 2 := by rfl) : Run p l e R s m args below meth c Z own nm bytes maxL ret n0 EE h k n (mkF m pc ls st) := by
  subst hq; intro C T locs X F E
  obtain ⟨s₂, o, q1, q2⟩ := hr C T locs X F E
  exact ⟨s₂, o, X.ldcInt C.1 C.2.2.2.1 (mvT C.2.2.2.2.2.1 w) (g := mkF m pc ls st) rfl (C.2.1 ▸ hd) _ q1, q2⟩
theorem Run.ldcwI {i : Nat} {v : Int32} (q : Nat) (w : (Jvm.Cond.constant own i v).before a0 Z = true) (hd : decode bytes pc = .ok (.ldc_w i, 3)) (hr : Run p l e R s m args below meth c Z own nm bytes maxL ret n0 EE h k n (mkF m q ls (.int v :: st))) (hq : q = pc + 3 := by rfl) : Run p l e R s m args below meth c Z own nm bytes maxL ret n0 EE h k n (mkF m pc ls st) := by
  subst hq; intro C T locs X F E
  obtain ⟨s₂, o, q1, q2⟩ := hr C T locs X F E
  exact ⟨s₂, o, X.ldcwInt C.1 C.2.2.2.1 (mvT C.2.2.2.2.2.1 w) (g := mkF m pc ls st) rfl (C.2.1 ▸ hd) _ q1, q2⟩
theorem Run.ldcJ {i : Nat} {v : Int64} (q : Nat) (w : (Jvm.Cond.constantLong own i v).before a0 Z = true) (hd : decode bytes pc = .ok (.ldc2_w i, 3)) (hr : Run p l e R s m args below meth c Z own nm bytes maxL ret n0 EE h k n (mkF m q ls (.long v :: st))) (hq : q = pc + 3 := by rfl) : Run p l e R s m args below meth c Z own nm bytes maxL ret n0 EE h k n (mkF m pc ls st) := by
  subst hq; intro C T locs X F E
  obtain ⟨s₂, o, q1, q2⟩ := hr C T locs X F E
  exact ⟨s₂, o, X.ldc2Long C.1 C.2.2.2.1 (mvT C.2.2.2.2.2.1 w) (g := mkF m pc ls st) rfl (C.2.1 ▸ hd) _ q1, q2⟩
theorem own_retI {T : State} {locs : List Loc} {cells slots : Nat} (X : Stand p l e R s m args below meth c T locs cells slots) (hx : p.tables.exec = Jvm.exec) {Ls : Array Slot} {z : Int32} {rest : List Value} (hret : meth.sig.returnType = some .int) (hd : decode c.code pc = .ok (.ireturn, 1)) {fs : List Frame}
    (hl : ∀ (f : JFrame) (acts : List Action), f.method = m → f.locked = none → f.entered = [] → (doReturn e (T.setTop f) acts (some (.int z))).1 = T.setFrames fs) : Steps p.tables e below (T.setTop (mkF m pc Ls (.int z :: rest))) (T.setFrames fs) := by
  have hm' : T.vm.method? m = some meth := X.method'
  have hn : narrow .int (.int z) = .int z := rfl
  show Steps p.tables e below (T.setTop { method := m, pc := pc, locals := Ls, stack := _ :: rest, locked := none }) _
  jvm_step X.here [X.here.top, hx, hd, hm', hret, hn]
  first | (intro acts; rw [hl _ acts rfl rfl rfl]) | rw [hl _ _ rfl rfl rfl]
  exact Steps.refl _
theorem Run.retN {Q : Option Value → Heap → Prop} {K N : Nat} {z : Int32} (t : FieldType) (ht : t = .boolean ∨ t = .byte ∨ t = .char ∨ t = .short) (hd : decode bytes pc = .ok (.ireturn, 1)) (hQ : Q (some (.int (nar t z))) h) (hk : k ≤ K := by decide) (hn : n ≤ N := by decide) : Run p l e R s m args below meth c Z own nm bytes maxL (some t) n0 (EndN s n0 Q K N) h k n (mkF m pc ls (.int z :: st)) := by
  intro C T locs X F E
  obtain ⟨fs, hr, hrun, hended, hW, hsame⟩ := X.leave (v := some (.int (nar t z))) (fun z => by rw [C.2.2.2.2.2.2.1] at z; cases z) C.2.2.2.2.2.2.2.1
  exact ⟨_, _, Jvm.RoadKit.retN X C.1 C.2.2.2.2.2.2.1 ht (C.2.1 ▸ hd) hr, hrun, hended, _, _, rfl, ⟨by show Q _ T.heap; rw [E]; exact hQ, F⟩, ⟨_, rfl⟩, hW, hsame.mono hk hn⟩
theorem Run.retI {Q : Option Value → Heap → Prop} {K N : Nat} {z : Int32} (hd : decode bytes pc = .ok (.ireturn, 1)) (hQ : Q (some (.int z)) h) (hk : k ≤ K := by decide) (hn : n ≤ N := by decide) : Run p l e R s m args below meth c Z own nm bytes maxL (some .int) n0 (EndN s n0 Q K N) h k n (mkF m pc ls (.int z :: st)) := by
  intro C T locs X F E
  obtain ⟨fs, hr, hrun, hended, hW, hsame⟩ := X.leave (v := some (.int z)) (fun z => by rw [C.2.2.2.2.2.2.1] at z; cases z) C.2.2.2.2.2.2.2.1
  exact ⟨_, _, own_retI X C.1 C.2.2.2.2.2.2.1 (C.2.1 ▸ hd) hr, hrun, hended, _, _, rfl, ⟨by show Q _ T.heap; rw [E]; exact hQ, F⟩, ⟨_, rfl⟩, hW, hsame.mono hk hn⟩
theorem Run.retJ {Q : Option Value → Heap → Prop} {K N : Nat} {z : Int64} (hd : decode bytes pc = .ok (.lreturn, 1)) (hQ : Q (some (.long z)) h) (hk : k ≤ K := by decide) (hn : n ≤ N := by decide) : Run p l e R s m args below meth c Z own nm bytes maxL (some .long) n0 (EndN s n0 Q K N) h k n (mkF m pc ls [.long z]) := by
  intro C T locs X F E
  obtain ⟨fs, hr, hrun, hended, hW, hsame⟩ := X.leave (v := some (.long z)) (fun z => by rw [C.2.2.2.2.2.2.1] at z; cases z) C.2.2.2.2.2.2.2.1
  exact ⟨_, _, X.lreturnOut C.1 C.2.2.2.2.2.2.1 (C.2.1 ▸ hd) hr, hrun, hended, _, _, rfl, ⟨by show Q _ T.heap; rw [E]; exact hQ, F⟩, ⟨_, rfl⟩, hW, hsame.mono hk hn⟩
theorem Run.retV {Q : Option Value → Heap → Prop} {K N : Nat}  (hd : decode bytes pc = .ok (.return_, 1)) (hQ : Q (none) h) (hk : k ≤ K := by decide) (hn : n ≤ N := by decide) : Run p l e R s m args below meth c Z own nm bytes maxL none n0 (EndN s n0 Q K N) h k n (mkF m pc ls []) := by
  intro C T locs X F E
  obtain ⟨fs, hr, hrun, hended, hW, hsame⟩ := X.leave (v := none) (fun _ => rfl) C.2.2.2.2.2.2.2.1
  exact ⟨_, _, X.returnOut C.1 C.2.2.2.2.2.2.1 (C.2.1 ▸ hd) hr, hrun, hended, _, _, rfl, ⟨by show Q _ T.heap; rw [E]; exact hQ, F⟩, ⟨_, rfl⟩, hW, hsame.mono hk hn⟩
theorem Run.retA {Q : Option Value → Heap → Prop} {K N : Nat} {v : Value} {t : FieldType} (hv : v.isRef = true) (ht : t.isReference = true) (hd : decode bytes pc = .ok (.areturn, 1)) (hQ : Q (some v) h) (hk : k ≤ K := by decide) (hn : n ≤ N := by decide) : Run p l e R s m args below meth c Z own nm bytes maxL (some t) n0 (EndN s n0 Q K N) h k n (mkF m pc ls [v]) := by
  intro C T locs X F E
  obtain ⟨fs, hr, hrun, hended, hW, hsame⟩ := X.leave (v := some v) (fun z => by rw [C.2.2.2.2.2.2.1] at z; cases z) C.2.2.2.2.2.2.2.1
  exact ⟨_, _, X.areturnOut C.1 hv C.2.2.2.2.2.2.1 ht (C.2.1 ▸ hd) hr, hrun, hended, _, _, rfl, ⟨by show Q _ T.heap; rw [E]; exact hQ, F⟩, ⟨_, rfl⟩, hW, hsame.mono hk hn⟩
theorem Run.ret1 {Q : Option Value → Heap → Prop} {K N : Nat} (hd : decode bytes pc = .ok (.ireturn, 1)) (hQ : Q (some (.int 1)) h) (hk : k ≤ K := by decide) (hn : n ≤ N := by decide) : Run p l e R s m args below meth c Z own nm bytes maxL (some .boolean) n0 (EndN s n0 Q K N) h k n (mkF m pc ls (.int (1 : Int32) :: st)) :=
  Run.retN .boolean (Or.inl rfl) hd (by rw [show nar .boolean 1 = 1 from by decide]; exact hQ) hk hn
theorem Run.ret0 {Q : Option Value → Heap → Prop} {K N : Nat} (hd : decode bytes pc = .ok (.ireturn, 1)) (hQ : Q (some (.int 0)) h) (hk : k ≤ K := by decide) (hn : n ≤ N := by decide) : Run p l e R s m args below meth c Z own nm bytes maxL (some .boolean) n0 (EndN s n0 Q K N) h k n (mkF m pc ls (.int (0 : Int32) :: st)) :=
  Run.retN .boolean (Or.inl rfl) hd (by rw [show nar .boolean 0 = 0 from by decide]; exact hQ) hk hn
theorem Run.retX {Q : Option Value → Heap → Prop} {K N : Nat} {z w : Int32} (t : FieldType) (ht : t = .boolean ∨ t = .byte ∨ t = .char ∨ t = .short) (hd : decode bytes pc = .ok (.ireturn, 1)) (hQ : Q (some (.int w)) h) (hv : nar t z = w := by rfl) (hk : k ≤ K := by decide) (hn : n ≤ N := by decide) : Run p l e R s m args below meth c Z own nm bytes maxL (some t) n0 (EndN s n0 Q K N) h k n (mkF m pc ls (.int z :: st)) :=
  Run.retN t ht hd (by rw [hv]; exact hQ) hk hn
theorem Run.getF {R0 O f d host : String} {i : Nat} {a : Addr} {v : Value} (q : Nat) (w : (Jvm.Cond.fieldLink own i R0 f d).before a0 Z = true ∨ (Jvm.Cond.fieldLinkNest own i R0 f d host).before a0 Z = true) (via : Via Z R0 O f d) (F : Fld Z h a O f d v) (hd : decode bytes pc = .ok (.getfield i, 3)) (hr : Run p l e R s m args below meth c Z own nm bytes maxL ret n0 EE h k n (mkF m q ls (v :: st))) (hq : q = pc + 3 := by rfl) : Run p l e R s m args below meth c Z own nm bytes maxL ret n0 EE h k n (mkF m pc ls (.ref a :: st)) := by
  subst hq; intro C T locs X Fr0 E
  obtain ⟨T', X', e', st'⟩ := Jvm.RoadKit.getF X C.1 C.2.2.2.2.2.1 C.2.2.2.1 (host := host) w via E F (g := mkF m pc ls (.ref a :: st)) rfl rfl (C.2.1 ▸ hd)
  obtain ⟨s₂, o, q1, q2⟩ := hr C T' locs X' Fr0 e'
  exact ⟨s₂, o, st' _ q1, q2⟩
theorem Run.getS {R0 O f d host : String} {i : Nat} {v : Value} (q : Nat) (w : (Jvm.Cond.fieldLink own i R0 f d).before a0 Z = true ∨ (Jvm.Cond.fieldLinkNest own i R0 f d host).before a0 Z = true) (via : Via Z R0 O f d) (F : Sta Z h O f d v) (hd : decode bytes pc = .ok (.getstatic i, 3)) (hr : Run p l e R s m args below meth c Z own nm bytes maxL ret n0 EE h k n (mkF m q ls (v :: st))) (hq : q = pc + 3 := by rfl) : Run p l e R s m args below meth c Z own nm bytes maxL ret n0 EE h k n (mkF m pc ls st) := by
  subst hq; intro C T locs X Fr0 E
  obtain ⟨T', X', e', st'⟩ := Jvm.RoadKit.getS2 X C.1 C.2.2.2.2.2.1 C.2.2.2.1 (host := host) w via E F (g := mkF m pc ls st) rfl (C.2.1 ▸ hd)
  obtain ⟨s₂, o, q1, q2⟩ := hr C T' locs X' Fr0 e'
  exact ⟨s₂, o, st' _ q1, q2⟩
theorem Run.putF {R0 O f d host CL : String} {i kk : Nat} {a : Addr} {v old : Value} {ty : FieldType} (q : Nat) (w : (Jvm.Cond.fieldLink own i R0 f d).before a0 Z = true ∨ (Jvm.Cond.fieldLinkNest own i R0 f d host).before a0 Z = true) (via : Via Z R0 O f d) (F : Fld Z h a O f d old) (EX : Exa Z h a CL) (L : (Jvm.Cond.lays CL O f d).before a0 Z = true ∨ ((Jvm.Cond.laysFinal CL O f d).before a0 Z = true ∧ own = O ∧ nm = "<init>")) (wi : (Jvm.Cond.instantiable CL kk).before a0 Z = true) (hty : parseFieldDescriptor d = some ty) (ga : n0 ≤ a) (hd : decode bytes pc = .ok (.putfield i, 3)) (hr : ∀ h' : Heap, Wr h h' a (Jvm.RoadKit.slotOf Z O f d) v → Run p l e R s m args below meth c Z own nm bytes maxL ret n0 EE h' k n (mkF m q ls st)) (hn : narrow ty v = v := by rfl) (hf : fits ty v = true := by rfl) (hq : q = pc + 3 := by rfl) : Run p l e R s m args below meth c Z own nm bytes maxL ret n0 EE h k n (mkF m pc ls (v :: .ref a :: st)) := by
  subst hq; intro C T locs X Fr0 E
  obtain ⟨T', h', X', e', W, st'⟩ := Jvm.RoadKit.putF X C.1 C.2.2.2.2.2.1 C.2.2.2.1 (host := host) w via E F EX (L.imp id fun z => ⟨z.1, z.2.1, C.2.2.2.2.1.trans z.2.2⟩) wi hty hn hf (g := mkF m pc ls (v :: .ref a :: st)) rfl rfl (C.2.1 ▸ hd)
  obtain ⟨s₂, o, q1, q2⟩ := hr h' W C T' _ X' (Fr.snoc X' Fr0 ga) e'
  exact ⟨s₂, o, st' _ q1, q2⟩
theorem Run.new {CL : String} {i sz : Nat} (q : Nat) (w : (Jvm.Cond.classLink own i CL).before a0 Z = true) (wi : (Jvm.Cond.instantiable CL sz).before a0 Z = true) (wz : (Jvm.Cond.initialized CL).before a0 Z = true) (hd : decode bytes pc = .ok (.new i, 3)) (hr : ∀ (h' : Heap) (a : Addr), a = h.size → n0 ≤ a → Ext h h' → Exa Z h' a CL → (∀ {O f d : String} {ty : FieldType}, Laid Z a0 CL O f d → parseFieldDescriptor d = some ty → Fld Z h' a O f d (defaultValue ty)) → Run p l e R s m args below meth c Z own nm bytes maxL ret n0 EE h' (k + 1) (n + sz) (mkF m q ls (.ref a :: st))) (hc : k + 1 ≤ R.cells := by decide) (hl : n + sz ≤ R.slots := by decide) (hq : q = pc + 3 := by rfl) : Run p l e R s m args below meth c Z own nm bytes maxL ret n0 EE h k n (mkF m pc ls st) := by
  subst hq; refine Run.sz fun hs => ?_; intro C T locs X Fr0 E
  obtain ⟨T', h', X', e', EX, A, D, -, st'⟩ := newO X C.1 C.2.2.2.2.2.1 C.2.2.2.1 w wi wz E (g := mkF m pc ls st) rfl (C.2.1 ▸ hd) hc hl
  obtain ⟨s₂, o, q1, q2⟩ := hr h' h.size rfl hs EX A (fun L t => D L t) C T' locs X' Fr0 e'
  exact ⟨s₂, o, st' _ q1, q2⟩
theorem Run.initO {i : Nat} {a : Addr} (q W : Nat) (w1 : (Jvm.Cond.methodLink own i Lib.objectInit).before a0 Z = true) (w2 : (Jvm.Cond.instanceMethod Lib.objectInit).before a0 Z = true) (w3 : (Jvm.Cond.code Lib.objectInit Jvm.Pilot.@@N@@.object_method_1_code 1 none).before a0 Z = true) (hd : decode bytes pc = .ok (.invokespecial i, 3)) (hr : Run p l e R s m args below meth c Z own nm bytes maxL ret n0 EE h k n (mkF m q ls st)) (hsz : ls.size = maxL := by rfl) (hf : 1 ≤ R.frames := by decide) (hW : (st.map fun v => v.category).sum ≤ W := by first | exact Nat.le_of_eq rfl | decide) (hl : W + 12 ≤ R.locals := by decide) (hq : q = pc + 3 := by rfl) : Run p l e R s m args below meth c Z own nm bytes maxL ret n0 EE h k n (mkF m pc ls (.ref a :: st)) := by
  subst hq; intro C T locs X Fr0 E
  obtain ⟨T', X', e', st'⟩ := Jvm.RoadKit.initO X C.1 C.2.2.2.2.2.1 C.2.2.2.1 w1 w2 w3 E (g := mkF m pc ls (.ref a :: st)) rfl (by rw [C.2.2.1]; exact hsz) rfl (C.2.1 ▸ hd) hf (W := W) (by show 2 * 0 + _ ≤ _; omega) hl
  obtain ⟨s₂, o, q1, q2⟩ := hr C T' locs X' Fr0 e'
  exact ⟨s₂, o, st' _ q1, q2⟩
theorem Run.callS {y : MethodName} {bytes' : ByteArray} {maxL' : Nat} {ret' : Option FieldType} {rm : Room} {Q' : Option Value → Heap → Prop} {i : Nat} {argsL : List Value} (q W : Nat) (P : Pays l Z y bytes' maxL' ret' rm argsL.toArray h n0 Q') (w1 : (Jvm.Cond.methodLink own i y).before a0 Z = true) (w2 : (Jvm.Cond.static y).before a0 Z = true) (w3 : (Jvm.Cond.initialized y.cls).before a0 Z = true) (w4 : (Jvm.Cond.code y bytes' maxL' ret').before a0 Z = true) {sig : MethodDescriptor} (hsig : parseMethodDescriptor y.desc = some sig) (hd : decode bytes pc = .ok (.invokestatic i, 3)) {stk : List Value} (hr : ∀ (v : Option Value) (h' : Heap), Q' v h' → Run p l e R s m args below meth c Z own nm bytes maxL ret n0 EE h' (k + rm.cells) (n + rm.slots) (mkF m q ls (v.toList ++ st))) (hlen : argsL.length = sig.parameters.length := by rfl) (hstk : stk = argsL.reverse ++ st := by rfl) (hsz : ls.size = maxL := by rfl) (hf : rm.frames + 1 ≤ R.frames := by decide) (hW : (st.map fun v => v.category).sum ≤ W := by first | exact Nat.le_of_eq rfl | decide) (hl : W + (maxL' + 11) + rm.locals ≤ R.locals := by decide) (hc : k + rm.cells ≤ R.cells := by decide) (hs : n + rm.slots ≤ R.slots := by decide) (hy : y.cls ≠ "java/lang/invoke/MethodHandle" ∧ y.cls ≠ "java/lang/invoke/VarHandle" := by decide) (hq : q = pc + 3 := by rfl) : Run p l e R s m args below meth c Z own nm bytes maxL ret n0 EE h k n (mkF m pc ls stk) := by
  subst hq; intro C T locs X Fr0 E
  have hZ := C.2.2.2.2.2.1
  obtain ⟨v', _, ⟨T', L', k', n'⟩, -, X', ⟨Lc', hQ', l', y', z'⟩, st'⟩ := Jvm.LawKit.callS X C.1 (y := y) C.2.2.2.1 (mvT hZ w1) (mvT hZ w2) (mvT hZ w3) (mvT hZ w4) hy (backOf (W := W) (Q := fun v h L => Q' v h ∧ Fr n0 L) (P []) hZ w4 w3 hf hl) (g := mkF m pc ls stk) rfl (by rw [C.2.2.1]; exact hsz) (argsL := argsL) (rest := st) (lenOf hsig hlen) hstk (by show 2 * 0 + _ ≤ _; omega) (C.2.1 ▸ hd) (fun _ _ => ⟨rfl, E, hc, hs⟩)
  dsimp only [Pt.U, Pt.locs, Pt.cells, Pt.slots] at X' l' y' z' st' hQ'
  subst l' y' z'
  obtain ⟨hQ1, N'⟩ := hQ'
  obtain ⟨s₂, o, q1, q2⟩ := hr v' _ hQ1 C T' _ X' (Fr.app Fr0 N') rfl
  exact ⟨s₂, o, st' _ q1, q2⟩
theorem Run.callC {y : MethodName} {bytes' : ByteArray} {maxL' : Nat} {rm : Room} {Q' : Option Value → Heap → Prop} {i : Nat} {a : Addr} {argsL : List Value} (q W : Nat) (P : Pays l Z y bytes' maxL' none rm (.ref a :: argsL).toArray h n0 Q') (w1 : (Jvm.Cond.methodLink own i y).before a0 Z = true) (w2 : (Jvm.Cond.instanceMethod y).before a0 Z = true) (w3 : (Jvm.Cond.initialized y.cls).before a0 Z = true) (w4 : (Jvm.Cond.code y bytes' maxL' none).before a0 Z = true) {sig : MethodDescriptor} (hsig : parseMethodDescriptor y.desc = some sig) (hd : decode bytes pc = .ok (.invokespecial i, 3)) {stk : List Value} (hr : ∀ (v : Option Value) (h' : Heap), Q' v h' → Run p l e R s m args below meth c Z own nm bytes maxL ret n0 EE h' (k + rm.cells) (n + rm.slots) (mkF m q ls (v.toList ++ st))) (hy1 : y.name = "<init>" := by rfl) (hlen : argsL.length = sig.parameters.length := by rfl) (hstk : stk = argsL.reverse ++ .ref a :: st := by rfl) (hsz : ls.size = maxL := by rfl) (hf : rm.frames + 1 ≤ R.frames := by decide) (hW : (st.map fun v => v.category).sum ≤ W := by first | exact Nat.le_of_eq rfl | decide) (hl : W + (maxL' + 11) + rm.locals ≤ R.locals := by decide) (hc : k + rm.cells ≤ R.cells := by decide) (hs : n + rm.slots ≤ R.slots := by decide) (hy : y.cls ≠ "java/lang/invoke/MethodHandle" ∧ y.cls ≠ "java/lang/invoke/VarHandle" := by decide) (hq : q = pc + 3 := by rfl) : Run p l e R s m args below meth c Z own nm bytes maxL ret n0 EE h k n (mkF m pc ls stk) := by
  subst hq; intro C T locs X Fr0 E
  have hZ := C.2.2.2.2.2.1
  obtain ⟨v', _, ⟨T', L', k', n'⟩, -, X', ⟨Lc', hQ', l', y', z'⟩, st'⟩ := X.specialBack C.1 (y := y) hy1 C.2.2.2.1 (mvT hZ w1) (mvT hZ w2) (mvT hZ w4) hy (backOf (W := W) (Q := fun v h L => Q' v h ∧ Fr n0 L) (P []) hZ w4 w3 hf hl) (g := mkF m pc ls stk) rfl (by rw [C.2.2.1]; exact hsz) (Steps.refl _) (a := a) (argsL := argsL) (rest := st) (lenOf hsig hlen) hstk (by show 2 * 0 + _ ≤ _; omega) (C.2.1 ▸ hd) (fun _ _ => ⟨rfl, E, hc, hs⟩)
  dsimp only [Pt.U, Pt.locs, Pt.cells, Pt.slots] at X' l' y' z' st' hQ'
  subst l' y' z'
  obtain ⟨hQ1, N'⟩ := hQ'
  obtain ⟨s₂, o, q1, q2⟩ := hr v' _ hQ1 C T' _ X' (Fr.app Fr0 N') rfl
  exact ⟨s₂, o, st'.trans q1, q2⟩
theorem Run.callV {y : MethodName} {bytes' : ByteArray} {maxL' : Nat} {ret' : Option FieldType} {rm : Room} {Q' : Option Value → Heap → Prop} {i : Nat} {CL : String} {a : Addr} {argsL : List Value} (q W : Nat) (P : Pays l Z y bytes' maxL' ret' rm (.ref a :: argsL).toArray h n0 Q') (EX : Exa Z h a CL) (w1 : (Jvm.Cond.methodLink own i y).before a0 Z = true) (w2 : (Jvm.Cond.declares y).before a0 Z = true) (w5 : (Jvm.Cond.selects CL y y).before a0 Z = true) (w6 : (Jvm.Cond.instanceMethod y).before a0 Z = true) (w3 : (Jvm.Cond.initialized y.cls).before a0 Z = true) (w4 : (Jvm.Cond.code y bytes' maxL' ret').before a0 Z = true) {sig : MethodDescriptor} (hsig : parseMethodDescriptor y.desc = some sig) (hd : decode bytes pc = .ok (.invokevirtual i, 3)) {stk : List Value} (hr : ∀ (v : Option Value) (h' : Heap), Q' v h' → Run p l e R s m args below meth c Z own nm bytes maxL ret n0 EE h' (k + rm.cells) (n + rm.slots) (mkF m q ls (v.toList ++ st))) (hcl : CL = y.cls := by rfl) (hlen : argsL.length = sig.parameters.length := by rfl) (hstk : stk = argsL.reverse ++ .ref a :: st := by rfl) (hsz : ls.size = maxL := by rfl) (hf : rm.frames + 1 ≤ R.frames := by decide) (hW : (st.map fun v => v.category).sum ≤ W := by first | exact Nat.le_of_eq rfl | decide) (hl : W + (maxL' + 11) + rm.locals ≤ R.locals := by decide) (hc : k + rm.cells ≤ R.cells := by decide) (hs : n + rm.slots ≤ R.slots := by decide) (hy : y.cls ≠ "java/lang/invoke/MethodHandle" ∧ y.cls ≠ "java/lang/invoke/VarHandle" := by decide) (hq : q = pc + 3 := by rfl) : Run p l e R s m args below meth c Z own nm bytes maxL ret n0 EE h k n (mkF m pc ls stk) := by
  subst hq; subst hcl; intro C T locs X Fr0 E
  have hZ := C.2.2.2.2.2.1
  obtain ⟨cq, kq, qa, qb, qc⟩ := isOf hZ E EX
  obtain ⟨v', _, ⟨T', L', k', n'⟩, -, X', ⟨Lc', hQ', l', y', z'⟩, st'⟩ := X.virtualBack C.1 (y := y) (z := y) C.2.2.2.1 (mvT hZ w1) (mvT hZ w2) (notFace_of_selects (args := #[]) (mvT hZ w5)) (mvT hZ w5) (mvT hZ w6) hy (backOf (W := W) (Q := fun v h L => Q' v h ∧ Fr n0 L) (P []) hZ w4 w3 hf hl) qa qc (g := mkF m pc ls stk) rfl (by rw [C.2.2.1]; exact hsz) (Steps.refl _) (argsL := argsL) (rest := st) (lenOf hsig hlen) hstk (by show 2 * 0 + _ ≤ _; omega) (C.2.1 ▸ hd) (fun _ _ => ⟨rfl, E, hc, hs⟩)
  dsimp only [Pt.U, Pt.locs, Pt.cells, Pt.slots] at X' l' y' z' st' hQ'
  subst l' y' z'
  obtain ⟨hQ1, N'⟩ := hQ'
  obtain ⟨s₂, o, q1, q2⟩ := hr v' _ hQ1 C T' _ X' (Fr.app Fr0 N') rfl
  exact ⟨s₂, o, st'.trans q1, q2⟩
/-- an array of int-like values: n places, place i holds f i -/
def AI (Z : State) (h : Heap) (a : Addr) (ty : FieldType) (n : Nat) (f : Nat → Int32) : Prop := n < 2 ^ 31 ∧ ∃ cl : Cell, Arr Z h a cl ty ∧ cl.slots.size = n ∧ ∀ i, i < n → cl.slots[i]? = some (.int (f i))
def AJ (Z : State) (h : Heap) (a : Addr) (n : Nat) (f : Nat → Int64) : Prop := n < 2 ^ 31 ∧ ∃ cl : Cell, Arr Z h a cl .long ∧ cl.slots.size = n ∧ ∀ i, i < n → cl.slots[i]? = some (.long (f i))
def oupd {α : Type} (f : Nat → α) (i : Nat) (v : α) : Nat → α := fun j => if j = i then v else f j
theorem oupd_same {α : Type} (f : Nat → α) (i : Nat) (v : α) : oupd f i v i = v := if_pos rfl
theorem oupd_other {α : Type} (f : Nat → α) {i j : Nat} (v : α) (h : j ≠ i) : oupd f i v j = f j := if_neg h

theorem AI.lt {a : Addr} {ty : FieldType} {nn : Nat} {f : Nat → Int32} (F : AI Z h a ty nn f) : a < h.size := by obtain ⟨_, c, A, -⟩ := F; exact A.lt
theorem AI.ext {a : Addr} {h' : Heap} {ty : FieldType} {nn : Nat} {f : Nat → Int32} (F : AI Z h a ty nn f) (E : Ext h h') : AI Z h' a ty nn f := by obtain ⟨z, c, A, r⟩ := F; exact ⟨z, c, A.ext E, r⟩
theorem AI.other {a b : Addr} {h' : Heap} {sl : Nat} {v : Value} {ty : FieldType} {nn : Nat} {f : Nat → Int32} (F : AI Z h a ty nn f) (W : Wr h h' b sl v) (q : a ≠ b) : AI Z h' a ty nn f := by obtain ⟨z, c, A, r⟩ := F; exact ⟨z, c, A.other W q, r⟩
theorem AI.keep {a : Addr} {h' : Heap} {ws : List Addr} {ty : FieldType} {nn : Nat} {f : Nat → Int32} (F : AI Z h a ty nn f) (KP : Keep h h' ws) (q : a ∉ ws) : AI Z h' a ty nn f := by obtain ⟨z, c, A, r⟩ := F; exact ⟨z, c, ⟨KP.2.1 a c A.1 q, A.2⟩, r⟩
theorem AI.set {a : Addr} {h' : Heap} {ty : FieldType} {nn : Nat} {f : Nat → Int32} {i : Nat} {v : Int32} (F : AI Z h a ty nn f) (hi : i < nn) (W : Wr h h' a i (.int v)) : AI Z h' a ty nn (oupd f i v) := by
  obtain ⟨z, c, A, r1, r2⟩ := F
  refine ⟨z, c.setSlot i (.int v), A.same W, by rw [sz_set, r1], fun j hj => ?_⟩
  by_cases q : j = i
  · subst q; rw [oupd_same]; simp [Cell.setSlot, Array.getElem?_setIfInBounds, r1, hi]
  · rw [oupd_other _ _ q, ← r2 j hj]; simp [Cell.setSlot, Array.getElem?_setIfInBounds, Ne.symm q]
theorem AI.cong {a : Addr} {ty : FieldType} {nn : Nat} {f : Nat → Int32} {f' : Nat → Int32} (F : AI Z h a ty nn f) (q : ∀ i, i < nn → f i = f' i) : AI Z h a ty nn f' := by
  obtain ⟨z, c, A, r1, r2⟩ := F; exact ⟨z, c, A, r1, fun i hi => by rw [← q i hi]; exact r2 i hi⟩
theorem AJ.lt {a : Addr} {nn : Nat} {f : Nat → Int64} (F : AJ Z h a nn f) : a < h.size := by obtain ⟨_, c, A, -⟩ := F; exact A.lt
theorem AJ.ext {a : Addr} {h' : Heap} {nn : Nat} {f : Nat → Int64} (F : AJ Z h a nn f) (E : Ext h h') : AJ Z h' a nn f := by obtain ⟨z, c, A, r⟩ := F; exact ⟨z, c, A.ext E, r⟩
theorem AJ.other {a b : Addr} {h' : Heap} {sl : Nat} {v : Value} {nn : Nat} {f : Nat → Int64} (F : AJ Z h a nn f) (W : Wr h h' b sl v) (q : a ≠ b) : AJ Z h' a nn f := by obtain ⟨z, c, A, r⟩ := F; exact ⟨z, c, A.other W q, r⟩
theorem AJ.keep {a : Addr} {h' : Heap} {ws : List Addr} {nn : Nat} {f : Nat → Int64} (F : AJ Z h a nn f) (KP : Keep h h' ws) (q : a ∉ ws) : AJ Z h' a nn f := by obtain ⟨z, c, A, r⟩ := F; exact ⟨z, c, ⟨KP.2.1 a c A.1 q, A.2⟩, r⟩
theorem AJ.set {a : Addr} {h' : Heap} {nn : Nat} {f : Nat → Int64} {i : Nat} {v : Int64} (F : AJ Z h a nn f) (hi : i < nn) (W : Wr h h' a i (.long v)) : AJ Z h' a nn (oupd f i v) := by
  obtain ⟨z, c, A, r1, r2⟩ := F
  refine ⟨z, c.setSlot i (.long v), A.same W, by rw [sz_set, r1], fun j hj => ?_⟩
  by_cases q : j = i
  · subst q; rw [oupd_same]; simp [Cell.setSlot, Array.getElem?_setIfInBounds, r1, hi]
  · rw [oupd_other _ _ q, ← r2 j hj]; simp [Cell.setSlot, Array.getElem?_setIfInBounds, Ne.symm q]
theorem AJ.cong {a : Addr} {nn : Nat} {f : Nat → Int64} {f' : Nat → Int64} (F : AJ Z h a nn f) (q : ∀ i, i < nn → f i = f' i) : AJ Z h a nn f' := by
  obtain ⟨z, c, A, r1, r2⟩ := F; exact ⟨z, c, A, r1, fun i hi => by rw [← q i hi]; exact r2 i hi⟩
theorem inb {cl : Cell} {j : Int32} {nn : Nat} (S : cl.slots.size = nn) (hj : 0 ≤ j.toInt ∧ j.toInt < nn) : ¬ (j < 0 ∨ cl.slots.size ≤ j.toNatClampNeg) := by
  have h1 : (j.toNatClampNeg : Int) = j.toInt := by rw [show j.toNatClampNeg = j.toInt.toNat from rfl]; omega
  rw [Int32.lt_iff_toInt_lt, S]; simp only [show (0 : Int32).toInt = 0 from by decide]; omega
theorem inn {j : Int32} {nn : Nat} (hj : 0 ≤ j.toInt ∧ j.toInt < nn) : j.toNatClampNeg < nn := by
  rw [show j.toNatClampNeg = j.toInt.toNat from rfl]; omega

theorem Run.iaload {a : Addr} {nn : Nat} {f : Nat → Int32} {j : Int32} (w : Int32) (q : Nat) (F : AI Z h a .int nn f) (hj : 0 ≤ j.toInt ∧ j.toInt < nn) (hd : decode bytes pc = .ok (.iaload, 1)) (hr : Run p l e R s m args below meth c Z own nm bytes maxL ret n0 EE h k n (mkF m q ls (.int w :: st))) (hv : f j.toNatClampNeg = w := by rfl) (hq : q = pc + 1 := by rfl) : Run p l e R s m args below meth c Z own nm bytes maxL ret n0 EE h k n (mkF m pc ls (.int j :: .ref a :: st)) := by
  subst hq hv; intro C T locs X Fr0 E
  obtain ⟨-, cl, A, r1, r2⟩ := F
  obtain ⟨s₂, o, q1, q2⟩ := hr C T locs X Fr0 E
  exact ⟨s₂, o, X.iaload C.1 (j := j) (by rw [E]; exact A.1) (State.isArrayOf_alike C.2.2.2.2.2.1.alike A.2.1) A.2.2 (inb r1 hj) (r2 _ (inn hj)) (g := mkF m pc ls (.int j :: .ref a :: st)) rfl rfl (C.2.1 ▸ hd) _ q1, q2⟩
theorem Run.baload {a : Addr} {nn : Nat} {f : Nat → Int32} {j : Int32} (w : Int32) (q : Nat) (F : AI Z h a .byte nn f) (hj : 0 ≤ j.toInt ∧ j.toInt < nn) (hd : decode bytes pc = .ok (.baload, 1)) (hr : Run p l e R s m args below meth c Z own nm bytes maxL ret n0 EE h k n (mkF m q ls (.int w :: st))) (hv : f j.toNatClampNeg = w := by rfl) (hq : q = pc + 1 := by rfl) : Run p l e R s m args below meth c Z own nm bytes maxL ret n0 EE h k n (mkF m pc ls (.int j :: .ref a :: st)) := by
  subst hq hv; intro C T locs X Fr0 E
  obtain ⟨-, cl, A, r1, r2⟩ := F
  obtain ⟨s₂, o, q1, q2⟩ := hr C T locs X Fr0 E
  exact ⟨s₂, o, X.baloadBytes C.1 (j := j) (by rw [E]; exact A.1) (State.isArrayOf_alike C.2.2.2.2.2.1.alike A.2.1) A.2.2 (inb r1 hj) (r2 _ (inn hj)) (g := mkF m pc ls (.int j :: .ref a :: st)) rfl rfl (C.2.1 ▸ hd) _ q1, q2⟩
theorem Run.caload {a : Addr} {nn : Nat} {f : Nat → Int32} {j : Int32} (w : Int32) (q : Nat) (F : AI Z h a .char nn f) (hj : 0 ≤ j.toInt ∧ j.toInt < nn) (hd : decode bytes pc = .ok (.caload, 1)) (hr : Run p l e R s m args below meth c Z own nm bytes maxL ret n0 EE h k n (mkF m q ls (.int w :: st))) (hv : f j.toNatClampNeg = w := by rfl) (hq : q = pc + 1 := by rfl) : Run p l e R s m args below meth c Z own nm bytes maxL ret n0 EE h k n (mkF m pc ls (.int j :: .ref a :: st)) := by
  subst hq hv; intro C T locs X Fr0 E
  obtain ⟨-, cl, A, r1, r2⟩ := F
  obtain ⟨s₂, o, q1, q2⟩ := hr C T locs X Fr0 E
  exact ⟨s₂, o, X.caload C.1 (j := j) (by rw [E]; exact A.1) (State.isArrayOf_alike C.2.2.2.2.2.1.alike A.2.1) A.2.2 (inb r1 hj) (r2 _ (inn hj)) (g := mkF m pc ls (.int j :: .ref a :: st)) rfl rfl (C.2.1 ▸ hd) _ q1, q2⟩
theorem Run.saload {a : Addr} {nn : Nat} {f : Nat → Int32} {j : Int32} (w : Int32) (q : Nat) (F : AI Z h a .short nn f) (hj : 0 ≤ j.toInt ∧ j.toInt < nn) (hd : decode bytes pc = .ok (.saload, 1)) (hr : Run p l e R s m args below meth c Z own nm bytes maxL ret n0 EE h k n (mkF m q ls (.int w :: st))) (hv : f j.toNatClampNeg = w := by rfl) (hq : q = pc + 1 := by rfl) : Run p l e R s m args below meth c Z own nm bytes maxL ret n0 EE h k n (mkF m pc ls (.int j :: .ref a :: st)) := by
  subst hq hv; intro C T locs X Fr0 E
  obtain ⟨-, cl, A, r1, r2⟩ := F
  obtain ⟨s₂, o, q1, q2⟩ := hr C T locs X Fr0 E
  exact ⟨s₂, o, X.saload C.1 (j := j) (by rw [E]; exact A.1) (State.isArrayOf_alike C.2.2.2.2.2.1.alike A.2.1) A.2.2 (inb r1 hj) (r2 _ (inn hj)) (g := mkF m pc ls (.int j :: .ref a :: st)) rfl rfl (C.2.1 ▸ hd) _ q1, q2⟩
theorem Run.laload {a : Addr} {nn : Nat} {f : Nat → Int64} {j : Int32} (w : Int64) (q : Nat) (F : AJ Z h a nn f) (hj : 0 ≤ j.toInt ∧ j.toInt < nn) (hd : decode bytes pc = .ok (.laload, 1)) (hr : Run p l e R s m args below meth c Z own nm bytes maxL ret n0 EE h k n (mkF m q ls (.long w :: st))) (hv : f j.toNatClampNeg = w := by rfl) (hq : q = pc + 1 := by rfl) : Run p l e R s m args below meth c Z own nm bytes maxL ret n0 EE h k n (mkF m pc ls (.int j :: .ref a :: st)) := by
  subst hq hv; intro C T locs X Fr0 E
  obtain ⟨-, cl, A, r1, r2⟩ := F
  obtain ⟨s₂, o, q1, q2⟩ := hr C T locs X Fr0 E
  exact ⟨s₂, o, X.laload C.1 (j := j) (by rw [E]; exact A.1) (State.isArrayOf_alike C.2.2.2.2.2.1.alike A.2.1) A.2.2 (inb r1 hj) (r2 _ (inn hj)) (g := mkF m pc ls (.int j :: .ref a :: st)) rfl rfl (C.2.1 ▸ hd) _ q1, q2⟩
theorem Run.iastore {a : Addr} {nn : Nat} {f : Nat → Int32} {j v : Int32} (w : Int32) (q : Nat) (F : AI Z h a .int nn f) (hj : 0 ≤ j.toInt ∧ j.toInt < nn) (ga : n0 ≤ a) (hd : decode bytes pc = .ok (.iastore, 1)) (hr : ∀ h' : Heap, Wr h h' a j.toNatClampNeg (.int w) → AI Z h' a .int nn (oupd f j.toNatClampNeg w) → Run p l e R s m args below meth c Z own nm bytes maxL ret n0 EE h' k n (mkF m q ls st)) (hv : v = w := by rfl) (hq : q = pc + 1 := by rfl) : Run p l e R s m args below meth c Z own nm bytes maxL ret n0 EE h k n (mkF m pc ls (.int v :: .int j :: .ref a :: st)) := by
  subst hq hv; intro C T locs X Fr0 E
  have F0 := F
  obtain ⟨-, cl, A, r1, r2⟩ := F
  obtain ⟨T', h', X', e', W, st'⟩ := stI X C.1 C.2.2.2.2.2.1 E A (j := j) (x := v) (inb r1 hj) (g := mkF m pc ls (.int v :: .int j :: .ref a :: st)) rfl rfl (C.2.1 ▸ hd)
  obtain ⟨s₂, o, q1, q2⟩ := hr h' W (F0.set (inn hj) W) C T' _ X' (Fr.snoc X' Fr0 ga) e'
  exact ⟨s₂, o, st' _ q1, q2⟩
theorem Run.bastore {a : Addr} {nn : Nat} {f : Nat → Int32} {j v : Int32} (w : Int32) (q : Nat) (F : AI Z h a .byte nn f) (hj : 0 ≤ j.toInt ∧ j.toInt < nn) (ga : n0 ≤ a) (hd : decode bytes pc = .ok (.bastore, 1)) (hr : ∀ h' : Heap, Wr h h' a j.toNatClampNeg (.int w) → AI Z h' a .byte nn (oupd f j.toNatClampNeg w) → Run p l e R s m args below meth c Z own nm bytes maxL ret n0 EE h' k n (mkF m q ls st)) (hv : (nar .byte v) = w := by rfl) (hq : q = pc + 1 := by rfl) : Run p l e R s m args below meth c Z own nm bytes maxL ret n0 EE h k n (mkF m pc ls (.int v :: .int j :: .ref a :: st)) := by
  subst hq hv; intro C T locs X Fr0 E
  have F0 := F
  obtain ⟨-, cl, A, r1, r2⟩ := F
  obtain ⟨T', h', X', e', W, st'⟩ := stB X C.1 C.2.2.2.2.2.1 E A (j := j) (x := v) (inb r1 hj) (g := mkF m pc ls (.int v :: .int j :: .ref a :: st)) rfl rfl (C.2.1 ▸ hd)
  obtain ⟨s₂, o, q1, q2⟩ := hr h' W (F0.set (inn hj) W) C T' _ X' (Fr.snoc X' Fr0 ga) e'
  exact ⟨s₂, o, st' _ q1, q2⟩
theorem Run.castore {a : Addr} {nn : Nat} {f : Nat → Int32} {j v : Int32} (w : Int32) (q : Nat) (F : AI Z h a .char nn f) (hj : 0 ≤ j.toInt ∧ j.toInt < nn) (ga : n0 ≤ a) (hd : decode bytes pc = .ok (.castore, 1)) (hr : ∀ h' : Heap, Wr h h' a j.toNatClampNeg (.int w) → AI Z h' a .char nn (oupd f j.toNatClampNeg w) → Run p l e R s m args below meth c Z own nm bytes maxL ret n0 EE h' k n (mkF m q ls st)) (hv : (nar .char v) = w := by rfl) (hq : q = pc + 1 := by rfl) : Run p l e R s m args below meth c Z own nm bytes maxL ret n0 EE h k n (mkF m pc ls (.int v :: .int j :: .ref a :: st)) := by
  subst hq hv; intro C T locs X Fr0 E
  have F0 := F
  obtain ⟨-, cl, A, r1, r2⟩ := F
  obtain ⟨T', h', X', e', W, st'⟩ := stC X C.1 C.2.2.2.2.2.1 E A (j := j) (x := v) (inb r1 hj) (g := mkF m pc ls (.int v :: .int j :: .ref a :: st)) rfl rfl (C.2.1 ▸ hd)
  obtain ⟨s₂, o, q1, q2⟩ := hr h' W (F0.set (inn hj) W) C T' _ X' (Fr.snoc X' Fr0 ga) e'
  exact ⟨s₂, o, st' _ q1, q2⟩
theorem Run.lastore {a : Addr} {nn : Nat} {f : Nat → Int64} {j : Int32} {v : Int64} (q : Nat) (F : AJ Z h a nn f) (hj : 0 ≤ j.toInt ∧ j.toInt < nn) (ga : n0 ≤ a) (hd : decode bytes pc = .ok (.lastore, 1)) (hr : ∀ h' : Heap, Wr h h' a j.toNatClampNeg (.long v) → AJ Z h' a nn (oupd f j.toNatClampNeg v) → Run p l e R s m args below meth c Z own nm bytes maxL ret n0 EE h' k n (mkF m q ls st)) (hq : q = pc + 1 := by rfl) : Run p l e R s m args below meth c Z own nm bytes maxL ret n0 EE h k n (mkF m pc ls (.long v :: .int j :: .ref a :: st)) := by
  subst hq; intro C T locs X Fr0 E
  have F0 := F
  obtain ⟨-, cl, A, r1, r2⟩ := F
  obtain ⟨T', h', X', e', W, st'⟩ := stJ X C.1 C.2.2.2.2.2.1 E A (j := j) (x := v) (inb r1 hj) (g := mkF m pc ls (.long v :: .int j :: .ref a :: st)) rfl rfl (C.2.1 ▸ hd)
  obtain ⟨s₂, o, q1, q2⟩ := hr h' W (F0.set (inn hj) W) C T' _ X' (Fr.snoc X' Fr0 ga) e'
  exact ⟨s₂, o, st' _ q1, q2⟩
theorem Run.lenI {a : Addr} {nn : Nat} {ty : FieldType} {f : Nat → Int32} (w : Int32) (q : Nat) (F : AI Z h a ty nn f) (hd : decode bytes pc = .ok (.arraylength, 1)) (hr : Run p l e R s m args below meth c Z own nm bytes maxL ret n0 EE h k n (mkF m q ls (.int w :: st))) (hv : Int32.ofNat nn = w := by first | rfl | decide) (hq : q = pc + 1 := by rfl) : Run p l e R s m args below meth c Z own nm bytes maxL ret n0 EE h k n (mkF m pc ls (.ref a :: st)) := by
  subst hq; intro C T locs X Fr0 E
  obtain ⟨-, cl, A, r1, r2⟩ := F
  obtain ⟨s₂, o, q1, q2⟩ := hr C T locs X Fr0 E
  have hz : cl.slots.size.toInt32 = w := by rw [r1]; exact hv
  exact ⟨s₂, o, X.arraylength C.1 (by rw [E]; exact A.1) (State.isArrayOf_alike C.2.2.2.2.2.1.alike A.2.1) (g := mkF m pc ls (.ref a :: st)) rfl rfl (C.2.1 ▸ hd) _ (by rw [hz]; exact q1), q2⟩
theorem Run.lenJ {a : Addr} {nn : Nat} {f : Nat → Int64} (w : Int32) (q : Nat) (F : AJ Z h a nn f) (hd : decode bytes pc = .ok (.arraylength, 1)) (hr : Run p l e R s m args below meth c Z own nm bytes maxL ret n0 EE h k n (mkF m q ls (.int w :: st))) (hv : Int32.ofNat nn = w := by first | rfl | decide) (hq : q = pc + 1 := by rfl) : Run p l e R s m args below meth c Z own nm bytes maxL ret n0 EE h k n (mkF m pc ls (.ref a :: st)) := by
  subst hq; intro C T locs X Fr0 E
  obtain ⟨-, cl, A, r1, r2⟩ := F
  obtain ⟨s₂, o, q1, q2⟩ := hr C T locs X Fr0 E
  have hz : cl.slots.size.toInt32 = w := by rw [r1]; exact hv
  exact ⟨s₂, o, X.arraylength C.1 (by rw [E]; exact A.1) (State.isArrayOf_alike C.2.2.2.2.2.1.alike A.2.1) (g := mkF m pc ls (.ref a :: st)) rfl rfl (C.2.1 ▸ hd) _ (by rw [hz]; exact q1), q2⟩
theorem Run.new_int {z : Int32} (q nn cap : Nat) (w : (Jvm.Cond.arrayClass .int).before a0 Z = true) (hz : z.toInt = nn) (hd : decode bytes pc = .ok (.newarray .int, 2)) (hr : ∀ (h' : Heap) (a : Addr), a = h.size → n0 ≤ a → Ext h h' → AI Z h' a .int nn (fun _ => 0) → Run p l e R s m args below meth c Z own nm bytes maxL ret n0 EE h' (k + 1) (n + cap) (mkF m q ls (.ref a :: st))) (hcap : nn ≤ cap := by decide) (hb : cap * 8 ≤ 536870912 := by decide) (hc : k + 1 ≤ R.cells := by decide) (hl : n + cap ≤ R.slots := by decide) (hq : q = pc + 2 := by rfl) : Run p l e R s m args below meth c Z own nm bytes maxL ret n0 EE h k n (mkF m pc ls (.int z :: st)) := by
  subst hq; refine Run.sz fun hs => ?_; intro C T locs X Fr0 E
  have hz2 : z.toNatClampNeg = nn := by rw [show z.toNatClampNeg = z.toInt.toNat from rfl, hz]; rfl
  have hneg : ¬ z < 0 := by rw [Int32.lt_iff_toInt_lt, show (0 : Int32).toInt = 0 from by decide]; omega
  have hd' : decode c.code pc = .ok (.newarray .int, 2) := C.2.1 ▸ hd
  have hcap' : z.toNatClampNeg ≤ cap := by omega
  obtain ⟨T', h', cA, X', e', EX, A, st'⟩ := newP (aty := .int) (h := h) (n := z) (rest := st) X C.1 C.2.2.2.2.2.1 w E (g := mkF m pc ls (.int z :: st)) rfl hd' rfl hneg (cap := cap) hcap' hb hc hl
  have hlt : nn < 2 ^ 31 := by have := z.toInt_lt; omega
  obtain ⟨s₂, o, q1, q2⟩ := hr h' h.size rfl hs EX ⟨hlt, _, A, by rw [sz_new]; exact hz2, fun i hi => by simp [newA, newarray.typeOf, defaultValue, hz2, hi]⟩ C T' locs X' Fr0 e'
  exact ⟨s₂, o, st' _ q1, q2⟩
theorem Run.new_byte {z : Int32} (q nn cap : Nat) (w : (Jvm.Cond.arrayClass .byte).before a0 Z = true) (hz : z.toInt = nn) (hd : decode bytes pc = .ok (.newarray .byte, 2)) (hr : ∀ (h' : Heap) (a : Addr), a = h.size → n0 ≤ a → Ext h h' → AI Z h' a .byte nn (fun _ => 0) → Run p l e R s m args below meth c Z own nm bytes maxL ret n0 EE h' (k + 1) (n + cap) (mkF m q ls (.ref a :: st))) (hcap : nn ≤ cap := by decide) (hb : cap * 8 ≤ 536870912 := by decide) (hc : k + 1 ≤ R.cells := by decide) (hl : n + cap ≤ R.slots := by decide) (hq : q = pc + 2 := by rfl) : Run p l e R s m args below meth c Z own nm bytes maxL ret n0 EE h k n (mkF m pc ls (.int z :: st)) := by
  subst hq; refine Run.sz fun hs => ?_; intro C T locs X Fr0 E
  have hz2 : z.toNatClampNeg = nn := by rw [show z.toNatClampNeg = z.toInt.toNat from rfl, hz]; rfl
  have hneg : ¬ z < 0 := by rw [Int32.lt_iff_toInt_lt, show (0 : Int32).toInt = 0 from by decide]; omega
  have hd' : decode c.code pc = .ok (.newarray .byte, 2) := C.2.1 ▸ hd
  have hcap' : z.toNatClampNeg ≤ cap := by omega
  obtain ⟨T', h', cA, X', e', EX, A, st'⟩ := newP (aty := .byte) (h := h) (n := z) (rest := st) X C.1 C.2.2.2.2.2.1 w E (g := mkF m pc ls (.int z :: st)) rfl hd' rfl hneg (cap := cap) hcap' hb hc hl
  have hlt : nn < 2 ^ 31 := by have := z.toInt_lt; omega
  obtain ⟨s₂, o, q1, q2⟩ := hr h' h.size rfl hs EX ⟨hlt, _, A, by rw [sz_new]; exact hz2, fun i hi => by simp [newA, newarray.typeOf, defaultValue, hz2, hi]⟩ C T' locs X' Fr0 e'
  exact ⟨s₂, o, st' _ q1, q2⟩
theorem Run.new_char {z : Int32} (q nn cap : Nat) (w : (Jvm.Cond.arrayClass .char).before a0 Z = true) (hz : z.toInt = nn) (hd : decode bytes pc = .ok (.newarray .char, 2)) (hr : ∀ (h' : Heap) (a : Addr), a = h.size → n0 ≤ a → Ext h h' → AI Z h' a .char nn (fun _ => 0) → Run p l e R s m args below meth c Z own nm bytes maxL ret n0 EE h' (k + 1) (n + cap) (mkF m q ls (.ref a :: st))) (hcap : nn ≤ cap := by decide) (hb : cap * 8 ≤ 536870912 := by decide) (hc : k + 1 ≤ R.cells := by decide) (hl : n + cap ≤ R.slots := by decide) (hq : q = pc + 2 := by rfl) : Run p l e R s m args below meth c Z own nm bytes maxL ret n0 EE h k n (mkF m pc ls (.int z :: st)) := by
  subst hq; refine Run.sz fun hs => ?_; intro C T locs X Fr0 E
  have hz2 : z.toNatClampNeg = nn := by rw [show z.toNatClampNeg = z.toInt.toNat from rfl, hz]; rfl
  have hneg : ¬ z < 0 := by rw [Int32.lt_iff_toInt_lt, show (0 : Int32).toInt = 0 from by decide]; omega
  have hd' : decode c.code pc = .ok (.newarray .char, 2) := C.2.1 ▸ hd
  have hcap' : z.toNatClampNeg ≤ cap := by omega
  obtain ⟨T', h', cA, X', e', EX, A, st'⟩ := newP (aty := .char) (h := h) (n := z) (rest := st) X C.1 C.2.2.2.2.2.1 w E (g := mkF m pc ls (.int z :: st)) rfl hd' rfl hneg (cap := cap) hcap' hb hc hl
  have hlt : nn < 2 ^ 31 := by have := z.toInt_lt; omega
  obtain ⟨s₂, o, q1, q2⟩ := hr h' h.size rfl hs EX ⟨hlt, _, A, by rw [sz_new]; exact hz2, fun i hi => by simp [newA, newarray.typeOf, defaultValue, hz2, hi]⟩ C T' locs X' Fr0 e'
  exact ⟨s₂, o, st' _ q1, q2⟩
theorem Run.new_long {z : Int32} (q nn cap : Nat) (w : (Jvm.Cond.arrayClass .long).before a0 Z = true) (hz : z.toInt = nn) (hd : decode bytes pc = .ok (.newarray .long, 2)) (hr : ∀ (h' : Heap) (a : Addr), a = h.size → n0 ≤ a → Ext h h' → AJ Z h' a nn (fun _ => 0) → Run p l e R s m args below meth c Z own nm bytes maxL ret n0 EE h' (k + 1) (n + cap) (mkF m q ls (.ref a :: st))) (hcap : nn ≤ cap := by decide) (hb : cap * 8 ≤ 536870912 := by decide) (hc : k + 1 ≤ R.cells := by decide) (hl : n + cap ≤ R.slots := by decide) (hq : q = pc + 2 := by rfl) : Run p l e R s m args below meth c Z own nm bytes maxL ret n0 EE h k n (mkF m pc ls (.int z :: st)) := by
  subst hq; refine Run.sz fun hs => ?_; intro C T locs X Fr0 E
  have hz2 : z.toNatClampNeg = nn := by rw [show z.toNatClampNeg = z.toInt.toNat from rfl, hz]; rfl
  have hneg : ¬ z < 0 := by rw [Int32.lt_iff_toInt_lt, show (0 : Int32).toInt = 0 from by decide]; omega
  have hd' : decode c.code pc = .ok (.newarray .long, 2) := C.2.1 ▸ hd
  have hcap' : z.toNatClampNeg ≤ cap := by omega
  obtain ⟨T', h', cA, X', e', EX, A, st'⟩ := newP (aty := .long) (h := h) (n := z) (rest := st) X C.1 C.2.2.2.2.2.1 w E (g := mkF m pc ls (.int z :: st)) rfl hd' rfl hneg (cap := cap) hcap' hb hc hl
  have hlt : nn < 2 ^ 31 := by have := z.toInt_lt; omega
  obtain ⟨s₂, o, q1, q2⟩ := hr h' h.size rfl hs EX ⟨hlt, _, A, by rw [sz_new]; exact hz2, fun i hi => by simp [newA, newarray.typeOf, defaultValue, hz2, hi]⟩ C T' locs X' Fr0 e'
  exact ⟨s₂, o, st' _ q1, q2⟩
theorem getD_all {L : List Value} {d : Value} (h : ∀ x ∈ L, x = d) (i : Nat) : L.getD i d = d := by
  rw [List.getD_eq_getElem?_getD]
  cases q : L[i]? with
  | none => rfl
  | some x => exact h x (List.mem_of_getElem? q)
theorem AI.arv0 {a : Addr} {nn : Nat} (A : AI Z h a .byte nn (fun _ => 0)) {z : Int32} (hz : z.toInt = nn) : ∃ kc, Arv Z h a kc .byte z (List.replicate nn (.int 0)) (.int 0) := by
  obtain ⟨hlt, cl, Ar, S, H⟩ := A
  have g : ∀ i, (List.replicate nn (Value.int 0)).getD i (.int 0) = .int 0 := fun i => getD_all (fun x hx => List.eq_of_mem_replicate hx) i
  refine ⟨cl.cls, cl, Ar, rfl, ?_, ?_, fun i hi => ?_, fun i hi => ?_⟩
  · rw [S, show z.toNatClampNeg = z.toInt.toNat from rfl, hz]; rfl
  · rw [Int32.lt_iff_toInt_lt, show (0 : Int32).toInt = 0 from by decide]; omega
  · rw [g i]; exact H i (by rw [← S]; exact hi)
  · rw [g i]; decide
theorem AI.of_arv0 {a : Addr} {nn : Nat} {kc : ClassId} {z : Int32} {L : List Value} (A : Arv Z h a kc .byte z L (.int 0)) (hz : z.toInt = nn) (hL : ∀ x ∈ L, x = .int 0) : AI Z h a .byte nn (fun _ => 0) := by
  obtain ⟨cl, Ar, -, S, -, H, -⟩ := A
  have S' : cl.slots.size = nn := by rw [S, show z.toNatClampNeg = z.toInt.toNat from rfl, hz]; rfl
  exact ⟨by have := z.toInt_lt; omega, cl, Ar, S', fun i hi => by rw [H i (by rw [S']; exact hi), getD_all hL]⟩
theorem Run.copy0 {a b : Addr} {na nb : Nat} {i : Nat} {nn za zb : Int32} (q W : Nat) (w1 : (Jvm.Cond.methodLink own i Jvm.Stand.acN).before a0 Z = true) (w2 : (Jvm.Cond.native Jvm.Stand.acN).before a0 Z = true) (w3 : (Jvm.Cond.static Jvm.Stand.acN).before a0 Z = true) (w4 : (Jvm.Cond.initialized "java/lang/System").before a0 Z = true)
    (A : AI Z h a .byte na (fun _ => 0)) (B : AI Z h b .byte nb (fun _ => 0)) (hza : za.toInt = na) (hzb : zb.toInt = nb) (hn : 0 ≤ nn.toInt ∧ nn.toInt ≤ na ∧ nn.toInt ≤ nb) (gb : n0 ≤ b) (hd : decode bytes pc = .ok (.invokestatic i, 3))
    (hr : ∀ h' : Heap, Keep h h' [b] → AI Z h' b .byte nb (fun _ => 0) → Run p l e R s m args below meth c Z own nm bytes maxL ret n0 EE h' k n (mkF m q ls st)) (hsz : ls.size = maxL := by rfl) (hf : 1 ≤ R.frames := by decide) (hW : (st.map fun v => v.category).sum ≤ W := by first | exact Nat.le_of_eq rfl | decide) (hl : W + 18 ≤ R.locals := by decide) (hq : q = pc + 3 := by rfl) : Run p l e R s m args below meth c Z own nm bytes maxL ret n0 EE h k n (mkF m pc ls (.int nn :: .int (0 : Int32) :: .ref b :: .int (0 : Int32) :: .ref a :: st)) := by
  subst hq; intro C T locs X Fr0 E
  obtain ⟨ka, A'⟩ := A.arv0 hza
  obtain ⟨kb, B'⟩ := B.arv0 hzb
  have n0' : (0 : Int32).toNatClampNeg = 0 := by decide
  have ez : ∀ z : Int32, z.toNatClampNeg = z.toInt.toNat := fun _ => rfl
  obtain ⟨T', h', L, X', e', N', KP, R', st'⟩ := cpA X C.1 C.2.2.2.2.2.1 C.2.2.2.1 w1 w2 w3 w4 E (sp := 0) (dp := 0) (nn := nn) A' B' (Or.inl ⟨rfl, rfl⟩) (by decide) (by decide) (by rw [Int32.lt_iff_toInt_lt, show (0 : Int32).toInt = 0 from by decide]; omega) (by rw [n0', ez, ez]; omega) (by rw [n0', ez, ez]; omega) rfl (by rw [n0', ez, List.length_replicate]; omega) Fr0 gb (g := mkF m pc ls (.int nn :: .int (0 : Int32) :: .ref b :: .int (0 : Int32) :: .ref a :: st)) rfl (by rw [C.2.2.1]; exact hsz) rfl (C.2.1 ▸ hd) hf (W := W) (by show 2 * 0 + _ ≤ _; omega) (by show W + (nativeFrameWords _ _ 5 + 11) ≤ _; rw [show nativeFrameWords "java/lang/System" "arraycopy" 5 = 7 from by decide]; exact hl)
  have R2 : AI Z h' b .byte nb (fun _ => 0) := AI.of_arv0 R' hzb (fun x hx => by
    simp only [List.mem_append, List.mem_map] at hx
    rcases hx with (hx | ⟨u, -, hx⟩) | hx
    · exact List.eq_of_mem_replicate (List.mem_of_mem_take hx)
    · rw [← hx]; exact getD_all (fun x hx => List.eq_of_mem_replicate hx) _
    · exact List.eq_of_mem_replicate (List.mem_of_mem_drop hx))
  obtain ⟨s₂, o, q1, q2⟩ := hr h' KP R2 C T' _ X' N' e'
  exact ⟨s₂, o, st' _ q1, q2⟩
theorem Run.ind {ι : Type} (P : Nat → ι → Heap → Prop) (fr : ι → JFrame) (step : ∀ (j : Nat) (x : ι) (hL : Heap), P j x hL → (∀ (j' : Nat) (x' : ι) (h' : Heap), j' < j → P j' x' h' → Run p l e R s m args below meth c Z own nm bytes maxL ret n0 EE h' k n (fr x')) → Run p l e R s m args below meth c Z own nm bytes maxL ret n0 EE hL k n (fr x)) (j : Nat) (x : ι) (hP : P j x h) : Run p l e R s m args below meth c Z own nm bytes maxL ret n0 EE h k n (fr x) := by
  have key : ∀ (N0 : Nat) (j : Nat), j < N0 → ∀ (x : ι) (hL : Heap), P j x hL → Run p l e R s m args below meth c Z own nm bytes maxL ret n0 EE hL k n (fr x) := by
    intro N0
    induction N0 with
    | zero => intro j hj; exact absurd hj (Nat.not_lt_zero _)
    | succ N1 ih => intro j hj x hL hP; exact step j x hL hP (fun j' x' h' hlt hP' => ih j' (by omega) x' h' hP')
  exact key (j + 1) j (Nat.lt_succ_self _) x h hP
end Layer
theorem div_toInt {x y : Int32} (hx : 0 ≤ x.toInt) {d : Int} (hy : y.toInt = d) (hd : 0 < d) : (x / y).toInt = x.toInt / d :=
  (c_idiv x y d hy (fun z => by rw [z] at hy; rw [show (-1 : Int32).toInt = -1 from by decide] at hy; omega)).1 hx
theorem rem_toInt {x y : Int32} (hx : 0 ≤ x.toInt) {d : Int} (hy : y.toInt = d) (hd : 0 < d) : (x - (x / y) * y).toInt = x.toInt % d := by
  have h1 := div_toInt hx hy hd
  have h2 := c_imul (x / y) y
  rw [h1, hy, Int.mul_comm] at h2
  have h3 := c_isub x ((x / y) * y)
  have h4 := rng32 (x - (x / y) * y)
  have h5 : x.toInt % d = x.toInt - d * (x.toInt / d) := Int.emod_def _ _
  have h6 := Int.emod_nonneg x.toInt (b := d) (by omega)
  have h7 := Int.emod_lt_of_pos x.toInt hd
  have h8 := rng32 x; have h9 := rng32 y
  omega
theorem and31 (x : Int32) : 0 ≤ (x &&& 2147483647).toInt ∧ (x &&& 2147483647).toInt < 2147483648 := by
  rw [c_mask x 2147483647 31 (by decide) (by decide)]; omega
theorem add_toInt {x y : Int32} {a b : Int} (ha : x.toInt = a) (hb : y.toInt = b) (h1 : -2147483648 ≤ a + b) (h2 : a + b < 2147483648) : (x + y).toInt = a + b := by
  have h3 := c_iadd x y; have h4 := rng32 (x + y); omega
theorem sub_toInt {x y : Int32} {a b : Int} (ha : x.toInt = a) (hb : y.toInt = b) (h1 : -2147483648 ≤ a - b) (h2 : a - b < 2147483648) : (x - y).toInt = a - b := by
  have h3 := c_isub x y; have h4 := rng32 (x - y); omega
theorem inc_toInt {x : Int32} (h : x.toInt + 1 < 2147483648) : (x + 1).toInt = x.toInt + 1 := by
  have h1 := rng32 x; exact add_toInt rfl (by decide) (by omega) h
theorem lt32 {x y : Int32} : x < y ↔ x.toInt < y.toInt := Int32.lt_iff_toInt_lt
theorem lt64 {x y : Int64} : x < y ↔ x.toInt < y.toInt := Int64.lt_iff_toInt_lt
theorem eq32 {x y : Int32} : x = y ↔ x.toInt = y.toInt := Int32.toInt_inj.symm
theorem eq64 {x y : Int64} : x = y ↔ x.toInt = y.toInt := Int64.toInt_inj.symm
theorem nat32 {j : Int32} (h : 0 ≤ j.toInt) : (j.toNatClampNeg : Int) = j.toInt := by rw [show j.toNatClampNeg = j.toInt.toNat from rfl]; omega
theorem nar_c (x : Int32) : nar .char (x.toUInt32.toUInt16.toUInt32.toInt32) = x.toUInt32.toUInt16.toUInt32.toInt32 := by
  show ((x.toUInt32.toUInt16.toUInt32).toUInt16.toUInt32).toInt32 = _
  rw [UInt16.toUInt16_toUInt32]
theorem allb {P : Int8 → Prop} (h : ∀ v : BitVec 8, P (Int8.ofBitVec v)) (b : Int8) : P b := h b.toBitVec
end Jvm.Own

namespace Jvm.Pilot.@@N@@
open Jvm Jvm.ClassFile Sem Op Lib Jvm.Free Jvm.Stand Jvm.LawKit Jvm.RoadKit Bundle Jvm.Pilot.@@N@@.Jvm.D Jvm.Own
theorem d1_0 : decode prog_89_method_1_code 0 = .ok (.aload_n 0, 1) := by decide +kernel
theorem d1_1 : decode prog_89_method_1_code 1 = .ok (.invokespecial 1, 3) := by decide +kernel
theorem d1_4 : decode prog_89_method_1_code 4 = .ok (.aload_n 0, 1) := by decide +kernel
theorem d1_5 : decode prog_89_method_1_code 5 = .ok (.bipush 16, 2) := by decide +kernel
theorem d1_7 : decode prog_89_method_1_code 7 = .ok (.newarray .int, 2) := by decide +kernel
theorem d1_9 : decode prog_89_method_1_code 9 = .ok (.putfield 7, 3) := by decide +kernel
theorem d1_12 : decode prog_89_method_1_code 12 = .ok (.aload_n 0, 1) := by decide +kernel
theorem d1_13 : decode prog_89_method_1_code 13 = .ok (.iload_n 1, 1) := by decide +kernel
theorem d1_14 : decode prog_89_method_1_code 14 = .ok (.bipush 64, 2) := by decide +kernel
theorem d1_16 : decode prog_89_method_1_code 16 = .ok (.iadd, 1) := by decide +kernel
theorem d1_17 : decode prog_89_method_1_code 17 = .ok (.iconst 1, 1) := by decide +kernel
theorem d1_18 : decode prog_89_method_1_code 18 = .ok (.isub, 1) := by decide +kernel
theorem d1_19 : decode prog_89_method_1_code 19 = .ok (.bipush 64, 2) := by decide +kernel
theorem d1_21 : decode prog_89_method_1_code 21 = .ok (.idiv, 1) := by decide +kernel
theorem d1_22 : decode prog_89_method_1_code 22 = .ok (.newarray .long, 2) := by decide +kernel
theorem d1_24 : decode prog_89_method_1_code 24 = .ok (.putfield 15, 3) := by decide +kernel
theorem d1_27 : decode prog_89_method_1_code 27 = .ok (.return_, 1) := by decide +kernel
theorem ef_rmI (m : MethodId) (x0 : Addr) (x1 : Int32) : entryFrame m #[(.ref x0), (.int x1)] 2 = mkF m 0 #[.val (.ref x0), .val (.int x1)] [] := by first | (simp [entryFrame, mkF, argsToLocals, Value.category]; done) | rfl
set_option maxRecDepth 65536 in
set_option maxHeartbeats 40000000 in
theorem rmI {l : Launch} {Z : State} {a0 : Array Value} (hw : ∀ d ∈ tables_1, d.before a0 Z = true) (r0 : Addr) (p1 : Int32) (nw : Nat) (h0 : Heap) (n0 : Nat) (Z0 : n0 ≤ h0.size) (pf0 : Exa Z h0 r0 "com/example/nearspace/nearspace/NeighbourGraph$Marks") (pf1 : Fld Z h0 r0 "com/example/nearspace/nearspace/NeighbourGraph$Marks" "marked" "[I" .null) (pf2 : Fld Z h0 r0 "com/example/nearspace/nearspace/NeighbourGraph$Marks" "words" "[J" .null) (pf3 : Fld Z h0 r0 "com/example/nearspace/nearspace/NeighbourGraph$Marks" "markedCount" "I" (.int (0 : Int32))) (pf4 : n0 ≤ r0) (hnn : ((p1 + 64 - 1) / 64).toInt = nw) (hcap : nw ≤ 8) :
    Pays l Z (⟨"com/example/nearspace/nearspace/NeighbourGraph$Marks", "<init>", "(I)V"⟩ : MethodName) prog_89_method_1_code 2 none ({ frames := 1, cells := 2, slots := 24, locals := 12 } : Room) #[(.ref r0), (.int p1)] h0 n0 (fun v h' => ∃ xm xw : Addr, v = none ∧ Keep h0 h' [r0] ∧ h0.size ≤ xm ∧ h0.size ≤ xw ∧ xm ≠ xw ∧ Exa Z h' r0 "com/example/nearspace/nearspace/NeighbourGraph$Marks" ∧ Fld Z h' r0 "com/example/nearspace/nearspace/NeighbourGraph$Marks" "markedCount" "I" (.int (0 : Int32)) ∧ Fld Z h' r0 "com/example/nearspace/nearspace/NeighbourGraph$Marks" "marked" "[I" (.ref xm) ∧ Fld Z h' r0 "com/example/nearspace/nearspace/NeighbourGraph$Marks" "words" "[J" (.ref xw) ∧ AI Z h' xm .int 16 (fun _ => 0) ∧ AJ Z h' xw nw (fun _ => 0)) := by
  refine Pays.of (ls := #[.val (.ref r0), .val (.int p1)]) (plainFor_of_name (by first | (simp [plainName, overriddenIn]; done) | decide +kernel)) (fun m => ef_rmI m r0 p1) Z0 (fun p e s m below meth c => ?_)
  refine Run.aloadN 1 d1_0 rfl ?_
  refine Run.initO 4 0 (hw _ (List.mem_of_getElem? (i := 7) rfl)) (hw _ (List.mem_of_getElem? (i := 8) rfl)) (hw _ (List.mem_of_getElem? (i := 9) rfl)) d1_1 ?_
  refine Run.aloadN 5 d1_4 rfl ?_
  refine Run.bipush (16 : Int32) 7 d1_5 ?_
  refine Run.new_int 9 16 16 (hw _ (List.mem_of_getElem? (i := 10) rfl)) (by decide) d1_7 (fun h1 ob1 g1 u1 E1 A1 => ?_)
  have ne_r0_ob1 : r0 ≠ ob1 := Nat.ne_of_lt (Nat.lt_of_lt_of_le pf0.lt (Nat.le_of_eq g1.symm))
  have hsz_ob1 : h0.size ≤ ob1 := Nat.le_trans (Keep.refl h0 [r0]).1 (Nat.le_of_eq g1.symm)
  show Run p l e _ s m _ below meth c Z _ _ _ _ _ n0 _ h1 1 16 (mkF m 9 #[.val (.ref r0), .val (.int p1)] [(.ref ob1), (.ref r0)])
  have f2 := (pf1.ext E1)
  have f3 := (pf0.ext E1)
  refine Run.putF 12 (Or.inl (hw _ (List.mem_of_getElem? (i := 11) rfl))) (host := "") Via.refl f2 f3 (Or.inl (hw _ (List.mem_of_getElem? (i := 12) rfl))) (hw _ (List.mem_of_getElem? (i := 2) rfl)) (ty := (.array .int)) (by decide) pf4 d1_9 (fun h4 W4 => ?_)
  have F4 := f2.same W4
  refine Run.aloadN 13 d1_12 rfl ?_
  refine Run.iloadN 14 d1_13 rfl ?_
  refine Run.bipush (64 : Int32) 16 d1_14 ?_
  refine Run.iadd (p1 + (64 : Int32)) 17 d1_16 ?_
  refine Run.iconst (1 : Int32) 18 d1_17 ?_
  refine Run.isub ((p1 + (64 : Int32)) - (1 : Int32)) 19 d1_18 ?_
  refine Run.bipush (64 : Int32) 21 d1_19 ?_
  refine Run.idiv (((p1 + (64 : Int32)) - (1 : Int32)) / (64 : Int32)) 22 d1_21 (by decide) ?_
  refine Run.new_long 24 nw 8 (hw _ (List.mem_of_getElem? (i := 13) rfl)) hnn d1_22 (fun h5 ob5 g5 u5 E5 A5 => ?_) (hcap := by omega)
  have f6 := (f3.wr W4)
  have ne_r0_ob5 : r0 ≠ ob5 := Nat.ne_of_lt (Nat.lt_of_lt_of_le f6.lt (Nat.le_of_eq g5.symm))
  have f7 := (A1.other W4 (Ne.symm ne_r0_ob1))
  have ne_ob1_ob5 : ob1 ≠ ob5 := Nat.ne_of_lt (Nat.lt_of_lt_of_le f7.lt (Nat.le_of_eq g5.symm))
  have hsz_ob5 : h0.size ≤ ob5 := Nat.le_trans (((Keep.refl h0 [r0]).ext E1).wr W4 (Or.inl (List.mem_of_getElem? (i := 0) rfl))).1 (Nat.le_of_eq g5.symm)
  show Run p l e _ s m _ below meth c Z _ _ _ _ _ n0 _ h5 2 24 (mkF m 24 #[.val (.ref r0), .val (.int p1)] [(.ref ob5), (.ref r0)])
  have f8 := (((pf2.ext E1).other W4 (Or.inr (slot_ne (Or.inr (hw _ (List.mem_of_getElem? (i := 15) rfl))) (Or.inl (hw _ (List.mem_of_getElem? (i := 12) rfl))) (by decide) (t := (.array .long)) (t' := (.array .int)) (by decide) (by decide)))).ext E5)
  have f9 := (f6.ext E5)
  refine Run.putF 27 (Or.inl (hw _ (List.mem_of_getElem? (i := 14) rfl))) (host := "") Via.refl f8 f9 (Or.inr ⟨(hw _ (List.mem_of_getElem? (i := 15) rfl)), rfl, rfl⟩) (hw _ (List.mem_of_getElem? (i := 2) rfl)) (ty := (.array .long)) (by decide) pf4 d1_24 (fun h10 W10 => ?_)
  have F10 := f8.same W10
  have f11 := (f9.wr W10)
  have f12 := ((((pf3.ext E1).other W4 (Or.inr (slot_ne (Or.inl (hw _ (List.mem_of_getElem? (i := 22) rfl))) (Or.inl (hw _ (List.mem_of_getElem? (i := 12) rfl))) (by decide) (t := .int) (t' := (.array .int)) (by decide) (by decide)))).ext E5).other W10 (Or.inr (slot_ne (Or.inl (hw _ (List.mem_of_getElem? (i := 22) rfl))) (Or.inr (hw _ (List.mem_of_getElem? (i := 15) rfl))) (by decide) (t := .int) (t' := (.array .long)) (by decide) (by decide))))
  have f13 := ((F4.ext E5).other W10 (Or.inr (slot_ne (Or.inl (hw _ (List.mem_of_getElem? (i := 12) rfl))) (Or.inr (hw _ (List.mem_of_getElem? (i := 15) rfl))) (by decide) (t := (.array .int)) (t' := (.array .long)) (by decide) (by decide))))
  have f14 := ((f7.ext E5).other W10 (Ne.symm ne_r0_ob1))
  have f15 := (A5.other W10 (Ne.symm ne_r0_ob5))
  exact Run.retV d1_27 ⟨ob1, ob5, rfl, (((((Keep.refl h0 [r0]).ext E1).wr W4 (Or.inl (List.mem_of_getElem? (i := 0) rfl))).ext E5).wr W10 (Or.inl (List.mem_of_getElem? (i := 0) rfl))), hsz_ob1, hsz_ob5, ne_ob1_ob5, f11, f12, f13, F10, f14, f15⟩
def own_bit (p : Int32) : Int64 := (1 : Int64) <<< (p &&& 0x3f).toInt64
def own_aw (p : Int32) (wf : Nat → Int64) : Nat → Int64 := if (wf (p / 64).toNatClampNeg &&& own_bit p) = 0 then oupd wf (p / 64).toNatClampNeg (wf (p / 64).toNatClampNeg ||| own_bit p) else wf
def own_am (p : Int32) (wf : Nat → Int64) (mf : Nat → Int32) (cnt : Int32) : Nat → Int32 := if (wf (p / 64).toNatClampNeg &&& own_bit p) = 0 then (if wf (p / 64).toNatClampNeg = 0 then oupd mf cnt.toNatClampNeg (p / 64) else mf) else mf
def own_ac (p : Int32) (wf : Nat → Int64) (cnt : Int32) : Int32 := if (wf (p / 64).toNatClampNeg &&& own_bit p) = 0 then (if wf (p / 64).toNatClampNeg = 0 then cnt + 1 else cnt) else cnt
def own_has (p : Int32) (wf : Nat → Int64) : Int32 := if (wf (p / 64).toNatClampNeg &&& own_bit p) = 0 then 0 else 1
def own_ad (p : Int32) (wf : Nat → Int64) : Int32 := if (wf (p / 64).toNatClampNeg &&& own_bit p) = 0 then 1 else 0
theorem d3_0 : decode prog_89_method_4_code 0 = .ok (.iload_n 1, 1) := by decide +kernel
theorem d3_1 : decode prog_89_method_4_code 1 = .ok (.bipush 64, 2) := by decide +kernel
theorem d3_3 : decode prog_89_method_4_code 3 = .ok (.idiv, 1) := by decide +kernel
theorem d3_4 : decode prog_89_method_4_code 4 = .ok (.istore_n 2, 1) := by decide +kernel
theorem d3_5 : decode prog_89_method_4_code 5 = .ok (.lconst 1, 1) := by decide +kernel
theorem d3_6 : decode prog_89_method_4_code 6 = .ok (.iload_n 1, 1) := by decide +kernel
theorem d3_7 : decode prog_89_method_4_code 7 = .ok (.lshl, 1) := by decide +kernel
theorem d3_8 : decode prog_89_method_4_code 8 = .ok (.lstore_n 3, 1) := by decide +kernel
theorem d3_9 : decode prog_89_method_4_code 9 = .ok (.aload_n 0, 1) := by decide +kernel
theorem d3_10 : decode prog_89_method_4_code 10 = .ok (.getfield 15, 3) := by decide +kernel
theorem d3_13 : decode prog_89_method_4_code 13 = .ok (.iload_n 2, 1) := by decide +kernel
theorem d3_14 : decode prog_89_method_4_code 14 = .ok (.laload, 1) := by decide +kernel
theorem d3_15 : decode prog_89_method_4_code 15 = .ok (.lstore 5, 2) := by decide +kernel
theorem d3_17 : decode prog_89_method_4_code 17 = .ok (.lload 5, 2) := by decide +kernel
theorem d3_19 : decode prog_89_method_4_code 19 = .ok (.lload_n 3, 1) := by decide +kernel
theorem d3_20 : decode prog_89_method_4_code 20 = .ok (.land, 1) := by decide +kernel
theorem d3_21 : decode prog_89_method_4_code 21 = .ok (.lconst 0, 1) := by decide +kernel
theorem d3_22 : decode prog_89_method_4_code 22 = .ok (.lcmp, 1) := by decide +kernel
theorem d3_23 : decode prog_89_method_4_code 23 = .ok (.ifCond .eq 5, 3) := by decide +kernel
theorem d3_28 : decode prog_89_method_4_code 28 = .ok (.lload 5, 2) := by decide +kernel
theorem d3_30 : decode prog_89_method_4_code 30 = .ok (.lconst 0, 1) := by decide +kernel
theorem d3_31 : decode prog_89_method_4_code 31 = .ok (.lcmp, 1) := by decide +kernel
theorem d3_32 : decode prog_89_method_4_code 32 = .ok (.ifCond .ne 49, 3) := by decide +kernel
theorem d3_81 : decode prog_89_method_4_code 81 = .ok (.aload_n 0, 1) := by decide +kernel
theorem d3_82 : decode prog_89_method_4_code 82 = .ok (.getfield 15, 3) := by decide +kernel
theorem d3_85 : decode prog_89_method_4_code 85 = .ok (.iload_n 2, 1) := by decide +kernel
theorem d3_86 : decode prog_89_method_4_code 86 = .ok (.lload 5, 2) := by decide +kernel
theorem d3_88 : decode prog_89_method_4_code 88 = .ok (.lload_n 3, 1) := by decide +kernel
theorem d3_89 : decode prog_89_method_4_code 89 = .ok (.lor, 1) := by decide +kernel
theorem d3_90 : decode prog_89_method_4_code 90 = .ok (.lastore, 1) := by decide +kernel
theorem d3_91 : decode prog_89_method_4_code 91 = .ok (.iconst 1, 1) := by decide +kernel
theorem d3_92 : decode prog_89_method_4_code 92 = .ok (.ireturn, 1) := by decide +kernel
theorem d3_35 : decode prog_89_method_4_code 35 = .ok (.aload_n 0, 1) := by decide +kernel
theorem d3_36 : decode prog_89_method_4_code 36 = .ok (.getfield 19, 3) := by decide +kernel
theorem d3_39 : decode prog_89_method_4_code 39 = .ok (.aload_n 0, 1) := by decide +kernel
theorem d3_40 : decode prog_89_method_4_code 40 = .ok (.getfield 7, 3) := by decide +kernel
theorem d3_43 : decode prog_89_method_4_code 43 = .ok (.arraylength, 1) := by decide +kernel
theorem d3_44 : decode prog_89_method_4_code 44 = .ok (.if_icmp .ne 20, 3) := by decide +kernel
theorem d3_64 : decode prog_89_method_4_code 64 = .ok (.aload_n 0, 1) := by decide +kernel
theorem d3_65 : decode prog_89_method_4_code 65 = .ok (.getfield 7, 3) := by decide +kernel
theorem d3_68 : decode prog_89_method_4_code 68 = .ok (.aload_n 0, 1) := by decide +kernel
theorem d3_69 : decode prog_89_method_4_code 69 = .ok (.dup, 1) := by decide +kernel
theorem d3_70 : decode prog_89_method_4_code 70 = .ok (.getfield 19, 3) := by decide +kernel
theorem d3_73 : decode prog_89_method_4_code 73 = .ok (.dup_x1, 1) := by decide +kernel
theorem d3_74 : decode prog_89_method_4_code 74 = .ok (.iconst 1, 1) := by decide +kernel
theorem d3_75 : decode prog_89_method_4_code 75 = .ok (.iadd, 1) := by decide +kernel
theorem d3_76 : decode prog_89_method_4_code 76 = .ok (.putfield 19, 3) := by decide +kernel
theorem d3_79 : decode prog_89_method_4_code 79 = .ok (.iload_n 2, 1) := by decide +kernel
theorem d3_80 : decode prog_89_method_4_code 80 = .ok (.iastore, 1) := by decide +kernel
theorem d3_26 : decode prog_89_method_4_code 26 = .ok (.iconst 0, 1) := by decide +kernel
theorem d3_27 : decode prog_89_method_4_code 27 = .ok (.ireturn, 1) := by decide +kernel
theorem ef_rmA (m : MethodId) (x0 : Addr) (x1 : Int32) : entryFrame m #[(.ref x0), (.int x1)] 7 = mkF m 0 #[.val (.ref x0), .val (.int x1), .unset, .unset, .unset, .unset, .unset] [] := by first | (simp [entryFrame, mkF, argsToLocals, Value.category]; done) | rfl
set_option maxRecDepth 65536 in
set_option maxHeartbeats 40000000 in
theorem rmA {l : Launch} {Z : State} {a0 : Array Value} (hw : ∀ d ∈ tables_1, d.before a0 Z = true) (r0 : Addr) (p1 : Int32) (nw : Nat) (xm : Addr) (xw : Addr) (cnt : Int32) (mf : Nat → Int32) (wf : Nat → Int64) (h0 : Heap) (n0 : Nat) (Z0 : n0 ≤ h0.size) (pf0 : Exa Z h0 r0 "com/example/nearspace/nearspace/NeighbourGraph$Marks") (pf1 : Fld Z h0 r0 "com/example/nearspace/nearspace/NeighbourGraph$Marks" "markedCount" "I" (.int cnt)) (pf2 : Fld Z h0 r0 "com/example/nearspace/nearspace/NeighbourGraph$Marks" "marked" "[I" (.ref xm)) (pf3 : Fld Z h0 r0 "com/example/nearspace/nearspace/NeighbourGraph$Marks" "words" "[J" (.ref xw)) (pf4 : AI Z h0 xm .int 16 mf) (pf5 : AJ Z h0 xw nw wf) (pf6 : n0 ≤ r0) (pf7 : n0 ≤ xm) (pf8 : n0 ≤ xw) (pf9 : r0 ≠ xm) (pf10 : r0 ≠ xw) (pf11 : xm ≠ xw) (hp : 0 ≤ (p1 / 64).toInt ∧ (p1 / 64).toInt < nw) (hc : 0 ≤ cnt.toInt ∧ cnt.toInt < 16) :
    Pays l Z (⟨"com/example/nearspace/nearspace/NeighbourGraph$Marks", "add", "(I)Z"⟩ : MethodName) prog_89_method_4_code 7 (some .boolean) ({ frames := 0, cells := 0, slots := 0, locals := 0 } : Room) #[(.ref r0), (.int p1)] h0 n0 (fun v h' => v = some (.int (own_ad p1 wf)) ∧ Keep h0 h' [r0, xm, xw] ∧ Exa Z h' r0 "com/example/nearspace/nearspace/NeighbourGraph$Marks" ∧ Fld Z h' r0 "com/example/nearspace/nearspace/NeighbourGraph$Marks" "markedCount" "I" (.int (own_ac p1 wf cnt)) ∧ Fld Z h' r0 "com/example/nearspace/nearspace/NeighbourGraph$Marks" "marked" "[I" (.ref xm) ∧ Fld Z h' r0 "com/example/nearspace/nearspace/NeighbourGraph$Marks" "words" "[J" (.ref xw) ∧ AI Z h' xm .int 16 (own_am p1 wf mf cnt) ∧ AJ Z h' xw nw (own_aw p1 wf)) := by
  refine Pays.of (ls := #[.val (.ref r0), .val (.int p1), .unset, .unset, .unset, .unset, .unset]) (plainFor_of_name (by first | (simp [plainName, overriddenIn]; done) | decide +kernel)) (fun m => ef_rmA m r0 p1) Z0 (fun p e s m below meth c => ?_)
  refine Run.iloadN 1 d3_0 rfl ?_
  refine Run.bipush (64 : Int32) 3 d3_1 ?_
  refine Run.idiv (p1 / (64 : Int32)) 4 d3_3 (by decide) ?_
  refine Run.istoreN 5 #[.val (.ref r0), .val (.int p1), .val (.int (p1 / (64 : Int32))), .unset, .unset, .unset, .unset] d3_4 ?_
  refine Run.lconst (1 : Int64) 6 d3_5 ?_
  refine Run.iloadN 7 d3_6 rfl ?_
  refine Run.lshl ((1 : Int64) <<< (p1 &&& 0x3f).toInt64) 8 d3_7 ?_
  refine Run.lstoreN 9 #[.val (.ref r0), .val (.int p1), .val (.int (p1 / (64 : Int32))), .val (.long ((1 : Int64) <<< (p1 &&& 0x3f).toInt64)), .second, .unset, .unset] d3_8 ?_
  refine Run.aloadN 10 d3_9 rfl ?_
  refine Run.getF 13 (Or.inl (hw _ (List.mem_of_getElem? (i := 14) rfl))) (host := "") Via.refl pf3 d3_10 ?_
  refine Run.iloadN 14 d3_13 rfl ?_
  refine Run.laload (wf (p1 / (64 : Int32)).toNatClampNeg) 15 pf5 ⟨by omega, by omega⟩ d3_14 ?_
  refine Run.lstore 17 #[.val (.ref r0), .val (.int p1), .val (.int (p1 / (64 : Int32))), .val (.long ((1 : Int64) <<< (p1 &&& 0x3f).toInt64)), .second, .val (.long (wf (p1 / (64 : Int32)).toNatClampNeg)), .second] d3_15 ?_
  refine Run.lload 19 d3_17 rfl ?_
  refine Run.lloadN 20 d3_19 rfl ?_
  refine Run.land ((wf (p1 / (64 : Int32)).toNatClampNeg) &&& ((1 : Int64) <<< (p1 &&& 0x3f).toInt64)) 21 d3_20 ?_
  refine Run.lconst (0 : Int64) 22 d3_21 ?_
  refine Run.leq 28 26 d3_22 d3_23 (fun hc23 => ?_) (fun hc23 => ?_)
  · refine Run.lload 30 d3_28 rfl ?_
    refine Run.lconst (0 : Int64) 31 d3_30 ?_
    refine Run.lne 81 35 d3_31 d3_32 (fun hc32 => ?_) (fun hc32 => ?_)
    · refine Run.aloadN 82 d3_81 rfl ?_
      refine Run.getF 85 (Or.inl (hw _ (List.mem_of_getElem? (i := 14) rfl))) (host := "") Via.refl pf3 d3_82 ?_
      refine Run.iloadN 86 d3_85 rfl ?_
      refine Run.lload 88 d3_86 rfl ?_
      refine Run.lloadN 89 d3_88 rfl ?_
      refine Run.lor ((wf (p1 / (64 : Int32)).toNatClampNeg) ||| ((1 : Int64) <<< (p1 &&& 0x3f).toInt64)) 90 d3_89 ?_
      refine Run.lastore 91 pf5 ⟨by omega, by omega⟩ pf8 d3_90 (fun h1 W1 A1 => ?_)
      refine Run.iconst (1 : Int32) 92 d3_91 ?_
      have f2 := (pf0.wr W1)
      have f3 := (pf1.other W1 (Or.inl pf10))
      have f4 := (pf2.other W1 (Or.inl pf10))
      have f5 := (pf3.other W1 (Or.inl pf10))
      have f6 := (pf4.other W1 pf11)
      exact Run.ret1 d3_92 ⟨(congrArg some (congrArg Value.int (by unfold own_ad own_bit; rw [if_pos hc23]))), ((Keep.refl h0 [r0, xm, xw]).wr W1 (Or.inl (List.mem_of_getElem? (i := 2) rfl))), f2, (by unfold own_ac own_bit; rw [if_pos hc23, if_neg hc32]; exact f3), f4, f5, (by unfold own_am own_bit; rw [if_pos hc23, if_neg hc32]; exact f6), (by unfold own_aw own_bit; rw [if_pos hc23]; exact A1)⟩
    · refine Run.aloadN 36 d3_35 rfl ?_
      refine Run.getF 39 (Or.inl (hw _ (List.mem_of_getElem? (i := 21) rfl))) (host := "") Via.refl pf1 d3_36 ?_
      refine Run.aloadN 40 d3_39 rfl ?_
      refine Run.getF 43 (Or.inl (hw _ (List.mem_of_getElem? (i := 11) rfl))) (host := "") Via.refl pf2 d3_40 ?_
      refine Run.lenI (16 : Int32) 44 pf4 d3_43 ?_
      refine Run.neY 64 d3_44 (fun z => by rw [eq32, show (16 : Int32).toInt = 16 from by decide] at z; omega) ?_
      refine Run.aloadN 65 d3_64 rfl ?_
      refine Run.getF 68 (Or.inl (hw _ (List.mem_of_getElem? (i := 11) rfl))) (host := "") Via.refl pf2 d3_65 ?_
      refine Run.aloadN 69 d3_68 rfl ?_
      refine Run.dup 70 d3_69 ?_
      refine Run.getF 73 (Or.inl (hw _ (List.mem_of_getElem? (i := 21) rfl))) (host := "") Via.refl pf1 d3_70 ?_
      refine Run.dupX1 74 d3_73 ?_
      refine Run.iconst (1 : Int32) 75 d3_74 ?_
      refine Run.iadd (cnt + (1 : Int32)) 76 d3_75 ?_
      refine Run.putF 79 (Or.inl (hw _ (List.mem_of_getElem? (i := 21) rfl))) (host := "") Via.refl pf1 pf0 (Or.inl (hw _ (List.mem_of_getElem? (i := 22) rfl))) (hw _ (List.mem_of_getElem? (i := 2) rfl)) (ty := .int) (by decide) pf6 d3_76 (fun h7 W7 => ?_)
      have F7 := pf1.same W7
      refine Run.iloadN 80 d3_79 rfl ?_
      have f8 := (pf4.other W7 (Ne.symm pf9))
      refine Run.iastore (p1 / (64 : Int32)) 81 f8 ⟨by omega, by omega⟩ pf7 d3_80 (fun h9 W9 A9 => ?_)
      refine Run.aloadN 82 d3_81 rfl ?_
      have f10 := ((pf3.other W7 (Or.inr (slot_ne (Or.inr (hw _ (List.mem_of_getElem? (i := 15) rfl))) (Or.inl (hw _ (List.mem_of_getElem? (i := 22) rfl))) (by decide) (t := (.array .long)) (t' := .int) (by decide) (by decide)))).other W9 (Or.inl pf9))
      refine Run.getF 85 (Or.inl (hw _ (List.mem_of_getElem? (i := 14) rfl))) (host := "") Via.refl f10 d3_82 ?_
      refine Run.iloadN 86 d3_85 rfl ?_
      refine Run.lload 88 d3_86 rfl ?_
      refine Run.lloadN 89 d3_88 rfl ?_
      refine Run.lor ((wf (p1 / (64 : Int32)).toNatClampNeg) ||| ((1 : Int64) <<< (p1 &&& 0x3f).toInt64)) 90 d3_89 ?_
      have f11 := ((pf5.other W7 (Ne.symm pf10)).other W9 (Ne.symm pf11))
      refine Run.lastore 91 f11 ⟨by omega, by omega⟩ pf8 d3_90 (fun h12 W12 A12 => ?_)
      refine Run.iconst (1 : Int32) 92 d3_91 ?_
      have f13 := (((pf0.wr W7).wr W9).wr W12)
      have f14 := ((F7.other W9 (Or.inl pf9)).other W12 (Or.inl pf10))
      have f15 := (((pf2.other W7 (Or.inr (slot_ne (Or.inl (hw _ (List.mem_of_getElem? (i := 12) rfl))) (Or.inl (hw _ (List.mem_of_getElem? (i := 22) rfl))) (by decide) (t := (.array .int)) (t' := .int) (by decide) (by decide)))).other W9 (Or.inl pf9)).other W12 (Or.inl pf10))
      have f16 := (f10.other W12 (Or.inl pf10))
      have f17 := (A9.other W12 pf11)
      exact Run.ret1 d3_92 ⟨(congrArg some (congrArg Value.int (by unfold own_ad own_bit; rw [if_pos hc23]))), ((((Keep.refl h0 [r0, xm, xw]).wr W7 (Or.inl (List.mem_of_getElem? (i := 0) rfl))).wr W9 (Or.inl (List.mem_of_getElem? (i := 1) rfl))).wr W12 (Or.inl (List.mem_of_getElem? (i := 2) rfl))), f13, (by unfold own_ac own_bit; rw [if_pos hc23, if_pos hc32]; exact f14), f15, f16, (by unfold own_am own_bit; rw [if_pos hc23, if_pos hc32]; exact f17), (by unfold own_aw own_bit; rw [if_pos hc23]; exact A12)⟩
  · refine Run.iconst (0 : Int32) 27 d3_26 ?_
    exact Run.ret0 d3_27 ⟨(congrArg some (congrArg Value.int (by unfold own_ad own_bit; rw [if_neg hc23]))), (Keep.refl h0 [r0, xm, xw]), pf0, (by unfold own_ac own_bit; rw [if_neg hc23]; exact pf1), pf2, pf3, (by unfold own_am own_bit; rw [if_neg hc23]; exact pf4), (by unfold own_aw own_bit; rw [if_neg hc23]; exact pf5)⟩
theorem d5_0 : decode prog_89_method_3_code 0 = .ok (.aload_n 0, 1) := by decide +kernel
theorem d5_1 : decode prog_89_method_3_code 1 = .ok (.getfield 15, 3) := by decide +kernel
theorem d5_4 : decode prog_89_method_3_code 4 = .ok (.iload_n 1, 1) := by decide +kernel
theorem d5_5 : decode prog_89_method_3_code 5 = .ok (.bipush 64, 2) := by decide +kernel
theorem d5_7 : decode prog_89_method_3_code 7 = .ok (.idiv, 1) := by decide +kernel
theorem d5_8 : decode prog_89_method_3_code 8 = .ok (.laload, 1) := by decide +kernel
theorem d5_9 : decode prog_89_method_3_code 9 = .ok (.lconst 1, 1) := by decide +kernel
theorem d5_10 : decode prog_89_method_3_code 10 = .ok (.iload_n 1, 1) := by decide +kernel
theorem d5_11 : decode prog_89_method_3_code 11 = .ok (.lshl, 1) := by decide +kernel
theorem d5_12 : decode prog_89_method_3_code 12 = .ok (.land, 1) := by decide +kernel
theorem d5_13 : decode prog_89_method_3_code 13 = .ok (.lconst 0, 1) := by decide +kernel
theorem d5_14 : decode prog_89_method_3_code 14 = .ok (.lcmp, 1) := by decide +kernel
theorem d5_15 : decode prog_89_method_3_code 15 = .ok (.ifCond .eq 7, 3) := by decide +kernel
theorem d5_22 : decode prog_89_method_3_code 22 = .ok (.iconst 0, 1) := by decide +kernel
theorem d5_23 : decode prog_89_method_3_code 23 = .ok (.ireturn, 1) := by decide +kernel
theorem d5_18 : decode prog_89_method_3_code 18 = .ok (.iconst 1, 1) := by decide +kernel
theorem d5_19 : decode prog_89_method_3_code 19 = .ok (.goto 4, 3) := by decide +kernel
theorem ef_rmH (m : MethodId) (x0 : Addr) (x1 : Int32) : entryFrame m #[(.ref x0), (.int x1)] 2 = mkF m 0 #[.val (.ref x0), .val (.int x1)] [] := by first | (simp [entryFrame, mkF, argsToLocals, Value.category]; done) | rfl
set_option maxRecDepth 65536 in
set_option maxHeartbeats 40000000 in
theorem rmH {l : Launch} {Z : State} {a0 : Array Value} (hw : ∀ d ∈ tables_1, d.before a0 Z = true) (r0 : Addr) (p1 : Int32) (nw : Nat) (xw : Addr) (wf : Nat → Int64) (h0 : Heap) (n0 : Nat) (Z0 : n0 ≤ h0.size) (pf0 : Fld Z h0 r0 "com/example/nearspace/nearspace/NeighbourGraph$Marks" "words" "[J" (.ref xw)) (pf1 : AJ Z h0 xw nw wf) (hp : 0 ≤ (p1 / 64).toInt ∧ (p1 / 64).toInt < nw) :
    Pays l Z (⟨"com/example/nearspace/nearspace/NeighbourGraph$Marks", "has", "(I)Z"⟩ : MethodName) prog_89_method_3_code 2 (some .boolean) ({ frames := 0, cells := 0, slots := 0, locals := 0 } : Room) #[(.ref r0), (.int p1)] h0 n0 (fun v h' => v = some (.int (own_has p1 wf)) ∧ h0 = h') := by
  refine Pays.of (ls := #[.val (.ref r0), .val (.int p1)]) (plainFor_of_name (by first | (simp [plainName, overriddenIn]; done) | decide +kernel)) (fun m => ef_rmH m r0 p1) Z0 (fun p e s m below meth c => ?_)
  refine Run.aloadN 1 d5_0 rfl ?_
  refine Run.getF 4 (Or.inl (hw _ (List.mem_of_getElem? (i := 14) rfl))) (host := "") Via.refl pf0 d5_1 ?_
  refine Run.iloadN 5 d5_4 rfl ?_
  refine Run.bipush (64 : Int32) 7 d5_5 ?_
  refine Run.idiv (p1 / (64 : Int32)) 8 d5_7 (by decide) ?_
  refine Run.laload (wf (p1 / (64 : Int32)).toNatClampNeg) 9 pf1 hp d5_8 ?_
  refine Run.lconst (1 : Int64) 10 d5_9 ?_
  refine Run.iloadN 11 d5_10 rfl ?_
  refine Run.lshl ((1 : Int64) <<< (p1 &&& 0x3f).toInt64) 12 d5_11 ?_
  refine Run.land ((wf (p1 / (64 : Int32)).toNatClampNeg) &&& ((1 : Int64) <<< (p1 &&& 0x3f).toInt64)) 13 d5_12 ?_
  refine Run.lconst (0 : Int64) 14 d5_13 ?_
  refine Run.leq 22 18 d5_14 d5_15 (fun hc15 => ?_) (fun hc15 => ?_)
  · refine Run.iconst (0 : Int32) 23 d5_22 ?_
    exact Run.ret0 d5_23 ⟨(congrArg some (congrArg Value.int (by unfold own_has own_bit; rw [if_pos hc15]))), rfl⟩
  · refine Run.iconst (1 : Int32) 19 d5_18 ?_
    refine Run.goto 23 d5_19 ?_
    exact Run.ret1 d5_23 ⟨(congrArg some (congrArg Value.int (by unfold own_has own_bit; rw [if_neg hc15]))), rfl⟩
def own_Inv (nw N : Nat) (wf : Nat → Int64) (mf : Nat → Int32) (cnt : Int32) : Prop := 0 ≤ cnt.toInt ∧ cnt.toInt ≤ N ∧ (∀ i : Nat, (i : Int) < cnt.toInt → 0 ≤ (mf i).toInt ∧ (mf i).toInt < nw) ∧ ∀ q : Nat, q < nw → wf q = 0 ∨ ∃ i : Nat, (i : Int) < cnt.toInt ∧ (mf i).toInt = q
theorem own_inv0 (nw : Nat) : own_Inv nw 0 (fun _ => 0) (fun _ => 0) 0 := ⟨by decide, by decide, fun i hi => absurd hi (by rw [show (0 : Int32).toInt = 0 from by decide]; omega), fun q _ => Or.inl rfl⟩
theorem own_inv1 {nw N : Nat} {wf : Nat → Int64} {mf : Nat → Int32} {cnt : Int32} (I : own_Inv nw N wf mf cnt) (hN : N < 16) (p : Int32) (hp : 0 ≤ (p / 64).toInt ∧ (p / 64).toInt < nw) : own_Inv nw (N + 1) (own_aw p wf) (own_am p wf mf cnt) (own_ac p wf cnt) := by
  obtain ⟨h1, h2, h3, h4⟩ := I
  have hpn : ((p / 64).toNatClampNeg : Int) = (p / 64).toInt := nat32 hp.1
  have hcn : (cnt.toNatClampNeg : Int) = cnt.toInt := nat32 h1
  unfold own_aw own_am own_ac
  by_cases c1 : (wf (p / 64).toNatClampNeg &&& own_bit p) = 0
  · rw [if_pos c1, if_pos c1, if_pos c1]
    by_cases c2 : wf (p / 64).toNatClampNeg = 0
    · rw [if_pos c2, if_pos c2]
      have hs : (cnt + 1).toInt = cnt.toInt + 1 := inc_toInt (by omega)
      refine ⟨by omega, by omega, fun i hi => ?_, fun q hq => ?_⟩
      · by_cases e : i = cnt.toNatClampNeg
        · subst e; rw [oupd_same]; exact hp
        · rw [oupd_other _ _ e]; exact h3 i (by omega)
      · by_cases e : q = (p / 64).toNatClampNeg
        · exact Or.inr ⟨cnt.toNatClampNeg, by omega, by rw [oupd_same]; omega⟩
        · rw [oupd_other _ _ e]; exact (h4 q hq).imp id fun ⟨i, a, b⟩ => ⟨i, by omega, by rw [oupd_other _ _ (by omega)]; exact b⟩
    · rw [if_neg c2, if_neg c2]
      refine ⟨h1, by omega, h3, fun q hq => ?_⟩
      by_cases e : q = (p / 64).toNatClampNeg
      · subst e; exact (h4 _ hq).elim (fun z => absurd z c2) Or.inr
      · rw [oupd_other _ _ e]; exact h4 q hq
  · rw [if_neg c1, if_neg c1, if_neg c1]; exact ⟨h1, by omega, h3, h4⟩
theorem d4_0 : decode prog_89_method_2_code 0 = .ok (.iconst 0, 1) := by decide +kernel
theorem d4_1 : decode prog_89_method_2_code 1 = .ok (.istore_n 1, 1) := by decide +kernel
theorem d4_2 : decode prog_89_method_2_code 2 = .ok (.iload_n 1, 1) := by decide +kernel
theorem d4_3 : decode prog_89_method_2_code 3 = .ok (.aload_n 0, 1) := by decide +kernel
theorem d4_4 : decode prog_89_method_2_code 4 = .ok (.getfield 19, 3) := by decide +kernel
theorem d4_7 : decode prog_89_method_2_code 7 = .ok (.if_icmp .ge 21, 3) := by decide +kernel
theorem d4_28 : decode prog_89_method_2_code 28 = .ok (.aload_n 0, 1) := by decide +kernel
theorem d4_29 : decode prog_89_method_2_code 29 = .ok (.iconst 0, 1) := by decide +kernel
theorem d4_30 : decode prog_89_method_2_code 30 = .ok (.putfield 19, 3) := by decide +kernel
theorem d4_33 : decode prog_89_method_2_code 33 = .ok (.return_, 1) := by decide +kernel
theorem d4_10 : decode prog_89_method_2_code 10 = .ok (.aload_n 0, 1) := by decide +kernel
theorem d4_11 : decode prog_89_method_2_code 11 = .ok (.getfield 15, 3) := by decide +kernel
theorem d4_14 : decode prog_89_method_2_code 14 = .ok (.aload_n 0, 1) := by decide +kernel
theorem d4_15 : decode prog_89_method_2_code 15 = .ok (.getfield 7, 3) := by decide +kernel
theorem d4_18 : decode prog_89_method_2_code 18 = .ok (.iload_n 1, 1) := by decide +kernel
theorem d4_19 : decode prog_89_method_2_code 19 = .ok (.iaload, 1) := by decide +kernel
theorem d4_20 : decode prog_89_method_2_code 20 = .ok (.lconst 0, 1) := by decide +kernel
theorem d4_21 : decode prog_89_method_2_code 21 = .ok (.lastore, 1) := by decide +kernel
theorem d4_22 : decode prog_89_method_2_code 22 = .ok (.iinc 1 1, 3) := by decide +kernel
theorem d4_25 : decode prog_89_method_2_code 25 = .ok (.goto (-23), 3) := by decide +kernel
theorem ef_rmC (m : MethodId) (x0 : Addr) : entryFrame m #[(.ref x0)] 2 = mkF m 0 #[.val (.ref x0), .unset] [] := by first | (simp [entryFrame, mkF, argsToLocals, Value.category]; done) | rfl
set_option maxRecDepth 65536 in
set_option maxHeartbeats 40000000 in
theorem rmC {l : Launch} {Z : State} {a0 : Array Value} (hw : ∀ d ∈ tables_1, d.before a0 Z = true) (r0 : Addr) (nw : Nat) (xm : Addr) (xw : Addr) (cnt : Int32) (mf : Nat → Int32) (wf : Nat → Int64) (h0 : Heap) (n0 : Nat) (Z0 : n0 ≤ h0.size) (pf0 : Exa Z h0 r0 "com/example/nearspace/nearspace/NeighbourGraph$Marks") (pf1 : Fld Z h0 r0 "com/example/nearspace/nearspace/NeighbourGraph$Marks" "markedCount" "I" (.int cnt)) (pf2 : Fld Z h0 r0 "com/example/nearspace/nearspace/NeighbourGraph$Marks" "marked" "[I" (.ref xm)) (pf3 : Fld Z h0 r0 "com/example/nearspace/nearspace/NeighbourGraph$Marks" "words" "[J" (.ref xw)) (pf4 : AI Z h0 xm .int 16 mf) (pf5 : AJ Z h0 xw nw wf) (pf6 : n0 ≤ r0) (pf7 : n0 ≤ xm) (pf8 : n0 ≤ xw) (pf9 : r0 ≠ xm) (pf10 : r0 ≠ xw) (pf11 : xm ≠ xw) (hinv : own_Inv nw 16 wf mf cnt) :
    Pays l Z (⟨"com/example/nearspace/nearspace/NeighbourGraph$Marks", "clear", "()V"⟩ : MethodName) prog_89_method_2_code 2 none ({ frames := 0, cells := 0, slots := 0, locals := 0 } : Room) #[(.ref r0)] h0 n0 (fun v h' => v = none ∧ Keep h0 h' [r0, xm, xw] ∧ Exa Z h' r0 "com/example/nearspace/nearspace/NeighbourGraph$Marks" ∧ Fld Z h' r0 "com/example/nearspace/nearspace/NeighbourGraph$Marks" "markedCount" "I" (.int (0 : Int32)) ∧ Fld Z h' r0 "com/example/nearspace/nearspace/NeighbourGraph$Marks" "marked" "[I" (.ref xm) ∧ Fld Z h' r0 "com/example/nearspace/nearspace/NeighbourGraph$Marks" "words" "[J" (.ref xw) ∧ AI Z h' xm .int 16 mf ∧ AJ Z h' xw nw (fun _ => 0)) := by
  refine Pays.of (ls := #[.val (.ref r0), .unset]) (plainFor_of_name (by first | (simp [plainName, overriddenIn]; done) | decide +kernel)) (fun m => ef_rmC m r0) Z0 (fun p e s m below meth c => ?_)
  refine Run.iconst (0 : Int32) 1 d4_0 ?_
  refine Run.istoreN 2 #[.val (.ref r0), .val (.int (0 : Int32))] d4_1 ?_
  refine Run.ind (ι := Int32) (fun j x hh => Keep h0 hh [r0, xm, xw] ∧ ∃ g : Nat → Int64, Exa Z hh r0 "com/example/nearspace/nearspace/NeighbourGraph$Marks" ∧ Fld Z hh r0 "com/example/nearspace/nearspace/NeighbourGraph$Marks" "markedCount" "I" (.int cnt) ∧ Fld Z hh r0 "com/example/nearspace/nearspace/NeighbourGraph$Marks" "marked" "[I" (.ref xm) ∧ Fld Z hh r0 "com/example/nearspace/nearspace/NeighbourGraph$Marks" "words" "[J" (.ref xw) ∧ AI Z hh xm .int 16 mf ∧ AJ Z hh xw nw g ∧ 0 ≤ (x).toInt ∧ (x).toInt ≤ cnt.toInt ∧ (j : Int) = cnt.toInt - (x).toInt ∧ ∀ q : Nat, q < nw → g q = 0 ∨ ∃ u : Nat, (x).toInt ≤ u ∧ (u : Int) < cnt.toInt ∧ (mf u).toInt = q) (fun x => (mkF m 2 #[.val (.ref r0), .val (.int x)] [])) (fun j i hL hP ih => ?_) cnt.toInt.toNat 0 (by (try dsimp only); exact ⟨Keep.refl h0 [r0, xm, xw], wf, pf0, pf1, pf2, pf3, pf4, pf5, by decide, by have q := hinv.1; exact q, by have q := hinv.1; rw [show (0 : Int32).toInt = 0 from by decide]; omega, fun q hq => (hinv.2.2.2 q hq).imp id fun ⟨u, a, b⟩ => ⟨u, by rw [show (0 : Int32).toInt = 0 from by decide]; omega, a, b⟩⟩)
  obtain ⟨KP, g, EX, FC, FM, FW, AM, AW, hi1, hi2, hj, hg⟩ := hP
  obtain ⟨hc1, hc2, hc3, hc4⟩ := hinv
  have hin : (i.toNatClampNeg : Int) = i.toInt := nat32 hi1
  show Run p l e _ s m _ below meth c Z _ _ _ _ _ n0 _ hL 0 0 (mkF m 2 #[.val (.ref r0), .val (.int i)] [])
  refine Run.iloadN 3 d4_2 rfl ?_
  refine Run.aloadN 4 d4_3 rfl ?_
  refine Run.getF 7 (Or.inl (hw _ (List.mem_of_getElem? (i := 21) rfl))) (host := "") Via.refl FC d4_4 ?_
  refine Run.ge 28 10 d4_7 (fun hc7 => ?_) (fun hc7 => ?_)
  · refine Run.aloadN 29 d4_28 rfl ?_
    refine Run.iconst (0 : Int32) 30 d4_29 ?_
    refine Run.putF 33 (Or.inl (hw _ (List.mem_of_getElem? (i := 21) rfl))) (host := "") Via.refl FC EX (Or.inl (hw _ (List.mem_of_getElem? (i := 22) rfl))) (hw _ (List.mem_of_getElem? (i := 2) rfl)) (ty := .int) (by decide) pf6 d4_30 (fun h1 W1 => ?_)
    have F1 := FC.same W1
    have f2 := (EX.wr W1)
    have f3 := (FM.other W1 (Or.inr (slot_ne (Or.inl (hw _ (List.mem_of_getElem? (i := 12) rfl))) (Or.inl (hw _ (List.mem_of_getElem? (i := 22) rfl))) (by decide) (t := (.array .int)) (t' := .int) (by decide) (by decide))))
    have f4 := (FW.other W1 (Or.inr (slot_ne (Or.inr (hw _ (List.mem_of_getElem? (i := 15) rfl))) (Or.inl (hw _ (List.mem_of_getElem? (i := 22) rfl))) (by decide) (t := (.array .long)) (t' := .int) (by decide) (by decide))))
    have f5 := (AM.other W1 (Ne.symm pf9))
    have f6 := (AW.other W1 (Ne.symm pf10))
    exact Run.retV d4_33 ⟨rfl, (KP.wr W1 (Or.inl (List.mem_of_getElem? (i := 0) rfl))), f2, F1, f3, f4, f5, (f6.cong (fun q hq => by have w := hc7; rw [lt32] at w; exact (hg q hq).elim id (fun ⟨u, a1, a2, _⟩ => absurd a2 (by omega))))⟩
  · refine Run.aloadN 11 d4_10 rfl ?_
    refine Run.getF 14 (Or.inl (hw _ (List.mem_of_getElem? (i := 14) rfl))) (host := "") Via.refl FW d4_11 ?_
    refine Run.aloadN 15 d4_14 rfl ?_
    refine Run.getF 18 (Or.inl (hw _ (List.mem_of_getElem? (i := 11) rfl))) (host := "") Via.refl FM d4_15 ?_
    refine Run.iloadN 19 d4_18 rfl ?_
    refine Run.iaload (mf i.toNatClampNeg) 20 AM ⟨by omega, by have q := hc7; rw [lt32] at q; omega⟩ d4_19 ?_
    refine Run.lconst (0 : Int64) 21 d4_20 ?_
    refine Run.lastore 22 AW (hc3 i.toNatClampNeg (by have q := hc7; rw [lt32] at q; omega)) pf8 d4_21 (fun h7 W7 A7 => ?_)
    refine Run.iinc (i + (1 : Int32)) 25 #[.val (.ref r0), .val (.int (i + (1 : Int32)))] d4_22 rfl ?_
    refine Run.goto 2 d4_25 ?_
    have f8 := (EX.wr W7)
    have f9 := (FC.other W7 (Or.inl pf10))
    have f10 := (FM.other W7 (Or.inl pf10))
    have f11 := (FW.other W7 (Or.inl pf10))
    have f12 := (AM.other W7 pf11)
    have hlt : i.toInt < cnt.toInt := by have q := hc7; rw [lt32] at q; exact q
    have hs : (i + 1).toInt = i.toInt + 1 := inc_toInt (by omega)
    have hmf := hc3 i.toNatClampNeg (by omega)
    have hmn : ((mf i.toNatClampNeg).toNatClampNeg : Int) = (mf i.toNatClampNeg).toInt := nat32 hmf.1
    refine ih (j - 1) (i + 1) _ (by omega) ?_
    try dsimp only
    refine ⟨(KP.wr W7 (Or.inl (List.mem_of_getElem? (i := 2) rfl))), _, f8, f9, f10, f11, f12, A7, by omega, by omega, by omega, fun q hq => ?_⟩
    by_cases e : q = (mf i.toNatClampNeg).toNatClampNeg
    · subst e; left; rw [oupd_same]
    · rw [oupd_other _ _ e]
      rcases hg q hq with z | ⟨u, a1, a2, a3⟩
      · exact Or.inl z
      · refine Or.inr ⟨u, ?_, a2, a3⟩
        by_cases e2 : (u : Int) = i.toInt
        · have eu : u = i.toNatClampNeg := by omega
          subst eu; exact absurd (by omega) e
        · omega
theorem own_inv16 {nw N : Nat} {wf : Nat → Int64} {mf : Nat → Int32} {cnt : Int32} (I : own_Inv nw N wf mf cnt) (h : N ≤ 16) : own_Inv nw 16 wf mf cnt := ⟨I.1, by have := I.2.1; omega, I.2.2.1, I.2.2.2⟩
theorem own_invz (nw : Nat) (mf : Nat → Int32) : own_Inv nw 0 (fun _ => 0) mf 0 := ⟨by decide, by decide, fun i hi => absurd hi (by rw [show (0 : Int32).toInt = 0 from by decide]; omega), fun q _ => Or.inl rfl⟩
theorem own_cnt {nw N : Nat} {wf : Nat → Int64} {mf : Nat → Int32} {cnt : Int32} (I : own_Inv nw N wf mf cnt) (h : N < 16) : 0 ≤ cnt.toInt ∧ cnt.toInt < 16 := ⟨I.1, by have := I.2.1; omega⟩
/-- how many words -/
theorem own_nw {sz : Int32} {lim : Int} (h : 1 ≤ sz.toInt ∧ sz.toInt ≤ lim) (hl : lim ≤ 2000) : ((sz + 64 - 1) / 64).toInt = (sz.toInt + 63) / 64 := by
  have h1 := add_toInt (x := sz) (y := 64) rfl (show (64 : Int32).toInt = 64 from by decide) (by omega) (by omega)
  have h2 := sub_toInt (x := sz + 64) (y := 1) h1 (show (1 : Int32).toInt = 1 from by decide) (by omega) (by omega)
  rw [div_toInt (by omega) (show (64 : Int32).toInt = 64 from by decide) (by decide)]; omega
theorem own_pos {p sz : Int32} {nw : Nat} (hnw : (sz.toInt + 63) / 64 = nw) (hp : 0 ≤ p.toInt ∧ p.toInt < sz.toInt) : 0 ≤ (p / 64).toInt ∧ (p / 64).toInt < nw := by
  rw [div_toInt hp.1 (show (64 : Int32).toInt = 64 from by decide) (by decide)]; omega
theorem own_rem {x sz w : Int32} (hs : 1 ≤ sz.toInt) (h : (x &&& 2147483647) - ((x &&& 2147483647) / sz) * sz = w) : 0 ≤ w.toInt ∧ w.toInt < sz.toInt := by
  have h1 := and31 x; have h2 := rem_toInt (x := x &&& 2147483647) (y := sz) h1.1 rfl (by omega); rw [h] at h2
  have h3 := Int.emod_nonneg (x &&& 2147483647).toInt (b := sz.toInt) (by omega); have h4 := Int.emod_lt_of_pos (x &&& 2147483647).toInt (b := sz.toInt) (by omega); omega
theorem own_nz {sz : Int32} (hs : 1 ≤ sz.toInt) : sz ≠ 0 := fun z => by rw [z, show (0 : Int32).toInt = 0 from by decide] at hs; omega
/-- the bits -/
theorem own_bitk (p : Int32) : ∃ k : Fin 64, (k.val : Int) = p.toInt % 64 ∧ own_bit p = (1 : Int64) <<< (Int32.ofNat k.val).toInt64 := by
  have h := c_mask p 63 6 (by decide) (by decide)
  refine ⟨⟨(p.toInt % 64).toNat, by omega⟩, by show (((p.toInt % 64).toNat : Nat) : Int) = _; omega, ?_⟩
  unfold own_bit
  have e : p &&& 0x3f = Int32.ofNat (p.toInt % 64).toNat := by
    rw [eq32, show (Int32.ofNat (p.toInt % 64).toNat).toInt = _ from Int32.toInt_ofNat_small (by omega)]
    exact h.trans (by show p.toInt % 64 = _; omega)
  rw [e]
theorem own_bits : ∀ a b : Fin 64, ((((1 : Int64) <<< (Int32.ofNat a.val).toInt64) &&& ((1 : Int64) <<< (Int32.ofNat b.val).toInt64)) = 0) ↔ a ≠ b := by decide +kernel
theorem own_bb (p q : Int32) : ((own_bit p &&& own_bit q) = 0) ↔ ¬ (p.toInt % 64 = q.toInt % 64) := by
  obtain ⟨a, ha, ea⟩ := own_bitk p; obtain ⟨b, hb, eb⟩ := own_bitk q
  rw [ea, eb, own_bits a b, ← ha, ← hb]
  constructor
  · intro h z; exact h (Fin.ext (by omega))
  · intro h z; exact h (by rw [z])
theorem own_size {x w : Int32} (h : 1 + (x &&& 511) = w) : 1 ≤ w.toInt ∧ w.toInt ≤ 512 := by
  have h1 := c_mask x 511 9 (by decide) (by decide)
  have h2 := add_toInt (x := 1) (y := x &&& 511) (show (1 : Int32).toInt = 1 from by decide) h1 (by omega) (by omega); rw [h] at h2; omega
theorem own_h0 (p : Int32) : own_has p (fun _ => 0) = 0 := by unfold own_has; rw [if_pos]; exact Int64.zero_and
theorem own_dist (a b c : Int64) : (a ||| b) &&& c = (a &&& c) ||| (b &&& c) := by
  apply Int64.toBitVec_inj.mp; show (a.toBitVec ||| b.toBitVec) &&& c.toBitVec = _ ; ext i; simp [Bool.and_or_distrib_right]
theorem own_or0 (a b : Int64) : (a ||| b = 0) ↔ a = 0 ∧ b = 0 := by
  constructor
  · intro h
    have h' : a.toBitVec ||| b.toBitVec = 0#64 := congrArg Int64.toBitVec h
    have k := BitVec.or_eq_zero_iff.mp h'
    exact ⟨Int64.toBitVec_inj.mp k.1, Int64.toBitVec_inj.mp k.2⟩
  · rintro ⟨rfl, rfl⟩; rfl
/-- a place is in behind 'add' when it was in or is the one added -/
theorem own_mem (p q : Int32) (wf : Nat → Int64) (hp : 0 ≤ p.toInt) (hq : 0 ≤ q.toInt) : own_has q (own_aw p wf) = if q = p then 1 else own_has q wf := by
  have ep := div_toInt hp (show (64 : Int32).toInt = 64 from by decide) (by decide)
  have eq := div_toInt hq (show (64 : Int32).toInt = 64 from by decide) (by decide)
  have np := nat32 (j := p / 64) (by omega); have nq := nat32 (j := q / 64) (by omega)
  have bb := own_bb p q
  unfold own_has own_aw
  by_cases c1 : (wf (p / 64).toNatClampNeg &&& own_bit p) = 0
  · rw [if_pos c1]
    by_cases e : q = p
    · subst e; rw [if_pos rfl, oupd_same, own_dist, if_neg]
      intro z; exact (own_bb q q).mp ((own_or0 _ _).mp z).2 rfl
    · rw [if_neg e]
      by_cases w : (q / 64).toNatClampNeg = (p / 64).toNatClampNeg
      · have nz : ¬ (p.toInt % 64 = q.toInt % 64) := fun z => e (eq32.mpr (by omega))
        rw [w, oupd_same, own_dist, bb.mpr nz, Int64.or_zero]
      · rw [oupd_other _ _ w]
  · rw [if_neg c1]
    by_cases e : q = p
    · subst e; rw [if_pos rfl, if_neg c1]
    · rw [if_neg e]
theorem pd_0 : parseMethodDescriptor "(I)V" = some ⟨[.int], none⟩ := by decide +kernel
theorem pd_1 : parseMethodDescriptor "(I)Z" = some ⟨[.int], some .boolean⟩ := by decide +kernel
theorem pd_2 : parseMethodDescriptor "()V" = some ⟨[], none⟩ := by decide +kernel
theorem ef_rm0 (m : MethodId) (x0 : Int32) (x1 : Int32) (x2 : Int32) (x3 : Int32) (x4 : Int32) (x5 : Int32) : entryFrame m #[(.int x0), (.int x1), (.int x2), (.int x3), (.int x4), (.int x5)] maxLocals = mkF m 0 #[.val (.int x0), .val (.int x1), .val (.int x2), .val (.int x3), .val (.int x4), .val (.int x5), .unset, .unset, .unset, .unset, .unset, .unset, .unset, .unset, .unset] [] := by first | (simp [entryFrame, mkF, argsToLocals, Value.category, maxLocals]; done) | rfl
set_option maxRecDepth 65536 in
set_option maxHeartbeats 40000000 in
theorem rm0 {l : Launch} {Z : State} {a0 : Array Value} (hw : ∀ d ∈ tables_1, d.before a0 Z = true) (p0 : Int32) (p1 : Int32) (p2 : Int32) (p3 : Int32) (p4 : Int32) (p5 : Int32) (h0 : Heap) (n0 : Nat) (Z0 : n0 ≤ h0.size) :
    Pays l Z x code maxLocals ret room_1 #[(.int p0), (.int p1), (.int p2), (.int p3), (.int p4), (.int p5)] h0 n0 (fun v _ => v = some (.int 1) ∧ True) := by
  refine Pays.of (ls := #[.val (.int p0), .val (.int p1), .val (.int p2), .val (.int p3), .val (.int p4), .val (.int p5), .unset, .unset, .unset, .unset, .unset, .unset, .unset, .unset, .unset]) (plainFor_of_name (by first | (simp [plainName, overriddenIn]; done) | decide +kernel)) (fun m => ef_rm0 m p0 p1 p2 p3 p4 p5) Z0 (fun p e s m below meth c => ?_)
  show Run p l e _ s m _ below meth c Z "com/example/nearspace/nearspace/MarksHasPinLaw" "law" code 15 (some .boolean) n0 (EndN s n0 _ 16 128) h0 0 0 (mkF m 0 #[.val (.int p0), .val (.int p1), .val (.int p2), .val (.int p3), .val (.int p4), .val (.int p5), .unset, .unset, .unset, .unset, .unset, .unset, .unset, .unset, .unset] [])
  refine Run.iconst (1 : Int32) 1 at_0 ?_
  refine Run.iloadN 2 at_1 rfl ?_
  refine Run.sipush (511 : Int32) 5 at_2 ?_
  refine Run.iand (p0 &&& (511 : Int32)) 6 at_5 ?_
  obtain ⟨sz, e_sz⟩ : ∃ z, ((1 : Int32) + (p0 &&& (511 : Int32))) = z := ⟨_, rfl⟩
  refine Run.iadd sz 7 at_6 ?_ e_sz
  have hsz := own_size e_sz
  have hnw0 := own_nw hsz (by decide)
  obtain ⟨nw, hnw⟩ : ∃ nw : Nat, ((sz + 64 - 1) / 64).toInt = nw := ⟨((sz.toInt + 63) / 64).toNat, by omega⟩
  have hcap : nw ≤ 8 := by omega
  have hnw1 : (sz.toInt + 63) / 64 = nw := by omega
  refine Run.istore 9 #[.val (.int p0), .val (.int p1), .val (.int p2), .val (.int p3), .val (.int p4), .val (.int p5), .val (.int sz), .unset, .unset, .unset, .unset, .unset, .unset, .unset, .unset] at_7 ?_
  refine Run.iloadN 10 at_9 rfl ?_
  refine Run.ldcI 12 (hw _ (List.mem_of_getElem? (i := 0) rfl)) at_10 ?_
  refine Run.iand (p1 &&& (2147483647 : Int32)) 13 at_12 ?_
  refine Run.iload 15 at_13 rfl ?_
  obtain ⟨pa, e_pa⟩ : ∃ z, ((p1 &&& (2147483647 : Int32)) - ((p1 &&& (2147483647 : Int32)) / sz) * sz) = z := ⟨_, rfl⟩
  refine Run.irem pa 16 at_15 (own_nz hsz.1) ?_ e_pa
  have h_pa := own_rem hsz.1 e_pa
  refine Run.istore 18 #[.val (.int p0), .val (.int p1), .val (.int p2), .val (.int p3), .val (.int p4), .val (.int p5), .val (.int sz), .val (.int pa), .unset, .unset, .unset, .unset, .unset, .unset, .unset] at_16 ?_
  refine Run.iloadN 19 at_18 rfl ?_
  refine Run.ldcI 21 (hw _ (List.mem_of_getElem? (i := 0) rfl)) at_19 ?_
  refine Run.iand (p2 &&& (2147483647 : Int32)) 22 at_21 ?_
  refine Run.iload 24 at_22 rfl ?_
  obtain ⟨pb, e_pb⟩ : ∃ z, ((p2 &&& (2147483647 : Int32)) - ((p2 &&& (2147483647 : Int32)) / sz) * sz) = z := ⟨_, rfl⟩
  refine Run.irem pb 25 at_24 (own_nz hsz.1) ?_ e_pb
  have h_pb := own_rem hsz.1 e_pb
  refine Run.istore 27 #[.val (.int p0), .val (.int p1), .val (.int p2), .val (.int p3), .val (.int p4), .val (.int p5), .val (.int sz), .val (.int pa), .val (.int pb), .unset, .unset, .unset, .unset, .unset, .unset] at_25 ?_
  refine Run.iloadN 28 at_27 rfl ?_
  refine Run.ldcI 30 (hw _ (List.mem_of_getElem? (i := 0) rfl)) at_28 ?_
  refine Run.iand (p3 &&& (2147483647 : Int32)) 31 at_30 ?_
  refine Run.iload 33 at_31 rfl ?_
  obtain ⟨pk, e_pk⟩ : ∃ z, ((p3 &&& (2147483647 : Int32)) - ((p3 &&& (2147483647 : Int32)) / sz) * sz) = z := ⟨_, rfl⟩
  refine Run.irem pk 34 at_33 (own_nz hsz.1) ?_ e_pk
  have h_pk := own_rem hsz.1 e_pk
  refine Run.istore 36 #[.val (.int p0), .val (.int p1), .val (.int p2), .val (.int p3), .val (.int p4), .val (.int p5), .val (.int sz), .val (.int pa), .val (.int pb), .val (.int pk), .unset, .unset, .unset, .unset, .unset] at_34 ?_
  refine Run.iload 38 at_36 rfl ?_
  refine Run.ldcI 40 (hw _ (List.mem_of_getElem? (i := 0) rfl)) at_38 ?_
  refine Run.iand (p4 &&& (2147483647 : Int32)) 41 at_40 ?_
  refine Run.iload 43 at_41 rfl ?_
  obtain ⟨pq, e_pq⟩ : ∃ z, ((p4 &&& (2147483647 : Int32)) - ((p4 &&& (2147483647 : Int32)) / sz) * sz) = z := ⟨_, rfl⟩
  refine Run.irem pq 44 at_43 (own_nz hsz.1) ?_ e_pq
  have h_pq := own_rem hsz.1 e_pq
  refine Run.istore 46 #[.val (.int p0), .val (.int p1), .val (.int p2), .val (.int p3), .val (.int p4), .val (.int p5), .val (.int sz), .val (.int pa), .val (.int pb), .val (.int pk), .val (.int pq), .unset, .unset, .unset, .unset] at_44 ?_
  refine Run.iload 48 at_46 rfl ?_
  refine Run.iconst (1 : Int32) 49 at_48 ?_
  refine Run.iand (p5 &&& (1 : Int32)) 50 at_49 ?_
  refine Run.eq0 57 53 at_50 (fun hc50 => ?_) (fun hc50 => ?_)
  · refine Run.iconst (0 : Int32) 58 at_57 ?_
    refine Run.istore 60 #[.val (.int p0), .val (.int p1), .val (.int p2), .val (.int p3), .val (.int p4), .val (.int p5), .val (.int sz), .val (.int pa), .val (.int pb), .val (.int pk), .val (.int pq), .val (.int (0 : Int32)), .unset, .unset, .unset] at_58 ?_
    refine Run.iload 62 at_60 rfl ?_
    refine Run.iconst (2 : Int32) 63 at_62 ?_
    refine Run.iand (p5 &&& (2 : Int32)) 64 at_63 ?_
    refine Run.eq0 71 67 at_64 (fun hc64 => ?_) (fun hc64 => ?_)
    · refine Run.iconst (0 : Int32) 72 at_71 ?_
      refine Run.istore 74 #[.val (.int p0), .val (.int p1), .val (.int p2), .val (.int p3), .val (.int p4), .val (.int p5), .val (.int sz), .val (.int pa), .val (.int pb), .val (.int pk), .val (.int pq), .val (.int (0 : Int32)), .val (.int (0 : Int32)), .unset, .unset] at_72 ?_
      refine Run.new 77 (hw _ (List.mem_of_getElem? (i := 1) rfl)) (hw _ (List.mem_of_getElem? (i := 2) rfl)) (hw _ (List.mem_of_getElem? (i := 3) rfl)) at_74 (fun h1 ob1 g1 u1 E1 A1 D1 => ?_)
      have F_marked_ob1 : Fld Z h1 ob1 "com/example/nearspace/nearspace/NeighbourGraph$Marks" "marked" "[I" .null := D1 (Or.inl (hw _ (List.mem_of_getElem? (i := 12) rfl))) (ty := (.array .int)) (by decide)
      have F_words_ob1 : Fld Z h1 ob1 "com/example/nearspace/nearspace/NeighbourGraph$Marks" "words" "[J" .null := D1 (Or.inr (hw _ (List.mem_of_getElem? (i := 15) rfl))) (ty := (.array .long)) (by decide)
      have F_markedCount_ob1 : Fld Z h1 ob1 "com/example/nearspace/nearspace/NeighbourGraph$Marks" "markedCount" "I" (.int (0 : Int32)) := D1 (Or.inl (hw _ (List.mem_of_getElem? (i := 22) rfl))) (ty := .int) (by decide)
      show Run p l e _ s m _ below meth c Z _ _ _ _ _ n0 _ h1 1 3 (mkF m 77 #[.val (.int p0), .val (.int p1), .val (.int p2), .val (.int p3), .val (.int p4), .val (.int p5), .val (.int sz), .val (.int pa), .val (.int pb), .val (.int pk), .val (.int pq), .val (.int (0 : Int32)), .val (.int (0 : Int32)), .unset, .unset] [(.ref ob1)])
      refine Run.dup 78 at_77 ?_
      refine Run.iload 80 at_78 rfl ?_
      refine Run.sz fun hsz_h1 => ?_
      refine Run.callC 83 1 (a := ob1) (argsL := [(.int sz)]) (st := [(.ref ob1)]) (rmI hw ob1 sz nw h1 n0 hsz_h1 A1 F_marked_ob1 F_words_ob1 F_markedCount_ob1 u1 hnw hcap) (hw _ (List.mem_of_getElem? (i := 4) rfl)) (hw _ (List.mem_of_getElem? (i := 5) rfl)) (hw _ (List.mem_of_getElem? (i := 3) rfl)) (hw _ (List.mem_of_getElem? (i := 6) rfl)) pd_0 at_80 (fun v2 h2 => ?_)
      rintro ⟨xm_2, xw_2, rfl, K2, sz_xm_2, sz_xw_2, ne_xm_2_xw_2, G2_0, G2_1, G2_2, G2_3, G2_4, G2_5⟩
      have ne_ob1_xm_2 : ob1 ≠ xm_2 := Nat.ne_of_lt (Nat.lt_of_lt_of_le A1.lt sz_xm_2)
      have ne_ob1_xw_2 : ob1 ≠ xw_2 := Nat.ne_of_lt (Nat.lt_of_lt_of_le A1.lt sz_xw_2)
      have u_xm_2 : n0 ≤ xm_2 := Nat.le_trans hsz_h1 sz_xm_2
      have u_xw_2 : n0 ≤ xw_2 := Nat.le_trans hsz_h1 sz_xw_2
      show Run p l e _ s m _ below meth c Z _ _ _ _ _ n0 _ h2 3 27 (mkF m 83 #[.val (.int p0), .val (.int p1), .val (.int p2), .val (.int p3), .val (.int p4), .val (.int p5), .val (.int sz), .val (.int pa), .val (.int pb), .val (.int pk), .val (.int pq), .val (.int (0 : Int32)), .val (.int (0 : Int32)), .unset, .unset] [(.ref ob1)])
      have inv0 := own_inv0 nw
      refine Run.astore 85 #[.val (.int p0), .val (.int p1), .val (.int p2), .val (.int p3), .val (.int p4), .val (.int p5), .val (.int sz), .val (.int pa), .val (.int pb), .val (.int pk), .val (.int pq), .val (.int (0 : Int32)), .val (.int (0 : Int32)), .val (.ref ob1), .unset] at_83 ?_
      refine Run.aload 87 at_85 rfl ?_
      refine Run.iload 89 at_87 rfl ?_
      refine Run.sz fun hsz_h2 => ?_
      refine Run.callV 92 0 (a := ob1) (argsL := [(.int pa)]) (st := []) (rmA hw ob1 pa nw xm_2 xw_2 (0 : Int32) (fun _ => 0) (fun _ => 0) h2 n0 hsz_h2 G2_0 G2_1 G2_2 G2_3 G2_4 G2_5 u1 u_xm_2 u_xw_2 ne_ob1_xm_2 ne_ob1_xw_2 ne_xm_2_xw_2 (own_pos hnw1 h_pa) (own_cnt inv0 (by decide))) G2_0 (hw _ (List.mem_of_getElem? (i := 16) rfl)) (hw _ (List.mem_of_getElem? (i := 17) rfl)) (hw _ (List.mem_of_getElem? (i := 19) rfl)) (hw _ (List.mem_of_getElem? (i := 18) rfl)) (hw _ (List.mem_of_getElem? (i := 3) rfl)) (hw _ (List.mem_of_getElem? (i := 20) rfl)) pd_1 at_89 (fun v3 h3 => ?_)
      rintro ⟨rfl, K3, G3_0, G3_1, G3_2, G3_3, G3_4, G3_5⟩
      show Run p l e _ s m _ below meth c Z _ _ _ _ _ n0 _ h3 3 27 (mkF m 92 #[.val (.int p0), .val (.int p1), .val (.int p2), .val (.int p3), .val (.int p4), .val (.int p5), .val (.int sz), .val (.int pa), .val (.int pb), .val (.int pk), .val (.int pq), .val (.int (0 : Int32)), .val (.int (0 : Int32)), .val (.ref ob1), .unset] [(.int (own_ad pa (fun _ => 0)))])
      have inv1 := own_inv1 inv0 (by decide) pa (own_pos hnw1 h_pa)
      refine Run.pop 93 at_92 ?_
      refine Run.aload 95 at_93 rfl ?_
      refine Run.iload 97 at_95 rfl ?_
      refine Run.sz fun hsz_h3 => ?_
      refine Run.callV 100 0 (a := ob1) (argsL := [(.int pb)]) (st := []) (rmA hw ob1 pb nw xm_2 xw_2 (own_ac pa (fun _ => 0) (0 : Int32)) (own_am pa (fun _ => 0) (fun _ => 0) (0 : Int32)) (own_aw pa (fun _ => 0)) h3 n0 hsz_h3 G3_0 G3_1 G3_2 G3_3 G3_4 G3_5 u1 u_xm_2 u_xw_2 ne_ob1_xm_2 ne_ob1_xw_2 ne_xm_2_xw_2 (own_pos hnw1 h_pb) (own_cnt inv1 (by decide))) G3_0 (hw _ (List.mem_of_getElem? (i := 16) rfl)) (hw _ (List.mem_of_getElem? (i := 17) rfl)) (hw _ (List.mem_of_getElem? (i := 19) rfl)) (hw _ (List.mem_of_getElem? (i := 18) rfl)) (hw _ (List.mem_of_getElem? (i := 3) rfl)) (hw _ (List.mem_of_getElem? (i := 20) rfl)) pd_1 at_97 (fun v4 h4 => ?_)
      rintro ⟨rfl, K4, G4_0, G4_1, G4_2, G4_3, G4_4, G4_5⟩
      show Run p l e _ s m _ below meth c Z _ _ _ _ _ n0 _ h4 3 27 (mkF m 100 #[.val (.int p0), .val (.int p1), .val (.int p2), .val (.int p3), .val (.int p4), .val (.int p5), .val (.int sz), .val (.int pa), .val (.int pb), .val (.int pk), .val (.int pq), .val (.int (0 : Int32)), .val (.int (0 : Int32)), .val (.ref ob1), .unset] [(.int (own_ad pb (own_aw pa (fun _ => 0))))])
      have inv2 := own_inv1 inv1 (by decide) pb (own_pos hnw1 h_pb)
      refine Run.pop 101 at_100 ?_
      refine Run.iload 103 at_101 rfl ?_
      refine Run.eq0Y 111 at_103 (by decide) ?_
      refine Run.iload 113 at_111 rfl ?_
      refine Run.eq0Y 124 at_113 (by decide) ?_
      refine Run.iconst (0 : Int32) 125 at_124 ?_
      refine Run.istore 127 #[.val (.int p0), .val (.int p1), .val (.int p2), .val (.int p3), .val (.int p4), .val (.int p5), .val (.int sz), .val (.int pa), .val (.int pb), .val (.int pk), .val (.int pq), .val (.int (0 : Int32)), .val (.int (0 : Int32)), .val (.ref ob1), .val (.int (0 : Int32))] at_125 ?_
      refine Run.iload 129 at_127 rfl ?_
      refine Run.ne0N 132 at_129 (by decide) ?_
      refine Run.iload 134 at_132 rfl ?_
      refine Run.iload 136 at_134 rfl ?_
      refine Run.eq 146 139 at_136 (fun hc136 => ?_) (fun hc136 => ?_)
      · refine Run.iconst (1 : Int32) 147 at_146 ?_
        refine Run.istore 149 #[.val (.int p0), .val (.int p1), .val (.int p2), .val (.int p3), .val (.int p4), .val (.int p5), .val (.int sz), .val (.int pa), .val (.int pb), .val (.int pk), .val (.int pq), .val (.int (0 : Int32)), .val (.int (0 : Int32)), .val (.ref ob1), .val (.int (1 : Int32))] at_147 ?_
        refine Run.iload 151 at_149 rfl ?_
        refine Run.eq0Y 164 at_151 (by decide) ?_
        refine Run.aload 166 at_164 rfl ?_
        refine Run.iload 168 at_166 rfl ?_
        refine Run.sz fun hsz_h4 => ?_
        refine Run.callV 171 0 (a := ob1) (argsL := [(.int pq)]) (st := []) (rmH hw ob1 pq nw xw_2 (own_aw pb (own_aw pa (fun _ => 0))) h4 n0 hsz_h4 G4_3 G4_5 (own_pos hnw1 h_pq)) G4_0 (hw _ (List.mem_of_getElem? (i := 28) rfl)) (hw _ (List.mem_of_getElem? (i := 29) rfl)) (hw _ (List.mem_of_getElem? (i := 31) rfl)) (hw _ (List.mem_of_getElem? (i := 30) rfl)) (hw _ (List.mem_of_getElem? (i := 3) rfl)) (hw _ (List.mem_of_getElem? (i := 32) rfl)) pd_1 at_168 (fun v5 h5 => ?_)
        rintro ⟨rfl, rfl⟩
        show Run p l e _ s m _ below meth c Z _ _ _ _ _ n0 _ h4 3 27 (mkF m 171 #[.val (.int p0), .val (.int p1), .val (.int p2), .val (.int p3), .val (.int p4), .val (.int p5), .val (.int sz), .val (.int pa), .val (.int pb), .val (.int pk), .val (.int pq), .val (.int (0 : Int32)), .val (.int (0 : Int32)), .val (.ref ob1), .val (.int (1 : Int32))] [(.int (own_has pq (own_aw pb (own_aw pa (fun _ => 0)))))])
        refine Run.iload 173 at_171 rfl ?_
        refine Run.neN 176 at_173 (by simp only [own_mem _ _ _ h_pa.1 h_pq.1, own_mem _ _ _ h_pb.1 h_pq.1, own_mem _ _ _ h_pk.1 h_pq.1, own_h0] <;> simp [hc136]) ?_
        refine Run.iconst (1 : Int32) 177 at_176 ?_
        refine Run.goto 181 at_177 ?_
        exact Run.ret1 at_181 ⟨rfl, trivial⟩
      · refine Run.iload 141 at_139 rfl ?_
        refine Run.iload 143 at_141 rfl ?_
        refine Run.ne 149 146 at_143 (fun hc143 => ?_) (fun hc143 => ?_)
        · refine Run.iload 151 at_149 rfl ?_
          refine Run.eq0Y 164 at_151 (by decide) ?_
          refine Run.aload 166 at_164 rfl ?_
          refine Run.iload 168 at_166 rfl ?_
          refine Run.sz fun hsz_h4 => ?_
          refine Run.callV 171 0 (a := ob1) (argsL := [(.int pq)]) (st := []) (rmH hw ob1 pq nw xw_2 (own_aw pb (own_aw pa (fun _ => 0))) h4 n0 hsz_h4 G4_3 G4_5 (own_pos hnw1 h_pq)) G4_0 (hw _ (List.mem_of_getElem? (i := 28) rfl)) (hw _ (List.mem_of_getElem? (i := 29) rfl)) (hw _ (List.mem_of_getElem? (i := 31) rfl)) (hw _ (List.mem_of_getElem? (i := 30) rfl)) (hw _ (List.mem_of_getElem? (i := 3) rfl)) (hw _ (List.mem_of_getElem? (i := 32) rfl)) pd_1 at_168 (fun v6 h6 => ?_)
          rintro ⟨rfl, rfl⟩
          show Run p l e _ s m _ below meth c Z _ _ _ _ _ n0 _ h4 3 27 (mkF m 171 #[.val (.int p0), .val (.int p1), .val (.int p2), .val (.int p3), .val (.int p4), .val (.int p5), .val (.int sz), .val (.int pa), .val (.int pb), .val (.int pk), .val (.int pq), .val (.int (0 : Int32)), .val (.int (0 : Int32)), .val (.ref ob1), .val (.int (0 : Int32))] [(.int (own_has pq (own_aw pb (own_aw pa (fun _ => 0)))))])
          refine Run.iload 173 at_171 rfl ?_
          refine Run.neN 176 at_173 (by simp only [own_mem _ _ _ h_pa.1 h_pq.1, own_mem _ _ _ h_pb.1 h_pq.1, own_mem _ _ _ h_pk.1 h_pq.1, own_h0] <;> simp [hc136, hc143]) ?_
          refine Run.iconst (1 : Int32) 177 at_176 ?_
          refine Run.goto 181 at_177 ?_
          exact Run.ret1 at_181 ⟨rfl, trivial⟩
        · refine Run.iconst (1 : Int32) 147 at_146 ?_
          refine Run.istore 149 #[.val (.int p0), .val (.int p1), .val (.int p2), .val (.int p3), .val (.int p4), .val (.int p5), .val (.int sz), .val (.int pa), .val (.int pb), .val (.int pk), .val (.int pq), .val (.int (0 : Int32)), .val (.int (0 : Int32)), .val (.ref ob1), .val (.int (1 : Int32))] at_147 ?_
          refine Run.iload 151 at_149 rfl ?_
          refine Run.eq0Y 164 at_151 (by decide) ?_
          refine Run.aload 166 at_164 rfl ?_
          refine Run.iload 168 at_166 rfl ?_
          refine Run.sz fun hsz_h4 => ?_
          refine Run.callV 171 0 (a := ob1) (argsL := [(.int pq)]) (st := []) (rmH hw ob1 pq nw xw_2 (own_aw pb (own_aw pa (fun _ => 0))) h4 n0 hsz_h4 G4_3 G4_5 (own_pos hnw1 h_pq)) G4_0 (hw _ (List.mem_of_getElem? (i := 28) rfl)) (hw _ (List.mem_of_getElem? (i := 29) rfl)) (hw _ (List.mem_of_getElem? (i := 31) rfl)) (hw _ (List.mem_of_getElem? (i := 30) rfl)) (hw _ (List.mem_of_getElem? (i := 3) rfl)) (hw _ (List.mem_of_getElem? (i := 32) rfl)) pd_1 at_168 (fun v7 h7 => ?_)
          rintro ⟨rfl, rfl⟩
          show Run p l e _ s m _ below meth c Z _ _ _ _ _ n0 _ h4 3 27 (mkF m 171 #[.val (.int p0), .val (.int p1), .val (.int p2), .val (.int p3), .val (.int p4), .val (.int p5), .val (.int sz), .val (.int pa), .val (.int pb), .val (.int pk), .val (.int pq), .val (.int (0 : Int32)), .val (.int (0 : Int32)), .val (.ref ob1), .val (.int (1 : Int32))] [(.int (own_has pq (own_aw pb (own_aw pa (fun _ => 0)))))])
          refine Run.iload 173 at_171 rfl ?_
          refine Run.neN 176 at_173 (by simp only [own_mem _ _ _ h_pa.1 h_pq.1, own_mem _ _ _ h_pb.1 h_pq.1, own_mem _ _ _ h_pk.1 h_pq.1, own_h0] <;> simp [hc136, hc143]) ?_
          refine Run.iconst (1 : Int32) 177 at_176 ?_
          refine Run.goto 181 at_177 ?_
          exact Run.ret1 at_181 ⟨rfl, trivial⟩
    · refine Run.iconst (1 : Int32) 68 at_67 ?_
      refine Run.goto 72 at_68 ?_
      refine Run.istore 74 #[.val (.int p0), .val (.int p1), .val (.int p2), .val (.int p3), .val (.int p4), .val (.int p5), .val (.int sz), .val (.int pa), .val (.int pb), .val (.int pk), .val (.int pq), .val (.int (0 : Int32)), .val (.int (1 : Int32)), .unset, .unset] at_72 ?_
      refine Run.new 77 (hw _ (List.mem_of_getElem? (i := 1) rfl)) (hw _ (List.mem_of_getElem? (i := 2) rfl)) (hw _ (List.mem_of_getElem? (i := 3) rfl)) at_74 (fun h8 ob8 g8 u8 E8 A8 D8 => ?_)
      have F_marked_ob8 : Fld Z h8 ob8 "com/example/nearspace/nearspace/NeighbourGraph$Marks" "marked" "[I" .null := D8 (Or.inl (hw _ (List.mem_of_getElem? (i := 12) rfl))) (ty := (.array .int)) (by decide)
      have F_words_ob8 : Fld Z h8 ob8 "com/example/nearspace/nearspace/NeighbourGraph$Marks" "words" "[J" .null := D8 (Or.inr (hw _ (List.mem_of_getElem? (i := 15) rfl))) (ty := (.array .long)) (by decide)
      have F_markedCount_ob8 : Fld Z h8 ob8 "com/example/nearspace/nearspace/NeighbourGraph$Marks" "markedCount" "I" (.int (0 : Int32)) := D8 (Or.inl (hw _ (List.mem_of_getElem? (i := 22) rfl))) (ty := .int) (by decide)
      show Run p l e _ s m _ below meth c Z _ _ _ _ _ n0 _ h8 1 3 (mkF m 77 #[.val (.int p0), .val (.int p1), .val (.int p2), .val (.int p3), .val (.int p4), .val (.int p5), .val (.int sz), .val (.int pa), .val (.int pb), .val (.int pk), .val (.int pq), .val (.int (0 : Int32)), .val (.int (1 : Int32)), .unset, .unset] [(.ref ob8)])
      refine Run.dup 78 at_77 ?_
      refine Run.iload 80 at_78 rfl ?_
      refine Run.sz fun hsz_h8 => ?_
      refine Run.callC 83 1 (a := ob8) (argsL := [(.int sz)]) (st := [(.ref ob8)]) (rmI hw ob8 sz nw h8 n0 hsz_h8 A8 F_marked_ob8 F_words_ob8 F_markedCount_ob8 u8 hnw hcap) (hw _ (List.mem_of_getElem? (i := 4) rfl)) (hw _ (List.mem_of_getElem? (i := 5) rfl)) (hw _ (List.mem_of_getElem? (i := 3) rfl)) (hw _ (List.mem_of_getElem? (i := 6) rfl)) pd_0 at_80 (fun v9 h9 => ?_)
      rintro ⟨xm_9, xw_9, rfl, K9, sz_xm_9, sz_xw_9, ne_xm_9_xw_9, G9_0, G9_1, G9_2, G9_3, G9_4, G9_5⟩
      have ne_ob8_xm_9 : ob8 ≠ xm_9 := Nat.ne_of_lt (Nat.lt_of_lt_of_le A8.lt sz_xm_9)
      have ne_ob8_xw_9 : ob8 ≠ xw_9 := Nat.ne_of_lt (Nat.lt_of_lt_of_le A8.lt sz_xw_9)
      have u_xm_9 : n0 ≤ xm_9 := Nat.le_trans hsz_h8 sz_xm_9
      have u_xw_9 : n0 ≤ xw_9 := Nat.le_trans hsz_h8 sz_xw_9
      show Run p l e _ s m _ below meth c Z _ _ _ _ _ n0 _ h9 3 27 (mkF m 83 #[.val (.int p0), .val (.int p1), .val (.int p2), .val (.int p3), .val (.int p4), .val (.int p5), .val (.int sz), .val (.int pa), .val (.int pb), .val (.int pk), .val (.int pq), .val (.int (0 : Int32)), .val (.int (1 : Int32)), .unset, .unset] [(.ref ob8)])
      have inv0 := own_inv0 nw
      refine Run.astore 85 #[.val (.int p0), .val (.int p1), .val (.int p2), .val (.int p3), .val (.int p4), .val (.int p5), .val (.int sz), .val (.int pa), .val (.int pb), .val (.int pk), .val (.int pq), .val (.int (0 : Int32)), .val (.int (1 : Int32)), .val (.ref ob8), .unset] at_83 ?_
      refine Run.aload 87 at_85 rfl ?_
      refine Run.iload 89 at_87 rfl ?_
      refine Run.sz fun hsz_h9 => ?_
      refine Run.callV 92 0 (a := ob8) (argsL := [(.int pa)]) (st := []) (rmA hw ob8 pa nw xm_9 xw_9 (0 : Int32) (fun _ => 0) (fun _ => 0) h9 n0 hsz_h9 G9_0 G9_1 G9_2 G9_3 G9_4 G9_5 u8 u_xm_9 u_xw_9 ne_ob8_xm_9 ne_ob8_xw_9 ne_xm_9_xw_9 (own_pos hnw1 h_pa) (own_cnt inv0 (by decide))) G9_0 (hw _ (List.mem_of_getElem? (i := 16) rfl)) (hw _ (List.mem_of_getElem? (i := 17) rfl)) (hw _ (List.mem_of_getElem? (i := 19) rfl)) (hw _ (List.mem_of_getElem? (i := 18) rfl)) (hw _ (List.mem_of_getElem? (i := 3) rfl)) (hw _ (List.mem_of_getElem? (i := 20) rfl)) pd_1 at_89 (fun v10 h10 => ?_)
      rintro ⟨rfl, K10, G10_0, G10_1, G10_2, G10_3, G10_4, G10_5⟩
      show Run p l e _ s m _ below meth c Z _ _ _ _ _ n0 _ h10 3 27 (mkF m 92 #[.val (.int p0), .val (.int p1), .val (.int p2), .val (.int p3), .val (.int p4), .val (.int p5), .val (.int sz), .val (.int pa), .val (.int pb), .val (.int pk), .val (.int pq), .val (.int (0 : Int32)), .val (.int (1 : Int32)), .val (.ref ob8), .unset] [(.int (own_ad pa (fun _ => 0)))])
      have inv1 := own_inv1 inv0 (by decide) pa (own_pos hnw1 h_pa)
      refine Run.pop 93 at_92 ?_
      refine Run.aload 95 at_93 rfl ?_
      refine Run.iload 97 at_95 rfl ?_
      refine Run.sz fun hsz_h10 => ?_
      refine Run.callV 100 0 (a := ob8) (argsL := [(.int pb)]) (st := []) (rmA hw ob8 pb nw xm_9 xw_9 (own_ac pa (fun _ => 0) (0 : Int32)) (own_am pa (fun _ => 0) (fun _ => 0) (0 : Int32)) (own_aw pa (fun _ => 0)) h10 n0 hsz_h10 G10_0 G10_1 G10_2 G10_3 G10_4 G10_5 u8 u_xm_9 u_xw_9 ne_ob8_xm_9 ne_ob8_xw_9 ne_xm_9_xw_9 (own_pos hnw1 h_pb) (own_cnt inv1 (by decide))) G10_0 (hw _ (List.mem_of_getElem? (i := 16) rfl)) (hw _ (List.mem_of_getElem? (i := 17) rfl)) (hw _ (List.mem_of_getElem? (i := 19) rfl)) (hw _ (List.mem_of_getElem? (i := 18) rfl)) (hw _ (List.mem_of_getElem? (i := 3) rfl)) (hw _ (List.mem_of_getElem? (i := 20) rfl)) pd_1 at_97 (fun v11 h11 => ?_)
      rintro ⟨rfl, K11, G11_0, G11_1, G11_2, G11_3, G11_4, G11_5⟩
      show Run p l e _ s m _ below meth c Z _ _ _ _ _ n0 _ h11 3 27 (mkF m 100 #[.val (.int p0), .val (.int p1), .val (.int p2), .val (.int p3), .val (.int p4), .val (.int p5), .val (.int sz), .val (.int pa), .val (.int pb), .val (.int pk), .val (.int pq), .val (.int (0 : Int32)), .val (.int (1 : Int32)), .val (.ref ob8), .unset] [(.int (own_ad pb (own_aw pa (fun _ => 0))))])
      have inv2 := own_inv1 inv1 (by decide) pb (own_pos hnw1 h_pb)
      refine Run.pop 101 at_100 ?_
      refine Run.iload 103 at_101 rfl ?_
      refine Run.eq0Y 111 at_103 (by decide) ?_
      refine Run.iload 113 at_111 rfl ?_
      refine Run.eq0N 116 at_113 (by decide) ?_
      refine Run.aload 118 at_116 rfl ?_
      refine Run.iload 120 at_118 rfl ?_
      refine Run.sz fun hsz_h11 => ?_
      refine Run.callV 123 0 (a := ob8) (argsL := [(.int pk)]) (st := []) (rmA hw ob8 pk nw xm_9 xw_9 (own_ac pb (own_aw pa (fun _ => 0)) (own_ac pa (fun _ => 0) (0 : Int32))) (own_am pb (own_aw pa (fun _ => 0)) (own_am pa (fun _ => 0) (fun _ => 0) (0 : Int32)) (own_ac pa (fun _ => 0) (0 : Int32))) (own_aw pb (own_aw pa (fun _ => 0))) h11 n0 hsz_h11 G11_0 G11_1 G11_2 G11_3 G11_4 G11_5 u8 u_xm_9 u_xw_9 ne_ob8_xm_9 ne_ob8_xw_9 ne_xm_9_xw_9 (own_pos hnw1 h_pk) (own_cnt inv2 (by decide))) G11_0 (hw _ (List.mem_of_getElem? (i := 16) rfl)) (hw _ (List.mem_of_getElem? (i := 17) rfl)) (hw _ (List.mem_of_getElem? (i := 19) rfl)) (hw _ (List.mem_of_getElem? (i := 18) rfl)) (hw _ (List.mem_of_getElem? (i := 3) rfl)) (hw _ (List.mem_of_getElem? (i := 20) rfl)) pd_1 at_120 (fun v12 h12 => ?_)
      rintro ⟨rfl, K12, G12_0, G12_1, G12_2, G12_3, G12_4, G12_5⟩
      show Run p l e _ s m _ below meth c Z _ _ _ _ _ n0 _ h12 3 27 (mkF m 123 #[.val (.int p0), .val (.int p1), .val (.int p2), .val (.int p3), .val (.int p4), .val (.int p5), .val (.int sz), .val (.int pa), .val (.int pb), .val (.int pk), .val (.int pq), .val (.int (0 : Int32)), .val (.int (1 : Int32)), .val (.ref ob8), .unset] [(.int (own_ad pk (own_aw pb (own_aw pa (fun _ => 0)))))])
      refine Run.pop 124 at_123 ?_
      refine Run.iconst (0 : Int32) 125 at_124 ?_
      refine Run.istore 127 #[.val (.int p0), .val (.int p1), .val (.int p2), .val (.int p3), .val (.int p4), .val (.int p5), .val (.int sz), .val (.int pa), .val (.int pb), .val (.int pk), .val (.int pq), .val (.int (0 : Int32)), .val (.int (1 : Int32)), .val (.ref ob8), .val (.int (0 : Int32))] at_125 ?_
      refine Run.iload 129 at_127 rfl ?_
      refine Run.ne0N 132 at_129 (by decide) ?_
      refine Run.iload 134 at_132 rfl ?_
      refine Run.iload 136 at_134 rfl ?_
      refine Run.eq 146 139 at_136 (fun hc136 => ?_) (fun hc136 => ?_)
      · refine Run.iconst (1 : Int32) 147 at_146 ?_
        refine Run.istore 149 #[.val (.int p0), .val (.int p1), .val (.int p2), .val (.int p3), .val (.int p4), .val (.int p5), .val (.int sz), .val (.int pa), .val (.int pb), .val (.int pk), .val (.int pq), .val (.int (0 : Int32)), .val (.int (1 : Int32)), .val (.ref ob8), .val (.int (1 : Int32))] at_147 ?_
        refine Run.iload 151 at_149 rfl ?_
        refine Run.eq0N 154 at_151 (by decide) ?_
        refine Run.iload 156 at_154 rfl ?_
        refine Run.iload 158 at_156 rfl ?_
        refine Run.ne 164 161 at_158 (fun hc158 => ?_) (fun hc158 => ?_)
        · refine Run.aload 166 at_164 rfl ?_
          refine Run.iload 168 at_166 rfl ?_
          refine Run.sz fun hsz_h12 => ?_
          refine Run.callV 171 0 (a := ob8) (argsL := [(.int pq)]) (st := []) (rmH hw ob8 pq nw xw_9 (own_aw pk (own_aw pb (own_aw pa (fun _ => 0)))) h12 n0 hsz_h12 G12_3 G12_5 (own_pos hnw1 h_pq)) G12_0 (hw _ (List.mem_of_getElem? (i := 28) rfl)) (hw _ (List.mem_of_getElem? (i := 29) rfl)) (hw _ (List.mem_of_getElem? (i := 31) rfl)) (hw _ (List.mem_of_getElem? (i := 30) rfl)) (hw _ (List.mem_of_getElem? (i := 3) rfl)) (hw _ (List.mem_of_getElem? (i := 32) rfl)) pd_1 at_168 (fun v13 h13 => ?_)
          rintro ⟨rfl, rfl⟩
          show Run p l e _ s m _ below meth c Z _ _ _ _ _ n0 _ h12 3 27 (mkF m 171 #[.val (.int p0), .val (.int p1), .val (.int p2), .val (.int p3), .val (.int p4), .val (.int p5), .val (.int sz), .val (.int pa), .val (.int pb), .val (.int pk), .val (.int pq), .val (.int (0 : Int32)), .val (.int (1 : Int32)), .val (.ref ob8), .val (.int (1 : Int32))] [(.int (own_has pq (own_aw pk (own_aw pb (own_aw pa (fun _ => 0))))))])
          refine Run.iload 173 at_171 rfl ?_
          refine Run.neN 176 at_173 (by simp only [own_mem _ _ _ h_pa.1 h_pq.1, own_mem _ _ _ h_pb.1 h_pq.1, own_mem _ _ _ h_pk.1 h_pq.1, own_h0] <;> simp [hc136, hc158]) ?_
          refine Run.iconst (1 : Int32) 177 at_176 ?_
          refine Run.goto 181 at_177 ?_
          exact Run.ret1 at_181 ⟨rfl, trivial⟩
        · refine Run.iconst (1 : Int32) 162 at_161 ?_
          refine Run.istore 164 #[.val (.int p0), .val (.int p1), .val (.int p2), .val (.int p3), .val (.int p4), .val (.int p5), .val (.int sz), .val (.int pa), .val (.int pb), .val (.int pk), .val (.int pq), .val (.int (0 : Int32)), .val (.int (1 : Int32)), .val (.ref ob8), .val (.int (1 : Int32))] at_162 ?_
          refine Run.aload 166 at_164 rfl ?_
          refine Run.iload 168 at_166 rfl ?_
          refine Run.sz fun hsz_h12 => ?_
          refine Run.callV 171 0 (a := ob8) (argsL := [(.int pq)]) (st := []) (rmH hw ob8 pq nw xw_9 (own_aw pk (own_aw pb (own_aw pa (fun _ => 0)))) h12 n0 hsz_h12 G12_3 G12_5 (own_pos hnw1 h_pq)) G12_0 (hw _ (List.mem_of_getElem? (i := 28) rfl)) (hw _ (List.mem_of_getElem? (i := 29) rfl)) (hw _ (List.mem_of_getElem? (i := 31) rfl)) (hw _ (List.mem_of_getElem? (i := 30) rfl)) (hw _ (List.mem_of_getElem? (i := 3) rfl)) (hw _ (List.mem_of_getElem? (i := 32) rfl)) pd_1 at_168 (fun v14 h14 => ?_)
          rintro ⟨rfl, rfl⟩
          show Run p l e _ s m _ below meth c Z _ _ _ _ _ n0 _ h12 3 27 (mkF m 171 #[.val (.int p0), .val (.int p1), .val (.int p2), .val (.int p3), .val (.int p4), .val (.int p5), .val (.int sz), .val (.int pa), .val (.int pb), .val (.int pk), .val (.int pq), .val (.int (0 : Int32)), .val (.int (1 : Int32)), .val (.ref ob8), .val (.int (1 : Int32))] [(.int (own_has pq (own_aw pk (own_aw pb (own_aw pa (fun _ => 0))))))])
          refine Run.iload 173 at_171 rfl ?_
          refine Run.neN 176 at_173 (by simp only [own_mem _ _ _ h_pa.1 h_pq.1, own_mem _ _ _ h_pb.1 h_pq.1, own_mem _ _ _ h_pk.1 h_pq.1, own_h0] <;> simp [hc136, hc158]) ?_
          refine Run.iconst (1 : Int32) 177 at_176 ?_
          refine Run.goto 181 at_177 ?_
          exact Run.ret1 at_181 ⟨rfl, trivial⟩
      · refine Run.iload 141 at_139 rfl ?_
        refine Run.iload 143 at_141 rfl ?_
        refine Run.ne 149 146 at_143 (fun hc143 => ?_) (fun hc143 => ?_)
        · refine Run.iload 151 at_149 rfl ?_
          refine Run.eq0N 154 at_151 (by decide) ?_
          refine Run.iload 156 at_154 rfl ?_
          refine Run.iload 158 at_156 rfl ?_
          refine Run.ne 164 161 at_158 (fun hc158 => ?_) (fun hc158 => ?_)
          · refine Run.aload 166 at_164 rfl ?_
            refine Run.iload 168 at_166 rfl ?_
            refine Run.sz fun hsz_h12 => ?_
            refine Run.callV 171 0 (a := ob8) (argsL := [(.int pq)]) (st := []) (rmH hw ob8 pq nw xw_9 (own_aw pk (own_aw pb (own_aw pa (fun _ => 0)))) h12 n0 hsz_h12 G12_3 G12_5 (own_pos hnw1 h_pq)) G12_0 (hw _ (List.mem_of_getElem? (i := 28) rfl)) (hw _ (List.mem_of_getElem? (i := 29) rfl)) (hw _ (List.mem_of_getElem? (i := 31) rfl)) (hw _ (List.mem_of_getElem? (i := 30) rfl)) (hw _ (List.mem_of_getElem? (i := 3) rfl)) (hw _ (List.mem_of_getElem? (i := 32) rfl)) pd_1 at_168 (fun v15 h15 => ?_)
            rintro ⟨rfl, rfl⟩
            show Run p l e _ s m _ below meth c Z _ _ _ _ _ n0 _ h12 3 27 (mkF m 171 #[.val (.int p0), .val (.int p1), .val (.int p2), .val (.int p3), .val (.int p4), .val (.int p5), .val (.int sz), .val (.int pa), .val (.int pb), .val (.int pk), .val (.int pq), .val (.int (0 : Int32)), .val (.int (1 : Int32)), .val (.ref ob8), .val (.int (0 : Int32))] [(.int (own_has pq (own_aw pk (own_aw pb (own_aw pa (fun _ => 0))))))])
            refine Run.iload 173 at_171 rfl ?_
            refine Run.neN 176 at_173 (by simp only [own_mem _ _ _ h_pa.1 h_pq.1, own_mem _ _ _ h_pb.1 h_pq.1, own_mem _ _ _ h_pk.1 h_pq.1, own_h0] <;> simp [hc136, hc143, hc158]) ?_
            refine Run.iconst (1 : Int32) 177 at_176 ?_
            refine Run.goto 181 at_177 ?_
            exact Run.ret1 at_181 ⟨rfl, trivial⟩
          · refine Run.iconst (1 : Int32) 162 at_161 ?_
            refine Run.istore 164 #[.val (.int p0), .val (.int p1), .val (.int p2), .val (.int p3), .val (.int p4), .val (.int p5), .val (.int sz), .val (.int pa), .val (.int pb), .val (.int pk), .val (.int pq), .val (.int (0 : Int32)), .val (.int (1 : Int32)), .val (.ref ob8), .val (.int (1 : Int32))] at_162 ?_
            refine Run.aload 166 at_164 rfl ?_
            refine Run.iload 168 at_166 rfl ?_
            refine Run.sz fun hsz_h12 => ?_
            refine Run.callV 171 0 (a := ob8) (argsL := [(.int pq)]) (st := []) (rmH hw ob8 pq nw xw_9 (own_aw pk (own_aw pb (own_aw pa (fun _ => 0)))) h12 n0 hsz_h12 G12_3 G12_5 (own_pos hnw1 h_pq)) G12_0 (hw _ (List.mem_of_getElem? (i := 28) rfl)) (hw _ (List.mem_of_getElem? (i := 29) rfl)) (hw _ (List.mem_of_getElem? (i := 31) rfl)) (hw _ (List.mem_of_getElem? (i := 30) rfl)) (hw _ (List.mem_of_getElem? (i := 3) rfl)) (hw _ (List.mem_of_getElem? (i := 32) rfl)) pd_1 at_168 (fun v16 h16 => ?_)
            rintro ⟨rfl, rfl⟩
            show Run p l e _ s m _ below meth c Z _ _ _ _ _ n0 _ h12 3 27 (mkF m 171 #[.val (.int p0), .val (.int p1), .val (.int p2), .val (.int p3), .val (.int p4), .val (.int p5), .val (.int sz), .val (.int pa), .val (.int pb), .val (.int pk), .val (.int pq), .val (.int (0 : Int32)), .val (.int (1 : Int32)), .val (.ref ob8), .val (.int (1 : Int32))] [(.int (own_has pq (own_aw pk (own_aw pb (own_aw pa (fun _ => 0))))))])
            refine Run.iload 173 at_171 rfl ?_
            refine Run.neN 176 at_173 (by simp only [own_mem _ _ _ h_pa.1 h_pq.1, own_mem _ _ _ h_pb.1 h_pq.1, own_mem _ _ _ h_pk.1 h_pq.1, own_h0] <;> simp [hc136, hc143, hc158]) ?_
            refine Run.iconst (1 : Int32) 177 at_176 ?_
            refine Run.goto 181 at_177 ?_
            exact Run.ret1 at_181 ⟨rfl, trivial⟩
        · refine Run.iconst (1 : Int32) 147 at_146 ?_
          refine Run.istore 149 #[.val (.int p0), .val (.int p1), .val (.int p2), .val (.int p3), .val (.int p4), .val (.int p5), .val (.int sz), .val (.int pa), .val (.int pb), .val (.int pk), .val (.int pq), .val (.int (0 : Int32)), .val (.int (1 : Int32)), .val (.ref ob8), .val (.int (1 : Int32))] at_147 ?_
          refine Run.iload 151 at_149 rfl ?_
          refine Run.eq0N 154 at_151 (by decide) ?_
          refine Run.iload 156 at_154 rfl ?_
          refine Run.iload 158 at_156 rfl ?_
          refine Run.ne 164 161 at_158 (fun hc158 => ?_) (fun hc158 => ?_)
          · refine Run.aload 166 at_164 rfl ?_
            refine Run.iload 168 at_166 rfl ?_
            refine Run.sz fun hsz_h12 => ?_
            refine Run.callV 171 0 (a := ob8) (argsL := [(.int pq)]) (st := []) (rmH hw ob8 pq nw xw_9 (own_aw pk (own_aw pb (own_aw pa (fun _ => 0)))) h12 n0 hsz_h12 G12_3 G12_5 (own_pos hnw1 h_pq)) G12_0 (hw _ (List.mem_of_getElem? (i := 28) rfl)) (hw _ (List.mem_of_getElem? (i := 29) rfl)) (hw _ (List.mem_of_getElem? (i := 31) rfl)) (hw _ (List.mem_of_getElem? (i := 30) rfl)) (hw _ (List.mem_of_getElem? (i := 3) rfl)) (hw _ (List.mem_of_getElem? (i := 32) rfl)) pd_1 at_168 (fun v17 h17 => ?_)
            rintro ⟨rfl, rfl⟩
            show Run p l e _ s m _ below meth c Z _ _ _ _ _ n0 _ h12 3 27 (mkF m 171 #[.val (.int p0), .val (.int p1), .val (.int p2), .val (.int p3), .val (.int p4), .val (.int p5), .val (.int sz), .val (.int pa), .val (.int pb), .val (.int pk), .val (.int pq), .val (.int (0 : Int32)), .val (.int (1 : Int32)), .val (.ref ob8), .val (.int (1 : Int32))] [(.int (own_has pq (own_aw pk (own_aw pb (own_aw pa (fun _ => 0))))))])
            refine Run.iload 173 at_171 rfl ?_
            refine Run.neN 176 at_173 (by simp only [own_mem _ _ _ h_pa.1 h_pq.1, own_mem _ _ _ h_pb.1 h_pq.1, own_mem _ _ _ h_pk.1 h_pq.1, own_h0] <;> simp [hc136, hc143, hc158]) ?_
            refine Run.iconst (1 : Int32) 177 at_176 ?_
            refine Run.goto 181 at_177 ?_
            exact Run.ret1 at_181 ⟨rfl, trivial⟩
          · refine Run.iconst (1 : Int32) 162 at_161 ?_
            refine Run.istore 164 #[.val (.int p0), .val (.int p1), .val (.int p2), .val (.int p3), .val (.int p4), .val (.int p5), .val (.int sz), .val (.int pa), .val (.int pb), .val (.int pk), .val (.int pq), .val (.int (0 : Int32)), .val (.int (1 : Int32)), .val (.ref ob8), .val (.int (1 : Int32))] at_162 ?_
            refine Run.aload 166 at_164 rfl ?_
            refine Run.iload 168 at_166 rfl ?_
            refine Run.sz fun hsz_h12 => ?_
            refine Run.callV 171 0 (a := ob8) (argsL := [(.int pq)]) (st := []) (rmH hw ob8 pq nw xw_9 (own_aw pk (own_aw pb (own_aw pa (fun _ => 0)))) h12 n0 hsz_h12 G12_3 G12_5 (own_pos hnw1 h_pq)) G12_0 (hw _ (List.mem_of_getElem? (i := 28) rfl)) (hw _ (List.mem_of_getElem? (i := 29) rfl)) (hw _ (List.mem_of_getElem? (i := 31) rfl)) (hw _ (List.mem_of_getElem? (i := 30) rfl)) (hw _ (List.mem_of_getElem? (i := 3) rfl)) (hw _ (List.mem_of_getElem? (i := 32) rfl)) pd_1 at_168 (fun v18 h18 => ?_)
            rintro ⟨rfl, rfl⟩
            show Run p l e _ s m _ below meth c Z _ _ _ _ _ n0 _ h12 3 27 (mkF m 171 #[.val (.int p0), .val (.int p1), .val (.int p2), .val (.int p3), .val (.int p4), .val (.int p5), .val (.int sz), .val (.int pa), .val (.int pb), .val (.int pk), .val (.int pq), .val (.int (0 : Int32)), .val (.int (1 : Int32)), .val (.ref ob8), .val (.int (1 : Int32))] [(.int (own_has pq (own_aw pk (own_aw pb (own_aw pa (fun _ => 0))))))])
            refine Run.iload 173 at_171 rfl ?_
            refine Run.neN 176 at_173 (by simp only [own_mem _ _ _ h_pa.1 h_pq.1, own_mem _ _ _ h_pb.1 h_pq.1, own_mem _ _ _ h_pk.1 h_pq.1, own_h0] <;> simp [hc136, hc143, hc158]) ?_
            refine Run.iconst (1 : Int32) 177 at_176 ?_
            refine Run.goto 181 at_177 ?_
            exact Run.ret1 at_181 ⟨rfl, trivial⟩
  · refine Run.iconst (1 : Int32) 54 at_53 ?_
    refine Run.goto 58 at_54 ?_
    refine Run.istore 60 #[.val (.int p0), .val (.int p1), .val (.int p2), .val (.int p3), .val (.int p4), .val (.int p5), .val (.int sz), .val (.int pa), .val (.int pb), .val (.int pk), .val (.int pq), .val (.int (1 : Int32)), .unset, .unset, .unset] at_58 ?_
    refine Run.iload 62 at_60 rfl ?_
    refine Run.iconst (2 : Int32) 63 at_62 ?_
    refine Run.iand (p5 &&& (2 : Int32)) 64 at_63 ?_
    refine Run.eq0 71 67 at_64 (fun hc64 => ?_) (fun hc64 => ?_)
    · refine Run.iconst (0 : Int32) 72 at_71 ?_
      refine Run.istore 74 #[.val (.int p0), .val (.int p1), .val (.int p2), .val (.int p3), .val (.int p4), .val (.int p5), .val (.int sz), .val (.int pa), .val (.int pb), .val (.int pk), .val (.int pq), .val (.int (1 : Int32)), .val (.int (0 : Int32)), .unset, .unset] at_72 ?_
      refine Run.new 77 (hw _ (List.mem_of_getElem? (i := 1) rfl)) (hw _ (List.mem_of_getElem? (i := 2) rfl)) (hw _ (List.mem_of_getElem? (i := 3) rfl)) at_74 (fun h19 ob19 g19 u19 E19 A19 D19 => ?_)
      have F_marked_ob19 : Fld Z h19 ob19 "com/example/nearspace/nearspace/NeighbourGraph$Marks" "marked" "[I" .null := D19 (Or.inl (hw _ (List.mem_of_getElem? (i := 12) rfl))) (ty := (.array .int)) (by decide)
      have F_words_ob19 : Fld Z h19 ob19 "com/example/nearspace/nearspace/NeighbourGraph$Marks" "words" "[J" .null := D19 (Or.inr (hw _ (List.mem_of_getElem? (i := 15) rfl))) (ty := (.array .long)) (by decide)
      have F_markedCount_ob19 : Fld Z h19 ob19 "com/example/nearspace/nearspace/NeighbourGraph$Marks" "markedCount" "I" (.int (0 : Int32)) := D19 (Or.inl (hw _ (List.mem_of_getElem? (i := 22) rfl))) (ty := .int) (by decide)
      show Run p l e _ s m _ below meth c Z _ _ _ _ _ n0 _ h19 1 3 (mkF m 77 #[.val (.int p0), .val (.int p1), .val (.int p2), .val (.int p3), .val (.int p4), .val (.int p5), .val (.int sz), .val (.int pa), .val (.int pb), .val (.int pk), .val (.int pq), .val (.int (1 : Int32)), .val (.int (0 : Int32)), .unset, .unset] [(.ref ob19)])
      refine Run.dup 78 at_77 ?_
      refine Run.iload 80 at_78 rfl ?_
      refine Run.sz fun hsz_h19 => ?_
      refine Run.callC 83 1 (a := ob19) (argsL := [(.int sz)]) (st := [(.ref ob19)]) (rmI hw ob19 sz nw h19 n0 hsz_h19 A19 F_marked_ob19 F_words_ob19 F_markedCount_ob19 u19 hnw hcap) (hw _ (List.mem_of_getElem? (i := 4) rfl)) (hw _ (List.mem_of_getElem? (i := 5) rfl)) (hw _ (List.mem_of_getElem? (i := 3) rfl)) (hw _ (List.mem_of_getElem? (i := 6) rfl)) pd_0 at_80 (fun v20 h20 => ?_)
      rintro ⟨xm_20, xw_20, rfl, K20, sz_xm_20, sz_xw_20, ne_xm_20_xw_20, G20_0, G20_1, G20_2, G20_3, G20_4, G20_5⟩
      have ne_ob19_xm_20 : ob19 ≠ xm_20 := Nat.ne_of_lt (Nat.lt_of_lt_of_le A19.lt sz_xm_20)
      have ne_ob19_xw_20 : ob19 ≠ xw_20 := Nat.ne_of_lt (Nat.lt_of_lt_of_le A19.lt sz_xw_20)
      have u_xm_20 : n0 ≤ xm_20 := Nat.le_trans hsz_h19 sz_xm_20
      have u_xw_20 : n0 ≤ xw_20 := Nat.le_trans hsz_h19 sz_xw_20
      show Run p l e _ s m _ below meth c Z _ _ _ _ _ n0 _ h20 3 27 (mkF m 83 #[.val (.int p0), .val (.int p1), .val (.int p2), .val (.int p3), .val (.int p4), .val (.int p5), .val (.int sz), .val (.int pa), .val (.int pb), .val (.int pk), .val (.int pq), .val (.int (1 : Int32)), .val (.int (0 : Int32)), .unset, .unset] [(.ref ob19)])
      have inv0 := own_inv0 nw
      refine Run.astore 85 #[.val (.int p0), .val (.int p1), .val (.int p2), .val (.int p3), .val (.int p4), .val (.int p5), .val (.int sz), .val (.int pa), .val (.int pb), .val (.int pk), .val (.int pq), .val (.int (1 : Int32)), .val (.int (0 : Int32)), .val (.ref ob19), .unset] at_83 ?_
      refine Run.aload 87 at_85 rfl ?_
      refine Run.iload 89 at_87 rfl ?_
      refine Run.sz fun hsz_h20 => ?_
      refine Run.callV 92 0 (a := ob19) (argsL := [(.int pa)]) (st := []) (rmA hw ob19 pa nw xm_20 xw_20 (0 : Int32) (fun _ => 0) (fun _ => 0) h20 n0 hsz_h20 G20_0 G20_1 G20_2 G20_3 G20_4 G20_5 u19 u_xm_20 u_xw_20 ne_ob19_xm_20 ne_ob19_xw_20 ne_xm_20_xw_20 (own_pos hnw1 h_pa) (own_cnt inv0 (by decide))) G20_0 (hw _ (List.mem_of_getElem? (i := 16) rfl)) (hw _ (List.mem_of_getElem? (i := 17) rfl)) (hw _ (List.mem_of_getElem? (i := 19) rfl)) (hw _ (List.mem_of_getElem? (i := 18) rfl)) (hw _ (List.mem_of_getElem? (i := 3) rfl)) (hw _ (List.mem_of_getElem? (i := 20) rfl)) pd_1 at_89 (fun v21 h21 => ?_)
      rintro ⟨rfl, K21, G21_0, G21_1, G21_2, G21_3, G21_4, G21_5⟩
      show Run p l e _ s m _ below meth c Z _ _ _ _ _ n0 _ h21 3 27 (mkF m 92 #[.val (.int p0), .val (.int p1), .val (.int p2), .val (.int p3), .val (.int p4), .val (.int p5), .val (.int sz), .val (.int pa), .val (.int pb), .val (.int pk), .val (.int pq), .val (.int (1 : Int32)), .val (.int (0 : Int32)), .val (.ref ob19), .unset] [(.int (own_ad pa (fun _ => 0)))])
      have inv1 := own_inv1 inv0 (by decide) pa (own_pos hnw1 h_pa)
      refine Run.pop 93 at_92 ?_
      refine Run.aload 95 at_93 rfl ?_
      refine Run.iload 97 at_95 rfl ?_
      refine Run.sz fun hsz_h21 => ?_
      refine Run.callV 100 0 (a := ob19) (argsL := [(.int pb)]) (st := []) (rmA hw ob19 pb nw xm_20 xw_20 (own_ac pa (fun _ => 0) (0 : Int32)) (own_am pa (fun _ => 0) (fun _ => 0) (0 : Int32)) (own_aw pa (fun _ => 0)) h21 n0 hsz_h21 G21_0 G21_1 G21_2 G21_3 G21_4 G21_5 u19 u_xm_20 u_xw_20 ne_ob19_xm_20 ne_ob19_xw_20 ne_xm_20_xw_20 (own_pos hnw1 h_pb) (own_cnt inv1 (by decide))) G21_0 (hw _ (List.mem_of_getElem? (i := 16) rfl)) (hw _ (List.mem_of_getElem? (i := 17) rfl)) (hw _ (List.mem_of_getElem? (i := 19) rfl)) (hw _ (List.mem_of_getElem? (i := 18) rfl)) (hw _ (List.mem_of_getElem? (i := 3) rfl)) (hw _ (List.mem_of_getElem? (i := 20) rfl)) pd_1 at_97 (fun v22 h22 => ?_)
      rintro ⟨rfl, K22, G22_0, G22_1, G22_2, G22_3, G22_4, G22_5⟩
      show Run p l e _ s m _ below meth c Z _ _ _ _ _ n0 _ h22 3 27 (mkF m 100 #[.val (.int p0), .val (.int p1), .val (.int p2), .val (.int p3), .val (.int p4), .val (.int p5), .val (.int sz), .val (.int pa), .val (.int pb), .val (.int pk), .val (.int pq), .val (.int (1 : Int32)), .val (.int (0 : Int32)), .val (.ref ob19), .unset] [(.int (own_ad pb (own_aw pa (fun _ => 0))))])
      have inv2 := own_inv1 inv1 (by decide) pb (own_pos hnw1 h_pb)
      refine Run.pop 101 at_100 ?_
      refine Run.iload 103 at_101 rfl ?_
      refine Run.eq0N 106 at_103 (by decide) ?_
      refine Run.aload 108 at_106 rfl ?_
      refine Run.sz fun hsz_h22 => ?_
      refine Run.callV 111 0 (a := ob19) (argsL := []) (st := []) (rmC hw ob19 nw xm_20 xw_20 (own_ac pb (own_aw pa (fun _ => 0)) (own_ac pa (fun _ => 0) (0 : Int32))) (own_am pb (own_aw pa (fun _ => 0)) (own_am pa (fun _ => 0) (fun _ => 0) (0 : Int32)) (own_ac pa (fun _ => 0) (0 : Int32))) (own_aw pb (own_aw pa (fun _ => 0))) h22 n0 hsz_h22 G22_0 G22_1 G22_2 G22_3 G22_4 G22_5 u19 u_xm_20 u_xw_20 ne_ob19_xm_20 ne_ob19_xw_20 ne_xm_20_xw_20 (own_inv16 inv2 (by decide))) G22_0 (hw _ (List.mem_of_getElem? (i := 23) rfl)) (hw _ (List.mem_of_getElem? (i := 24) rfl)) (hw _ (List.mem_of_getElem? (i := 26) rfl)) (hw _ (List.mem_of_getElem? (i := 25) rfl)) (hw _ (List.mem_of_getElem? (i := 3) rfl)) (hw _ (List.mem_of_getElem? (i := 27) rfl)) pd_2 at_108 (fun v23 h23 => ?_)
      rintro ⟨rfl, K23, G23_0, G23_1, G23_2, G23_3, G23_4, G23_5⟩
      show Run p l e _ s m _ below meth c Z _ _ _ _ _ n0 _ h23 3 27 (mkF m 111 #[.val (.int p0), .val (.int p1), .val (.int p2), .val (.int p3), .val (.int p4), .val (.int p5), .val (.int sz), .val (.int pa), .val (.int pb), .val (.int pk), .val (.int pq), .val (.int (1 : Int32)), .val (.int (0 : Int32)), .val (.ref ob19), .unset] [])
      have invz := own_invz nw (own_am pb (own_aw pa (fun _ => 0)) (own_am pa (fun _ => 0) (fun _ => 0) (0 : Int32)) (own_ac pa (fun _ => 0) (0 : Int32)))
      refine Run.iload 113 at_111 rfl ?_
      refine Run.eq0Y 124 at_113 (by decide) ?_
      refine Run.iconst (0 : Int32) 125 at_124 ?_
      refine Run.istore 127 #[.val (.int p0), .val (.int p1), .val (.int p2), .val (.int p3), .val (.int p4), .val (.int p5), .val (.int sz), .val (.int pa), .val (.int pb), .val (.int pk), .val (.int pq), .val (.int (1 : Int32)), .val (.int (0 : Int32)), .val (.ref ob19), .val (.int (0 : Int32))] at_125 ?_
      refine Run.iload 129 at_127 rfl ?_
      refine Run.ne0Y 149 at_129 (by decide) ?_
      refine Run.iload 151 at_149 rfl ?_
      refine Run.eq0Y 164 at_151 (by decide) ?_
      refine Run.aload 166 at_164 rfl ?_
      refine Run.iload 168 at_166 rfl ?_
      refine Run.sz fun hsz_h23 => ?_
      refine Run.callV 171 0 (a := ob19) (argsL := [(.int pq)]) (st := []) (rmH hw ob19 pq nw xw_20 (fun _ => 0) h23 n0 hsz_h23 G23_3 G23_5 (own_pos hnw1 h_pq)) G23_0 (hw _ (List.mem_of_getElem? (i := 28) rfl)) (hw _ (List.mem_of_getElem? (i := 29) rfl)) (hw _ (List.mem_of_getElem? (i := 31) rfl)) (hw _ (List.mem_of_getElem? (i := 30) rfl)) (hw _ (List.mem_of_getElem? (i := 3) rfl)) (hw _ (List.mem_of_getElem? (i := 32) rfl)) pd_1 at_168 (fun v24 h24 => ?_)
      rintro ⟨rfl, rfl⟩
      show Run p l e _ s m _ below meth c Z _ _ _ _ _ n0 _ h23 3 27 (mkF m 171 #[.val (.int p0), .val (.int p1), .val (.int p2), .val (.int p3), .val (.int p4), .val (.int p5), .val (.int sz), .val (.int pa), .val (.int pb), .val (.int pk), .val (.int pq), .val (.int (1 : Int32)), .val (.int (0 : Int32)), .val (.ref ob19), .val (.int (0 : Int32))] [(.int (own_has pq (fun _ => 0)))])
      refine Run.iload 173 at_171 rfl ?_
      refine Run.neN 176 at_173 (by simp only [own_mem _ _ _ h_pa.1 h_pq.1, own_mem _ _ _ h_pb.1 h_pq.1, own_mem _ _ _ h_pk.1 h_pq.1, own_h0] <;> simp []) ?_
      refine Run.iconst (1 : Int32) 177 at_176 ?_
      refine Run.goto 181 at_177 ?_
      exact Run.ret1 at_181 ⟨rfl, trivial⟩
    · refine Run.iconst (1 : Int32) 68 at_67 ?_
      refine Run.goto 72 at_68 ?_
      refine Run.istore 74 #[.val (.int p0), .val (.int p1), .val (.int p2), .val (.int p3), .val (.int p4), .val (.int p5), .val (.int sz), .val (.int pa), .val (.int pb), .val (.int pk), .val (.int pq), .val (.int (1 : Int32)), .val (.int (1 : Int32)), .unset, .unset] at_72 ?_
      refine Run.new 77 (hw _ (List.mem_of_getElem? (i := 1) rfl)) (hw _ (List.mem_of_getElem? (i := 2) rfl)) (hw _ (List.mem_of_getElem? (i := 3) rfl)) at_74 (fun h25 ob25 g25 u25 E25 A25 D25 => ?_)
      have F_marked_ob25 : Fld Z h25 ob25 "com/example/nearspace/nearspace/NeighbourGraph$Marks" "marked" "[I" .null := D25 (Or.inl (hw _ (List.mem_of_getElem? (i := 12) rfl))) (ty := (.array .int)) (by decide)
      have F_words_ob25 : Fld Z h25 ob25 "com/example/nearspace/nearspace/NeighbourGraph$Marks" "words" "[J" .null := D25 (Or.inr (hw _ (List.mem_of_getElem? (i := 15) rfl))) (ty := (.array .long)) (by decide)
      have F_markedCount_ob25 : Fld Z h25 ob25 "com/example/nearspace/nearspace/NeighbourGraph$Marks" "markedCount" "I" (.int (0 : Int32)) := D25 (Or.inl (hw _ (List.mem_of_getElem? (i := 22) rfl))) (ty := .int) (by decide)
      show Run p l e _ s m _ below meth c Z _ _ _ _ _ n0 _ h25 1 3 (mkF m 77 #[.val (.int p0), .val (.int p1), .val (.int p2), .val (.int p3), .val (.int p4), .val (.int p5), .val (.int sz), .val (.int pa), .val (.int pb), .val (.int pk), .val (.int pq), .val (.int (1 : Int32)), .val (.int (1 : Int32)), .unset, .unset] [(.ref ob25)])
      refine Run.dup 78 at_77 ?_
      refine Run.iload 80 at_78 rfl ?_
      refine Run.sz fun hsz_h25 => ?_
      refine Run.callC 83 1 (a := ob25) (argsL := [(.int sz)]) (st := [(.ref ob25)]) (rmI hw ob25 sz nw h25 n0 hsz_h25 A25 F_marked_ob25 F_words_ob25 F_markedCount_ob25 u25 hnw hcap) (hw _ (List.mem_of_getElem? (i := 4) rfl)) (hw _ (List.mem_of_getElem? (i := 5) rfl)) (hw _ (List.mem_of_getElem? (i := 3) rfl)) (hw _ (List.mem_of_getElem? (i := 6) rfl)) pd_0 at_80 (fun v26 h26 => ?_)
      rintro ⟨xm_26, xw_26, rfl, K26, sz_xm_26, sz_xw_26, ne_xm_26_xw_26, G26_0, G26_1, G26_2, G26_3, G26_4, G26_5⟩
      have ne_ob25_xm_26 : ob25 ≠ xm_26 := Nat.ne_of_lt (Nat.lt_of_lt_of_le A25.lt sz_xm_26)
      have ne_ob25_xw_26 : ob25 ≠ xw_26 := Nat.ne_of_lt (Nat.lt_of_lt_of_le A25.lt sz_xw_26)
      have u_xm_26 : n0 ≤ xm_26 := Nat.le_trans hsz_h25 sz_xm_26
      have u_xw_26 : n0 ≤ xw_26 := Nat.le_trans hsz_h25 sz_xw_26
      show Run p l e _ s m _ below meth c Z _ _ _ _ _ n0 _ h26 3 27 (mkF m 83 #[.val (.int p0), .val (.int p1), .val (.int p2), .val (.int p3), .val (.int p4), .val (.int p5), .val (.int sz), .val (.int pa), .val (.int pb), .val (.int pk), .val (.int pq), .val (.int (1 : Int32)), .val (.int (1 : Int32)), .unset, .unset] [(.ref ob25)])
      have inv0 := own_inv0 nw
      refine Run.astore 85 #[.val (.int p0), .val (.int p1), .val (.int p2), .val (.int p3), .val (.int p4), .val (.int p5), .val (.int sz), .val (.int pa), .val (.int pb), .val (.int pk), .val (.int pq), .val (.int (1 : Int32)), .val (.int (1 : Int32)), .val (.ref ob25), .unset] at_83 ?_
      refine Run.aload 87 at_85 rfl ?_
      refine Run.iload 89 at_87 rfl ?_
      refine Run.sz fun hsz_h26 => ?_
      refine Run.callV 92 0 (a := ob25) (argsL := [(.int pa)]) (st := []) (rmA hw ob25 pa nw xm_26 xw_26 (0 : Int32) (fun _ => 0) (fun _ => 0) h26 n0 hsz_h26 G26_0 G26_1 G26_2 G26_3 G26_4 G26_5 u25 u_xm_26 u_xw_26 ne_ob25_xm_26 ne_ob25_xw_26 ne_xm_26_xw_26 (own_pos hnw1 h_pa) (own_cnt inv0 (by decide))) G26_0 (hw _ (List.mem_of_getElem? (i := 16) rfl)) (hw _ (List.mem_of_getElem? (i := 17) rfl)) (hw _ (List.mem_of_getElem? (i := 19) rfl)) (hw _ (List.mem_of_getElem? (i := 18) rfl)) (hw _ (List.mem_of_getElem? (i := 3) rfl)) (hw _ (List.mem_of_getElem? (i := 20) rfl)) pd_1 at_89 (fun v27 h27 => ?_)
      rintro ⟨rfl, K27, G27_0, G27_1, G27_2, G27_3, G27_4, G27_5⟩
      show Run p l e _ s m _ below meth c Z _ _ _ _ _ n0 _ h27 3 27 (mkF m 92 #[.val (.int p0), .val (.int p1), .val (.int p2), .val (.int p3), .val (.int p4), .val (.int p5), .val (.int sz), .val (.int pa), .val (.int pb), .val (.int pk), .val (.int pq), .val (.int (1 : Int32)), .val (.int (1 : Int32)), .val (.ref ob25), .unset] [(.int (own_ad pa (fun _ => 0)))])
      have inv1 := own_inv1 inv0 (by decide) pa (own_pos hnw1 h_pa)
      refine Run.pop 93 at_92 ?_
      refine Run.aload 95 at_93 rfl ?_
      refine Run.iload 97 at_95 rfl ?_
      refine Run.sz fun hsz_h27 => ?_
      refine Run.callV 100 0 (a := ob25) (argsL := [(.int pb)]) (st := []) (rmA hw ob25 pb nw xm_26 xw_26 (own_ac pa (fun _ => 0) (0 : Int32)) (own_am pa (fun _ => 0) (fun _ => 0) (0 : Int32)) (own_aw pa (fun _ => 0)) h27 n0 hsz_h27 G27_0 G27_1 G27_2 G27_3 G27_4 G27_5 u25 u_xm_26 u_xw_26 ne_ob25_xm_26 ne_ob25_xw_26 ne_xm_26_xw_26 (own_pos hnw1 h_pb) (own_cnt inv1 (by decide))) G27_0 (hw _ (List.mem_of_getElem? (i := 16) rfl)) (hw _ (List.mem_of_getElem? (i := 17) rfl)) (hw _ (List.mem_of_getElem? (i := 19) rfl)) (hw _ (List.mem_of_getElem? (i := 18) rfl)) (hw _ (List.mem_of_getElem? (i := 3) rfl)) (hw _ (List.mem_of_getElem? (i := 20) rfl)) pd_1 at_97 (fun v28 h28 => ?_)
      rintro ⟨rfl, K28, G28_0, G28_1, G28_2, G28_3, G28_4, G28_5⟩
      show Run p l e _ s m _ below meth c Z _ _ _ _ _ n0 _ h28 3 27 (mkF m 100 #[.val (.int p0), .val (.int p1), .val (.int p2), .val (.int p3), .val (.int p4), .val (.int p5), .val (.int sz), .val (.int pa), .val (.int pb), .val (.int pk), .val (.int pq), .val (.int (1 : Int32)), .val (.int (1 : Int32)), .val (.ref ob25), .unset] [(.int (own_ad pb (own_aw pa (fun _ => 0))))])
      have inv2 := own_inv1 inv1 (by decide) pb (own_pos hnw1 h_pb)
      refine Run.pop 101 at_100 ?_
      refine Run.iload 103 at_101 rfl ?_
      refine Run.eq0N 106 at_103 (by decide) ?_
      refine Run.aload 108 at_106 rfl ?_
      refine Run.sz fun hsz_h28 => ?_
      refine Run.callV 111 0 (a := ob25) (argsL := []) (st := []) (rmC hw ob25 nw xm_26 xw_26 (own_ac pb (own_aw pa (fun _ => 0)) (own_ac pa (fun _ => 0) (0 : Int32))) (own_am pb (own_aw pa (fun _ => 0)) (own_am pa (fun _ => 0) (fun _ => 0) (0 : Int32)) (own_ac pa (fun _ => 0) (0 : Int32))) (own_aw pb (own_aw pa (fun _ => 0))) h28 n0 hsz_h28 G28_0 G28_1 G28_2 G28_3 G28_4 G28_5 u25 u_xm_26 u_xw_26 ne_ob25_xm_26 ne_ob25_xw_26 ne_xm_26_xw_26 (own_inv16 inv2 (by decide))) G28_0 (hw _ (List.mem_of_getElem? (i := 23) rfl)) (hw _ (List.mem_of_getElem? (i := 24) rfl)) (hw _ (List.mem_of_getElem? (i := 26) rfl)) (hw _ (List.mem_of_getElem? (i := 25) rfl)) (hw _ (List.mem_of_getElem? (i := 3) rfl)) (hw _ (List.mem_of_getElem? (i := 27) rfl)) pd_2 at_108 (fun v29 h29 => ?_)
      rintro ⟨rfl, K29, G29_0, G29_1, G29_2, G29_3, G29_4, G29_5⟩
      show Run p l e _ s m _ below meth c Z _ _ _ _ _ n0 _ h29 3 27 (mkF m 111 #[.val (.int p0), .val (.int p1), .val (.int p2), .val (.int p3), .val (.int p4), .val (.int p5), .val (.int sz), .val (.int pa), .val (.int pb), .val (.int pk), .val (.int pq), .val (.int (1 : Int32)), .val (.int (1 : Int32)), .val (.ref ob25), .unset] [])
      have invz := own_invz nw (own_am pb (own_aw pa (fun _ => 0)) (own_am pa (fun _ => 0) (fun _ => 0) (0 : Int32)) (own_ac pa (fun _ => 0) (0 : Int32)))
      refine Run.iload 113 at_111 rfl ?_
      refine Run.eq0N 116 at_113 (by decide) ?_
      refine Run.aload 118 at_116 rfl ?_
      refine Run.iload 120 at_118 rfl ?_
      refine Run.sz fun hsz_h29 => ?_
      refine Run.callV 123 0 (a := ob25) (argsL := [(.int pk)]) (st := []) (rmA hw ob25 pk nw xm_26 xw_26 (0 : Int32) (own_am pb (own_aw pa (fun _ => 0)) (own_am pa (fun _ => 0) (fun _ => 0) (0 : Int32)) (own_ac pa (fun _ => 0) (0 : Int32))) (fun _ => 0) h29 n0 hsz_h29 G29_0 G29_1 G29_2 G29_3 G29_4 G29_5 u25 u_xm_26 u_xw_26 ne_ob25_xm_26 ne_ob25_xw_26 ne_xm_26_xw_26 (own_pos hnw1 h_pk) (own_cnt invz (by decide))) G29_0 (hw _ (List.mem_of_getElem? (i := 16) rfl)) (hw _ (List.mem_of_getElem? (i := 17) rfl)) (hw _ (List.mem_of_getElem? (i := 19) rfl)) (hw _ (List.mem_of_getElem? (i := 18) rfl)) (hw _ (List.mem_of_getElem? (i := 3) rfl)) (hw _ (List.mem_of_getElem? (i := 20) rfl)) pd_1 at_120 (fun v30 h30 => ?_)
      rintro ⟨rfl, K30, G30_0, G30_1, G30_2, G30_3, G30_4, G30_5⟩
      show Run p l e _ s m _ below meth c Z _ _ _ _ _ n0 _ h30 3 27 (mkF m 123 #[.val (.int p0), .val (.int p1), .val (.int p2), .val (.int p3), .val (.int p4), .val (.int p5), .val (.int sz), .val (.int pa), .val (.int pb), .val (.int pk), .val (.int pq), .val (.int (1 : Int32)), .val (.int (1 : Int32)), .val (.ref ob25), .unset] [(.int (own_ad pk (fun _ => 0)))])
      refine Run.pop 124 at_123 ?_
      refine Run.iconst (0 : Int32) 125 at_124 ?_
      refine Run.istore 127 #[.val (.int p0), .val (.int p1), .val (.int p2), .val (.int p3), .val (.int p4), .val (.int p5), .val (.int sz), .val (.int pa), .val (.int pb), .val (.int pk), .val (.int pq), .val (.int (1 : Int32)), .val (.int (1 : Int32)), .val (.ref ob25), .val (.int (0 : Int32))] at_125 ?_
      refine Run.iload 129 at_127 rfl ?_
      refine Run.ne0Y 149 at_129 (by decide) ?_
      refine Run.iload 151 at_149 rfl ?_
      refine Run.eq0N 154 at_151 (by decide) ?_
      refine Run.iload 156 at_154 rfl ?_
      refine Run.iload 158 at_156 rfl ?_
      refine Run.ne 164 161 at_158 (fun hc158 => ?_) (fun hc158 => ?_)
      · refine Run.aload 166 at_164 rfl ?_
        refine Run.iload 168 at_166 rfl ?_
        refine Run.sz fun hsz_h30 => ?_
        refine Run.callV 171 0 (a := ob25) (argsL := [(.int pq)]) (st := []) (rmH hw ob25 pq nw xw_26 (own_aw pk (fun _ => 0)) h30 n0 hsz_h30 G30_3 G30_5 (own_pos hnw1 h_pq)) G30_0 (hw _ (List.mem_of_getElem? (i := 28) rfl)) (hw _ (List.mem_of_getElem? (i := 29) rfl)) (hw _ (List.mem_of_getElem? (i := 31) rfl)) (hw _ (List.mem_of_getElem? (i := 30) rfl)) (hw _ (List.mem_of_getElem? (i := 3) rfl)) (hw _ (List.mem_of_getElem? (i := 32) rfl)) pd_1 at_168 (fun v31 h31 => ?_)
        rintro ⟨rfl, rfl⟩
        show Run p l e _ s m _ below meth c Z _ _ _ _ _ n0 _ h30 3 27 (mkF m 171 #[.val (.int p0), .val (.int p1), .val (.int p2), .val (.int p3), .val (.int p4), .val (.int p5), .val (.int sz), .val (.int pa), .val (.int pb), .val (.int pk), .val (.int pq), .val (.int (1 : Int32)), .val (.int (1 : Int32)), .val (.ref ob25), .val (.int (0 : Int32))] [(.int (own_has pq (own_aw pk (fun _ => 0))))])
        refine Run.iload 173 at_171 rfl ?_
        refine Run.neN 176 at_173 (by simp only [own_mem _ _ _ h_pa.1 h_pq.1, own_mem _ _ _ h_pb.1 h_pq.1, own_mem _ _ _ h_pk.1 h_pq.1, own_h0] <;> simp [hc158]) ?_
        refine Run.iconst (1 : Int32) 177 at_176 ?_
        refine Run.goto 181 at_177 ?_
        exact Run.ret1 at_181 ⟨rfl, trivial⟩
      · refine Run.iconst (1 : Int32) 162 at_161 ?_
        refine Run.istore 164 #[.val (.int p0), .val (.int p1), .val (.int p2), .val (.int p3), .val (.int p4), .val (.int p5), .val (.int sz), .val (.int pa), .val (.int pb), .val (.int pk), .val (.int pq), .val (.int (1 : Int32)), .val (.int (1 : Int32)), .val (.ref ob25), .val (.int (1 : Int32))] at_162 ?_
        refine Run.aload 166 at_164 rfl ?_
        refine Run.iload 168 at_166 rfl ?_
        refine Run.sz fun hsz_h30 => ?_
        refine Run.callV 171 0 (a := ob25) (argsL := [(.int pq)]) (st := []) (rmH hw ob25 pq nw xw_26 (own_aw pk (fun _ => 0)) h30 n0 hsz_h30 G30_3 G30_5 (own_pos hnw1 h_pq)) G30_0 (hw _ (List.mem_of_getElem? (i := 28) rfl)) (hw _ (List.mem_of_getElem? (i := 29) rfl)) (hw _ (List.mem_of_getElem? (i := 31) rfl)) (hw _ (List.mem_of_getElem? (i := 30) rfl)) (hw _ (List.mem_of_getElem? (i := 3) rfl)) (hw _ (List.mem_of_getElem? (i := 32) rfl)) pd_1 at_168 (fun v32 h32 => ?_)
        rintro ⟨rfl, rfl⟩
        show Run p l e _ s m _ below meth c Z _ _ _ _ _ n0 _ h30 3 27 (mkF m 171 #[.val (.int p0), .val (.int p1), .val (.int p2), .val (.int p3), .val (.int p4), .val (.int p5), .val (.int sz), .val (.int pa), .val (.int pb), .val (.int pk), .val (.int pq), .val (.int (1 : Int32)), .val (.int (1 : Int32)), .val (.ref ob25), .val (.int (1 : Int32))] [(.int (own_has pq (own_aw pk (fun _ => 0))))])
        refine Run.iload 173 at_171 rfl ?_
        refine Run.neN 176 at_173 (by simp only [own_mem _ _ _ h_pa.1 h_pq.1, own_mem _ _ _ h_pb.1 h_pq.1, own_mem _ _ _ h_pk.1 h_pq.1, own_h0] <;> simp [hc158]) ?_
        refine Run.iconst (1 : Int32) 177 at_176 ?_
        refine Run.goto 181 at_177 ?_
        exact Run.ret1 at_181 ⟨rfl, trivial⟩
set_option maxRecDepth 65536 in
set_option maxHeartbeats 40000000 in
theorem comes_1 {Post : Tables → Env → Array Value → State → Outcome → State → Prop} (hpost : ∀ tb e args s v u, (limb_1_1.after args s (.returned v) u = true ∧ limb_1_2.after args s (.returned v) u = true ∧ True) → FrameEnd s (.returned v) u (Jvm.fieldLocs frame_1_writes args s ++ Jvm.arrayLocs frame_1_arrays args s ++ Jvm.staticLocs frame_1_statics s) 16 128 → Post tb e args s (.returned v) u) :
    ArmFor flags0 classFile x code maxLocals ret World_1 tables_1 room_1 Calls_1 rest_1 Pre_1 Post := by
  intro l hfl _ _ p e ha hc hk s m args below hf hA hF happ hP
  obtain ⟨hcalls, hrest, hpre⟩ := hP
  obtain ⟨-, -, -, hnamed, -, -, -, hat⟩ := (Spec.applies_iff hf).mp happ
  obtain ⟨hg, hn⟩ := and_e (Cond.before_iff.mp (show (Jvm.Cond.and given_1 narrow_1).before args s = true from hpre))
  obtain ⟨g1, g2⟩ := and_e hg
  obtain ⟨g3, g4⟩ := and_e g2
  obtain ⟨g5, g6⟩ := and_e g4
  obtain ⟨g7, g8⟩ := and_e g6
  obtain ⟨g9, g10⟩ := and_e g8
  obtain ⟨g11, g12⟩ := and_e g10
  obtain ⟨w0, w1, w2, w3, w4, w5, rfl⟩ : ∃ w0 w1 w2 w3 w4 w5 : Value, args = #[w0, w1, w2, w3, w4, w5] := by
    have hs : args.size = 6 := by simpa [Cond.value, given_1] using g1
    obtain ⟨L⟩ := args
    match L, hs with
    | [w0, w1, w2, w3, w4, w5], _ => exact ⟨w0, w1, w2, w3, w4, w5, rfl⟩
  have hw := fun d (hd : d ∈ tables_1) => atoms_spec (ws := Jvm.Cond.code x code maxLocals ret :: tables_1) hat d (List.mem_cons_of_mem _ hd)
  obtain ⟨i0, ei0⟩ := is_v g3
  obtain rfl : w0 = (.int i0) := Option.some.inj ei0
  obtain ⟨i1, ei1⟩ := is_v g5
  obtain rfl : w1 = (.int i1) := Option.some.inj ei1
  obtain ⟨i2, ei2⟩ := is_v g7
  obtain rfl : w2 = (.int i2) := Option.some.inj ei2
  obtain ⟨i3, ei3⟩ := is_v g9
  obtain rfl : w3 = (.int i3) := Option.some.inj ei3
  obtain ⟨i4, ei4⟩ := is_v g11
  obtain rfl : w4 = (.int i4) := Option.some.inj ei4
  obtain ⟨i5, ei5⟩ := is_v g12
  obtain rfl : w5 = (.int i5) := Option.some.inj ei5
  obtain ⟨n, o, h1, h2, h3, _, L, rfl, ⟨⟨rfl, _⟩, N⟩, hq⟩ := rm0 (l := l) hw i0 i1 i2 i3 i4 i5 s.heap s.heap.size (Nat.le_refl _) tables_1 p e ha hc hk s m _ below hf ((Spec.applies_iff_loose hf).mp happ).1 ⟨rfl, State.Warmed39.refl s, rfl⟩ trivial
  refine ⟨n, _, h1, h2, h3, hpost _ _ _ _ _ _ ⟨Cond.after_iff.mpr rfl, Cond.after_iff.mpr (eq_i res_at (Term.int_eval (1)) rfl), trivial⟩ ⟨hq.1, hq.2.1, (hq.2.2.sift fun y hy => Or.inr (N y hy)).mono (by decide) (by decide)⟩⟩
theorem main_1_1 : Claimed_1_1 := comes_1 fun _ _ _ _ _ _ h hF => ⟨h.1, hF⟩
theorem main_1_2 : Claimed_1_2 := comes_1 fun _ _ _ _ _ _ h hF => ⟨h.2.1, hF⟩
end Jvm.Pilot.@@N@@
namespace Jvm.Pilot.@@N@@
open Jvm Jvm.ClassFile Sem Op Lib Jvm.Free Jvm.Stand Jvm.Pilot.@@N@@.Jvm.D
/-! MADE BY PROGRAM (witnessworld.py) out of the Statement's table words and the real class files: 11 classes; the members and pool entries that the words name. The judged class is class 1, her method 1. -/
namespace start1
open Jvm.ClassFile
def u (s : String) : CpInfo := .utf8 (stringToUtf16 s)
/-- a pool by its gaps: so many unusable entries, then the entry; so many at the end -/
def gap : Nat → List CpInfo → List CpInfo
  | 0, r => r
  | n + 1, r => .unusable :: gap n r
def poolList (es : List (Nat × CpInfo)) (last : Nat) : List CpInfo := es.foldr (fun e r => gap e.1 (e.2 :: r)) (gap last [])
def pool (es : List (Nat × CpInfo)) (last : Nat) : Array CpInfo := ⟨poolList es last⟩
def fileOf (pool : Array CpInfo) (this : Nat) (attrs : Array Attribute := #[]) (ms : Array MethodInfo := #[]) (fl : Nat := 33) (sup : Nat := 0) (ifs : Array Nat := #[]) (fds : Array FieldInfo := #[]) : ClassFile where
  minorVersion := 0
  majorVersion := 65
  constantPool := pool
  accessFlags := fl
  thisClass := this
  superClass := sup
  interfaces := ifs
  fields := fds
  methods := ms
  attributes := attrs
def plain (name : String) (sup : Option ClassId) : Class where
  name := name
  kind := .ordinary
  loader := none
  accessFlags := 33
  super := sup
  interfaces := #[]
  cf := none
  fields := #[]
  methods := #[]
  instanceTypes := #[]
  staticTypes := #[]
  resolved := #[]
  callSites := []
  init := .initialized
  statics := none
  mirror := none

def pool0 : Array CpInfo := pool [(5, u "<init>"), (0, u "()V"), (1, .class_ 10), (1, u "java/lang/Object")] 113

def k0c0 : Code := { maxStack := 0, maxLocals := 1, code := object_method_1_code, exceptionTable := #[], attributes := #[] }
def k0m0 : Method := { name := "<init>", desc := "()V", sig := { parameters := [], returnType := none }, accessFlags := 1, code := some k0c0 }
/-- java/lang/Object -/
def k0 : Class := { plain "java/lang/Object" none with
  accessFlags := 33
  interfaces := #[]
  cf := some (fileOf pool0 8 #[] #[{ accessFlags := 1, nameIndex := 5, descriptorIndex := 6, attributes := #[] }] 33 0 #[] #[])
  fields := #[]
  methods := #[k0m0]
  instanceTypes := #[]
  staticTypes := #[]
  resolved := Array.replicate 124 none
  statics := none }

def pool1 : Array CpInfo := pool [(2, .class_ 4), (1, u "java/lang/Object"), (0, u "<init>"), (0, u "()V"), (0, .integer 2147483647), (0, .class_ 9), (0, u "com/example/nearspace/nearspace/NeighbourGraph$Marks"), (0, .methodref 8 11), (0, .nameAndType 5 12), (0, u "(I)V"), (0, .methodref 8 14), (0, .nameAndType 15 16), (0, u "add"), (0, u "(I)Z"), (0, .methodref 8 18), (0, .nameAndType 19 6), (0, u "clear"), (0, .methodref 8 21), (0, .nameAndType 22 16), (0, u "has"), (0, .class_ 24), (0, u "com/example/nearspace/nearspace/MarksHasPinLaw"), (2, u "law"), (0, u "(IIIIII)Z")] 7

def k1m0 : Method := { name := "<init>", desc := "()V", sig := { parameters := [], returnType := none }, accessFlags := 2, code := none }
def k1c1 : Code := { maxStack := 3, maxLocals := 15, code := code, exceptionTable := #[], attributes := #[] }
def k1m1 : Method := { name := "law", desc := "(IIIIII)Z", sig := { parameters := [.int, .int, .int, .int, .int, .int], returnType := some .boolean }, accessFlags := 9, code := some k1c1 }
/-- com/example/nearspace/nearspace/MarksHasPinLaw -/
def k1 : Class := { plain "com/example/nearspace/nearspace/MarksHasPinLaw" (some 0) with
  accessFlags := 49
  interfaces := #[]
  cf := some (fileOf pool1 23 #[] #[{ accessFlags := 2, nameIndex := 5, descriptorIndex := 6, attributes := #[] }, { accessFlags := 9, nameIndex := 27, descriptorIndex := 28, attributes := #[] }] 49 2 #[] #[])
  fields := #[]
  methods := #[k1m0, k1m1]
  instanceTypes := #[]
  staticTypes := #[]
  resolved := Array.replicate 36 none
  statics := none }

def pool2 : Array CpInfo := pool [(1, .methodref 2 3), (0, .class_ 4), (0, .nameAndType 5 6), (0, u "java/lang/Object"), (0, u "<init>"), (0, u "()V"), (0, .fieldref 8 9), (0, .class_ 10), (0, .nameAndType 11 12), (0, u "com/example/nearspace/nearspace/NeighbourGraph$Marks"), (0, u "marked"), (0, u "[I"), (2, .fieldref 8 16), (0, .nameAndType 17 18), (0, u "words"), (0, u "[J"), (0, .fieldref 8 20), (0, .nameAndType 21 22), (0, u "markedCount"), (0, u "I"), (6, u "(I)V"), (2, u "clear"), (1, u "has"), (0, u "(I)Z"), (0, u "add"), (3, .class_ 41), (0, u "com/example/nearspace/nearspace/NeighbourGraph")] 2

def k2c0 : Code := { maxStack := 3, maxLocals := 2, code := prog_89_method_1_code, exceptionTable := #[], attributes := #[] }
def k2m0 : Method := { name := "<init>", desc := "(I)V", sig := { parameters := [.int], returnType := none }, accessFlags := 0, code := some k2c0 }
def k2c1 : Code := { maxStack := 4, maxLocals := 2, code := prog_89_method_2_code, exceptionTable := #[], attributes := #[] }
def k2m1 : Method := { name := "clear", desc := "()V", sig := { parameters := [], returnType := none }, accessFlags := 0, code := some k2c1 }
def k2c2 : Code := { maxStack := 5, maxLocals := 2, code := prog_89_method_3_code, exceptionTable := #[], attributes := #[] }
def k2m2 : Method := { name := "has", desc := "(I)Z", sig := { parameters := [.int], returnType := some .boolean }, accessFlags := 0, code := some k2c2 }
def k2c3 : Code := { maxStack := 6, maxLocals := 7, code := prog_89_method_4_code, exceptionTable := #[], attributes := #[] }
def k2m3 : Method := { name := "add", desc := "(I)Z", sig := { parameters := [.int], returnType := some .boolean }, accessFlags := 0, code := some k2c3 }
/-- com/example/nearspace/nearspace/NeighbourGraph$Marks -/
def k2 : Class := { plain "com/example/nearspace/nearspace/NeighbourGraph$Marks" (some 0) with
  accessFlags := 48
  interfaces := #[]
  cf := some (fileOf pool2 8 #[.nestHost 40] #[{ accessFlags := 0, nameIndex := 5, descriptorIndex := 29, attributes := #[] }, { accessFlags := 0, nameIndex := 32, descriptorIndex := 6, attributes := #[] }, { accessFlags := 0, nameIndex := 34, descriptorIndex := 35, attributes := #[] }, { accessFlags := 0, nameIndex := 36, descriptorIndex := 35, attributes := #[] }] 48 2 #[] #[{ accessFlags := 18, nameIndex := 17, descriptorIndex := 18, attributes := #[] }, { accessFlags := 2, nameIndex := 11, descriptorIndex := 12, attributes := #[] }, { accessFlags := 2, nameIndex := 21, descriptorIndex := 22, attributes := #[] }])
  fields := #[{ name := "words", type := (.array .long), accessFlags := 18, slot := 0, constantValue := 0 }, { name := "marked", type := (.array .int), accessFlags := 2, slot := 1, constantValue := 0 }, { name := "markedCount", type := .int, accessFlags := 2, slot := 2, constantValue := 0 }]
  methods := #[k2m0, k2m1, k2m2, k2m3]
  instanceTypes := #[(.array .long), (.array .int), .int]
  staticTypes := #[]
  resolved := Array.replicate 44 none
  statics := none }

def pool3 : Array CpInfo := pool [(1, u "java/lang/Cloneable"), (0, .class_ 1), (0, u "java/lang/Object"), (0, .class_ 3)] 3

/-- java/lang/Cloneable -/
def k3 : Class := { plain "java/lang/Cloneable" (some 0) with
  accessFlags := 1537
  interfaces := #[]
  cf := some (fileOf pool3 2 #[] #[] 1537 4 #[] #[])
  fields := #[]
  methods := #[]
  instanceTypes := #[]
  staticTypes := #[]
  resolved := Array.replicate 8 none
  statics := none }

def pool4 : Array CpInfo := pool [(1, u "java/io/Serializable"), (0, .class_ 1), (0, u "java/lang/Object"), (0, .class_ 3)] 3

/-- java/io/Serializable -/
def k4 : Class := { plain "java/io/Serializable" (some 0) with
  accessFlags := 1537
  interfaces := #[]
  cf := some (fileOf pool4 2 #[] #[] 1537 4 #[] #[])
  fields := #[]
  methods := #[]
  instanceTypes := #[]
  staticTypes := #[]
  resolved := Array.replicate 8 none
  statics := none }

/-- the primitive byte -/
def k5 : Class := { plain "byte" none with kind := .primitive 'B', accessFlags := 0x411 }
/-- [B -/
def k6 : Class := { plain "[B" (some 0) with kind := .array 5 .byte, interfaces := #[3, 4], accessFlags := 1041 }

/-- the primitive int -/
def k7 : Class := { plain "int" none with kind := .primitive 'I', accessFlags := 0x411 }
/-- [I -/
def k8 : Class := { plain "[I" (some 0) with kind := .array 7 .int, interfaces := #[3, 4], accessFlags := 1041 }

/-- the primitive long -/
def k9 : Class := { plain "long" none with kind := .primitive 'J', accessFlags := 0x411 }
/-- [J -/
def k10 : Class := { plain "[J" (some 0) with kind := .array 9 .long, interfaces := #[3, 4], accessFlags := 1041 }

def heap : Heap := #[]
def classes : Array Class := #[k0, k1, k2, k3, k4, k5, k6, k7, k8, k9, k10]
def interned : List (Array UInt16 × Addr) := []
def slotsUsed : Nat := 0
def theMethod : MethodId := ⟨1, 1⟩
def args0 : Array Value := #[.int 5, .int 3, .int 123, .int 65, .int 7, .int 3]
def aboutOver (below : List Frame) : State where
  vm := { classes := classes, interned := interned.toArray }
  heap := heap
  slotsUsed := slotsUsed
  threads := #[{ frames := .invoking theMethod args0 :: below }]
def below0 : List Frame := [.native { method := ⟨0, 0⟩, args := #[] }]
def about1 : State := aboutOver below0
def p0 : Program := .bare "" "" ""
def e0 : Env := launch0.env 0 0 0
theorem w_frames : about1.frames = Frame.invoking theMethod args0 :: below0 := rfl
set_option maxRecDepth 65536 in
theorem w_args : argsFit about1.vm theMethod args0 = true := by decide +kernel
set_option maxRecDepth 65536 in
theorem w_heap : heapFits about1 = true := by decide +kernel
set_option maxRecDepth 65536 in
theorem w_runnable : about1.curStatus? = some .runnable := by decide +kernel
set_option maxRecDepth 65536 in
theorem w_alone : about1.alone = true := by decide +kernel
set_option maxRecDepth 65536 in
theorem w_named : about1.methodNamed? x = some theMethod := by decide +kernel
set_option maxRecDepth 65536 in
theorem w_hears : about1.hears theMethod below0 = true := by decide +kernel
set_option maxRecDepth 65536 in
theorem w_ripe : about1.ripe theMethod args0 below0 = true := by decide +kernel
theorem w_running : about1.status = .running := rfl
set_option maxRecDepth 65536 in
theorem w_room : about1.hasRoom e0.platform room_1 = true :=
  launch0.hasRoom_least _ room_1 (by decide +kernel) (by decide +kernel) (by decide +kernel) (by decide +kernel) (by decide +kernel) (by decide +kernel)
theorem allAtoms_all (ts : List Jvm.Cond) (a : Array Jvm.Value) (st : Jvm.State) : (allAtoms ts).before a st = ts.all (fun c => c.before a st) := by
  induction ts with
  | nil => rfl
  | cons c t ih =>
    show (Jvm.Cond.and c (allAtoms t)).before a st = _
    rw [Jvm.Cond.before_and, ih, List.all_cons]
def words1 : List Jvm.Cond := Jvm.Cond.code x code maxLocals ret :: tables_1
/-- a 'code' word, met by the world's own term for the bytes: nothing is compared byte by byte -/
theorem code_word {y : MethodName} {bytes : ByteArray} {mx : Nat} {rt : Option FieldType} {a : Array Value} {s : State} {m : MethodId} {meth : Method} {c : Code} (h1 : s.methodNamed? y = some m) (h2 : s.vm.method? m = some meth) (h3 : meth.code = some c) (h4 : c.code = bytes)
    (h5 : (c.maxLocals == mx && c.exceptionTable.isEmpty && decide (c.maxStack ≤ mostOperands) && decide (meth.sig.returnType = rt) && !meth.locks && decide (parseMethodDescriptor y.desc = some meth.sig)) = true) : (Jvm.Cond.code y bytes mx rt).before a s = true := by
  simp only [Bool.and_eq_true, beq_iff_eq, Bool.not_eq_true', decide_eq_true_eq] at h5
  obtain ⟨⟨⟨⟨⟨g1, g2⟩, g3⟩, g4⟩, g5⟩, g6⟩ := h5
  simp [Cond.before, Cond.holds, Cond.value, h1, h2, h3, h4, g1, g2, g3, g4, g5, g6]
def isCode : Jvm.Cond → Bool
  | .code _ _ _ _ => true
  | _ => false
theorem all_split {L : List Jvm.Cond} {P : Jvm.Cond → Bool} (h1 : L.all (fun c => isCode c || P c) = true) (h2 : ∀ c ∈ L.filter isCode, P c = true) : L.all P = true := by
  refine List.all_eq_true.mpr fun c hc => ?_
  have h := List.all_eq_true.mp h1 c hc
  rcases Bool.eq_false_or_eq_true (isCode c) with hi | hi
  · exact h2 c (List.mem_filter.mpr ⟨hc, hi⟩)
  · simpa [hi] using h
set_option maxRecDepth 65536 in
theorem w_c0 : (Jvm.Cond.code x code maxLocals ret).before args0 about1 = true := code_word (m := ⟨1, 1⟩) (meth := k1m1) (c := k1c1) (by decide +kernel) rfl rfl rfl (by decide +kernel)
set_option maxRecDepth 65536 in
theorem w_c1 : (Jvm.Cond.code ({ cls := "com/example/nearspace/nearspace/NeighbourGraph$Marks", name := "<init>", desc := "(I)V" } : Jvm.MethodName) prog_89_method_1_code (2 : Nat) (Option.none : Option Jvm.ClassFile.FieldType)).before args0 about1 = true := code_word (m := ⟨2, 0⟩) (meth := k2m0) (c := k2c0) (by decide +kernel) rfl rfl rfl (by decide +kernel)
set_option maxRecDepth 65536 in
theorem w_c2 : (Jvm.Cond.code ({ cls := "java/lang/Object", name := "<init>", desc := "()V" } : Jvm.MethodName) object_method_1_code (1 : Nat) (Option.none : Option Jvm.ClassFile.FieldType)).before args0 about1 = true := code_word (m := ⟨0, 0⟩) (meth := k0m0) (c := k0c0) (by decide +kernel) rfl rfl rfl (by decide +kernel)
set_option maxRecDepth 65536 in
theorem w_c3 : (Jvm.Cond.code ({ cls := "com/example/nearspace/nearspace/NeighbourGraph$Marks", name := "add", desc := "(I)Z" } : Jvm.MethodName) prog_89_method_4_code (7 : Nat) (Option.some Jvm.ClassFile.FieldType.boolean)).before args0 about1 = true := code_word (m := ⟨2, 3⟩) (meth := k2m3) (c := k2c3) (by decide +kernel) rfl rfl rfl (by decide +kernel)
set_option maxRecDepth 65536 in
theorem w_c4 : (Jvm.Cond.code ({ cls := "com/example/nearspace/nearspace/NeighbourGraph$Marks", name := "clear", desc := "()V" } : Jvm.MethodName) prog_89_method_2_code (2 : Nat) (Option.none : Option Jvm.ClassFile.FieldType)).before args0 about1 = true := code_word (m := ⟨2, 1⟩) (meth := k2m1) (c := k2c1) (by decide +kernel) rfl rfl rfl (by decide +kernel)
set_option maxRecDepth 65536 in
theorem w_c5 : (Jvm.Cond.code ({ cls := "com/example/nearspace/nearspace/NeighbourGraph$Marks", name := "has", desc := "(I)Z" } : Jvm.MethodName) prog_89_method_3_code (2 : Nat) (Option.some Jvm.ClassFile.FieldType.boolean)).before args0 about1 = true := code_word (m := ⟨2, 2⟩) (meth := k2m2) (c := k2c2) (by decide +kernel) rfl rfl rfl (by decide +kernel)
def codes1 : List Jvm.Cond := [Jvm.Cond.code x code maxLocals ret, Jvm.Cond.code ({ cls := "com/example/nearspace/nearspace/NeighbourGraph$Marks", name := "<init>", desc := "(I)V" } : Jvm.MethodName) prog_89_method_1_code (2 : Nat) (Option.none : Option Jvm.ClassFile.FieldType), Jvm.Cond.code ({ cls := "java/lang/Object", name := "<init>", desc := "()V" } : Jvm.MethodName) object_method_1_code (1 : Nat) (Option.none : Option Jvm.ClassFile.FieldType), Jvm.Cond.code ({ cls := "com/example/nearspace/nearspace/NeighbourGraph$Marks", name := "add", desc := "(I)Z" } : Jvm.MethodName) prog_89_method_4_code (7 : Nat) (Option.some Jvm.ClassFile.FieldType.boolean), Jvm.Cond.code ({ cls := "com/example/nearspace/nearspace/NeighbourGraph$Marks", name := "clear", desc := "()V" } : Jvm.MethodName) prog_89_method_2_code (2 : Nat) (Option.none : Option Jvm.ClassFile.FieldType), Jvm.Cond.code ({ cls := "com/example/nearspace/nearspace/NeighbourGraph$Marks", name := "has", desc := "(I)Z" } : Jvm.MethodName) prog_89_method_3_code (2 : Nat) (Option.some Jvm.ClassFile.FieldType.boolean)]
set_option maxRecDepth 65536 in
theorem codes_eq : words1.filter isCode = codes1 := rfl
theorem w_codes : ∀ c ∈ words1.filter isCode, c.before args0 about1 = true := by
  rw [codes_eq]
  intro c hc
  simp only [codes1, List.mem_cons, List.not_mem_nil, or_false] at hc
  rcases hc with rfl | rfl | rfl | rfl | rfl | rfl
  · exact w_c0
  · exact w_c1
  · exact w_c2
  · exact w_c3
  · exact w_c4
  · exact w_c5
set_option maxRecDepth 65536 in
theorem w_t1 : (words1.take 24).all (fun c => isCode c || c.before args0 about1) = true := by decide +kernel
set_option maxRecDepth 65536 in
theorem w_t2 : (words1.drop 24).all (fun c => isCode c || c.before args0 about1) = true := by decide +kernel
theorem w_tables : (allAtoms (Jvm.Cond.code x code maxLocals ret :: tables_1)).before args0 about1 = true := by
  rw [allAtoms_all]
  show words1.all (fun c => c.before args0 about1) = true
  refine all_split ?_ w_codes
  rw [← List.take_append_drop 24 words1, List.all_append, w_t1, w_t2]
  rfl
set_option maxRecDepth 65536 in
theorem w_case : (Jvm.Cond.and given_1 narrow_1).before args0 about1 = true := by decide +kernel
theorem w_applies : (headSpec (Jvm.Cond.code x code maxLocals ret :: tables_1) room_1).applies x e0.platform about1 = true :=
  (Spec.applies_iff w_frames).mpr ⟨w_running, w_runnable, w_alone, w_named, w_hears, w_ripe, w_room, w_tables⟩
theorem atStart : AtStart classFile x code maxLocals ret World_1 tables_1 room_1 Calls_1 rest_1 Pre_1 launch0 p0 e0 about1 theMethod args0 below0 :=
  ⟨lists_1, trivial, launch0.admits_env _ _ _, launch0.least_env, fairChoices_fair.cas, fairChoices_fair.clock, w_frames, w_args, w_heap, w_applies, trivial, trivial, w_case⟩
end start1
theorem witness_1 : WitnessClaimed_1 := ⟨start1.p0, start1.e0, start1.about1, start1.theMethod, start1.args0, start1.below0, start1.atStart⟩
end Jvm.Pilot.@@N@@
