import JvmDerived
import JvmDerived.Pilot.@@N@@Statement
import JvmDerived.Pilot.@@N@@Code
set_option linter.unusedVariables false
set_option linter.unusedSimpArgs false
namespace Jvm.Own
open Sem ClassFile Op Lib Jvm.Stand Jvm.Free Jvm.LawKit Jvm.RoadKit
section Layer
variable {p : Program} {l : Launch} {e : Env} {R : Room} {s : State} {m : MethodId} {args : Array Value} {below : List Frame} {meth : Method} {c : Code} {Z : State} {own nm : String} {bytes : ByteArray} {maxL : Nat} {ret : Option FieldType} {n0 : Nat} {EE : Outcome → State → Prop} {h : Heap} {k n : Nat} {a0 : Array Value} {pc : Nat} {ls : Array Slot} {st : List Value}
def Cx (p : Program) (s : State) (m : MethodId) (meth : Method) (c : Code) (Z : State) (own nm : String) (bytes : ByteArray) (maxL : Nat) (ret : Option FieldType) (n0 : Nat) : Prop :=
  p.tables.exec = Jvm.exec ∧ c.code = bytes ∧ c.maxLocals = maxL ∧ s.vm.findClass own = some m.cls ∧ meth.name = nm ∧ Z.Warmed39 s.vm ∧ meth.sig.returnType = ret ∧ meth.locks = false ∧ n0 ≤ s.heap.size
def EndN (s : State) (n0 : Nat) (Q : Option Value → Heap → Prop) (K N : Nat) (o : Outcome) (t : State) : Prop := ∃ v L, o = .returned v ∧ (Q v t.heap ∧ Fr n0 L) ∧ FrameEnd s o t L K N
def Run (p : Program) (l : Launch) (e : Env) (R : Room) (s : State) (m : MethodId) (args : Array Value) (below : List Frame) (meth : Method) (c : Code) (Z : State) (own nm : String) (bytes : ByteArray) (maxL : Nat) (ret : Option FieldType) (n0 : Nat) (EE : Outcome → State → Prop) (h : Heap) (k n : Nat) (g : JFrame) : Prop :=
  Cx p s m meth c Z own nm bytes maxL ret n0 → ∀ (T : State) (locs : List Loc), Stand p l e R s m args below meth c T locs k n → Fr n0 locs → T.heap = h →
    ∃ s₂ o, Steps p.tables e below (T.setTop g) s₂ ∧ s₂.status = .running ∧ Ended s₂ below o ∧ EE o s₂
/-- a callee's contract: from heap h with the arguments as it returns with what Q says, nothing older than n0 written -/
def Pays (l : Launch) (Z : State) (y : MethodName) (bytes : ByteArray) (maxL : Nat) (ret : Option FieldType) (rm : Room) (as' : Array Value) (h : Heap) (n0 : Nat) (Q : Option Value → Heap → Prop) : Prop :=
  ∀ ws : List Jvm.Cond, MetFree l y (head1 (Jvm.Cond.code y bytes maxL ret :: ws) rm) (fun a U => a = as' ∧ Z.Warmed39 U.vm ∧ U.heap = h) (fun _ _ _ _ _ => True) (fun _ U o U' => ∃ v L, o = .returned v ∧ (Q v U'.heap ∧ Fr n0 L) ∧ FrameEnd U o U' L rm.cells rm.slots)
theorem Pays.of {Q : Option Value → Heap → Prop} {y : MethodName} {rm : Room} {as' : Array Value} (hpl : plainFor y = true) (ef : ∀ m, entryFrame m as' maxL = mkF m 0 ls []) (hn0 : n0 ≤ h.size)
    (body : ∀ p e s m below meth c, Run p l e rm s m as' below meth c Z y.cls y.name bytes maxL ret n0 (EndN s n0 Q rm.cells rm.slots) h 0 0 (mkF m 0 ls [])) : Pays l Z y bytes maxL ret rm as' h n0 Q := fun ws => by
  refine MetFree.of_bodySF hpl hisR ?_
  intro p e s m args below meth c s₁ Bd hml0 hP hK
  obtain ⟨rfl, hZ, hh⟩ := hP
  have hown : s.vm.findClass y.cls = some m.cls := findClass_of_methodNamed Bd.named
  have hnm := (name_of_methodNamed Bd.named Bd.method).1
  have e0 : s₁.heap = h := by rw [← hh, Bd.state]; rfl
  have q := body p e s m below meth c ⟨Bd.exec, Bd.bytes, hml0, hown, hnm, hZ, Bd.returns, Bd.notSynchronized, by rw [hh]; exact hn0⟩ s₁ [] (Stand.of_body Bd) (Fr.nil n0) e0
  obtain ⟨s₂, o, q1, q2⟩ := q
  exact ⟨s₂, o, castTop (ef m) q1, q2⟩
theorem Run.sz {g : JFrame} (hr : n0 ≤ h.size → Run p l e R s m args below meth c Z own nm bytes maxL ret n0 EE h k n g) : Run p l e R s m args below meth c Z own nm bytes maxL ret n0 EE h k n g := fun C T locs X F E =>
  hr (by subst E; exact Nat.le_trans C.2.2.2.2.2.2.2.2 X.same.2.1) C T locs X F E
theorem Run.step {g g' : JFrame} (hs : ∀ T target, p.tables.exec = Jvm.exec → c.code = bytes → At T m c below → Steps p.tables e below (T.setTop g') target → Steps p.tables e below (T.setTop g) target) (hr : Run p l e R s m args below meth c Z own nm bytes maxL ret n0 EE h k n g') : Run p l e R s m args below meth c Z own nm bytes maxL ret n0 EE h k n g := fun C T locs X F E => by
  obtain ⟨s₂, o, q1, q2⟩ := hr C T locs X F E
  exact ⟨s₂, o, hs T s₂ C.1 C.2.1 X.here q1, q2⟩
theorem Run.cut {g : JFrame} (g' : JFrame) (hj : Run p l e R s m args below meth c Z own nm bytes maxL ret n0 EE h k n g') (hr : Run p l e R s m args below meth c Z own nm bytes maxL ret n0 EE h k n g' → Run p l e R s m args below meth c Z own nm bytes maxL ret n0 EE h k n g) : Run p l e R s m args below meth c Z own nm bytes maxL ret n0 EE h k n g := hr hj
theorem Run.cast {g g' : JFrame} (q : g = g') (hr : Run p l e R s m args below meth c Z own nm bytes maxL ret n0 EE h k n g') : Run p l e R s m args below meth c Z own nm bytes maxL ret n0 EE h k n g := q ▸ hr

theorem Run.aloadN {i : Fin 4} {v : Value} (q : Nat) (hd : decode bytes pc = .ok (.aload_n i, 1)) (hl : ls[i.val]? = some (.val v)) (hr : Run p l e R s m args below meth c Z own nm bytes maxL ret n0 EE h k n (mkF m q ls (v :: st))) (hv : v.isRef = true := by rfl) (hq : q = pc + 1 := by rfl) : Run p l e R s m args below meth c Z own nm bytes maxL ret n0 EE h k n (mkF m pc ls st) := by
  subst hq; exact Run.step (fun T t hx hb A z => XS.aloadN A hx rfl (hb ▸ hd) hl hv z) hr
theorem Run.aload {i : Nat} {v : Value} (q : Nat) (hd : decode bytes pc = .ok (.aload i, 2)) (hl : ls[i]? = some (.val v)) (hr : Run p l e R s m args below meth c Z own nm bytes maxL ret n0 EE h k n (mkF m q ls (v :: st))) (hv : v.isRef = true := by rfl) (hq : q = pc + 2 := by rfl) : Run p l e R s m args below meth c Z own nm bytes maxL ret n0 EE h k n (mkF m pc ls st) := by
  subst hq; exact Run.step (fun T t hx hb A z => XS.aload A hx rfl (hb ▸ hd) hl hv z) hr
theorem Run.iloadN {i : Fin 4} {v : Int32} (q : Nat) (hd : decode bytes pc = .ok (.iload_n i, 1)) (hl : ls[i.val]? = some (.val (.int v))) (hr : Run p l e R s m args below meth c Z own nm bytes maxL ret n0 EE h k n (mkF m q ls (.int v :: st))) (hq : q = pc + 1 := by rfl) : Run p l e R s m args below meth c Z own nm bytes maxL ret n0 EE h k n (mkF m pc ls st) := by
  subst hq; exact Run.step (fun T t hx hb A z => XS.iloadN A hx rfl (hb ▸ hd) hl z) hr
theorem Run.iload {i : Nat} {v : Int32} (q : Nat) (hd : decode bytes pc = .ok (.iload i, 2)) (hl : ls[i]? = some (.val (.int v))) (hr : Run p l e R s m args below meth c Z own nm bytes maxL ret n0 EE h k n (mkF m q ls (.int v :: st))) (hq : q = pc + 2 := by rfl) : Run p l e R s m args below meth c Z own nm bytes maxL ret n0 EE h k n (mkF m pc ls st) := by
  subst hq; exact Run.step (fun T t hx hb A z => XS.iload A hx rfl (hb ▸ hd) hl z) hr
theorem Run.lloadN {i : Fin 4} {v : Int64} (q : Nat) (hd : decode bytes pc = .ok (.lload_n i, 1)) (hl : ls[i.val]? = some (.val (.long v))) (hr : Run p l e R s m args below meth c Z own nm bytes maxL ret n0 EE h k n (mkF m q ls (.long v :: st))) (hq : q = pc + 1 := by rfl) : Run p l e R s m args below meth c Z own nm bytes maxL ret n0 EE h k n (mkF m pc ls st) := by
  subst hq; exact Run.step (fun T t hx hb A z => XS.lloadN A hx rfl (hb ▸ hd) hl z) hr
theorem Run.lload {i : Nat} {v : Int64} (q : Nat) (hd : decode bytes pc = .ok (.lload i, 2)) (hl : ls[i]? = some (.val (.long v))) (hr : Run p l e R s m args below meth c Z own nm bytes maxL ret n0 EE h k n (mkF m q ls (.long v :: st))) (hq : q = pc + 2 := by rfl) : Run p l e R s m args below meth c Z own nm bytes maxL ret n0 EE h k n (mkF m pc ls st) := by
  subst hq; exact Run.step (fun T t hx hb A z => XS.lload A hx rfl (hb ▸ hd) hl z) hr
theorem Run.istoreN {i : Fin 4} {x : Int32} (q : Nat) (ls' : Array Slot) (hd : decode bytes pc = .ok (.istore_n i, 1)) (hr : Run p l e R s m args below meth c Z own nm bytes maxL ret n0 EE h k n (mkF m q ls' st)) (hl : storeLocals ls i.val (.int x) = some ls' := by rfl) (hq : q = pc + 1 := by rfl) : Run p l e R s m args below meth c Z own nm bytes maxL ret n0 EE h k n (mkF m pc ls (.int x :: st)) := by
  subst hq; exact Run.step (fun T t hx hb A z => XS.istoreN A hx rfl (hb ▸ hd) rfl hl z) hr
theorem Run.istore {i : Nat} {x : Int32} (q : Nat) (ls' : Array Slot) (hd : decode bytes pc = .ok (.istore i, 2)) (hr : Run p l e R s m args below meth c Z own nm bytes maxL ret n0 EE h k n (mkF m q ls' st)) (hl : storeLocals ls i (.int x) = some ls' := by rfl) (hq : q = pc + 2 := by rfl) : Run p l e R s m args below meth c Z own nm bytes maxL ret n0 EE h k n (mkF m pc ls (.int x :: st)) := by
  subst hq; exact Run.step (fun T t hx hb A z => XS.istore A hx rfl (hb ▸ hd) rfl hl z) hr
theorem Run.lstoreN {i : Fin 4} {x : Int64} (q : Nat) (ls' : Array Slot) (hd : decode bytes pc = .ok (.lstore_n i, 1)) (hr : Run p l e R s m args below meth c Z own nm bytes maxL ret n0 EE h k n (mkF m q ls' st)) (hl : storeLocals ls i.val (.long x) = some ls' := by rfl) (hq : q = pc + 1 := by rfl) : Run p l e R s m args below meth c Z own nm bytes maxL ret n0 EE h k n (mkF m pc ls (.long x :: st)) := by
  subst hq; exact Run.step (fun T t hx hb A z => XS.lstoreN A hx rfl (hb ▸ hd) rfl hl z) hr
theorem Run.lstore {i : Nat} {x : Int64} (q : Nat) (ls' : Array Slot) (hd : decode bytes pc = .ok (.lstore i, 2)) (hr : Run p l e R s m args below meth c Z own nm bytes maxL ret n0 EE h k n (mkF m q ls' st)) (hl : storeLocals ls i (.long x) = some ls' := by rfl) (hq : q = pc + 2 := by rfl) : Run p l e R s m args below meth c Z own nm bytes maxL ret n0 EE h k n (mkF m pc ls (.long x :: st)) := by
  subst hq; exact Run.step (fun T t hx hb A z => XS.lstore A hx rfl (hb ▸ hd) rfl hl z) hr
theorem Run.astoreN {i : Fin 4} {x : Value} (q : Nat) (ls' : Array Slot) (hd : decode bytes pc = .ok (.astore_n i, 1)) (hr : Run p l e R s m args below meth c Z own nm bytes maxL ret n0 EE h k n (mkF m q ls' st)) (hv : x.isRef = true := by rfl) (hl : storeLocals ls i.val x = some ls' := by rfl) (hq : q = pc + 1 := by rfl) : Run p l e R s m args below meth c Z own nm bytes maxL ret n0 EE h k n (mkF m pc ls (x :: st)) := by
  subst hq; exact Run.step (fun T t hx hb A z => XS.astoreN A hx rfl (hb ▸ hd) rfl hv hl z) hr
theorem Run.astore {i : Nat} {x : Value} (q : Nat) (ls' : Array Slot) (hd : decode bytes pc = .ok (.astore i, 2)) (hr : Run p l e R s m args below meth c Z own nm bytes maxL ret n0 EE h k n (mkF m q ls' st)) (hv : x.isRef = true := by rfl) (hl : storeLocals ls i x = some ls' := by rfl) (hq : q = pc + 2 := by rfl) : Run p l e R s m args below meth c Z own nm bytes maxL ret n0 EE h k n (mkF m pc ls (x :: st)) := by
  subst hq; exact Run.step (fun T t hx hb A z => XS.astore A hx rfl (hb ▸ hd) rfl hv hl z) hr
theorem Run.iconst {i : Int} (x : Int32) (q : Nat) (hd : decode bytes pc = .ok (.iconst i, 1)) (hr : Run p l e R s m args below meth c Z own nm bytes maxL ret n0 EE h k n (mkF m q ls (.int x :: st))) (hv : Int32.ofInt i = x := by first | rfl | decide) (hq : q = pc + 1 := by rfl) : Run p l e R s m args below meth c Z own nm bytes maxL ret n0 EE h k n (mkF m pc ls st) := by
  subst hq hv; exact Run.step (fun T t hx hb A z => XS.iconst A hx rfl (hb ▸ hd) z) hr
theorem Run.bipush {i : Int} (x : Int32) (q : Nat) (hd : decode bytes pc = .ok (.bipush i, 2)) (hr : Run p l e R s m args below meth c Z own nm bytes maxL ret n0 EE h k n (mkF m q ls (.int x :: st))) (hv : (Int8.ofInt i).toInt32 = x := by first | rfl | decide) (hq : q = pc + 2 := by rfl) : Run p l e R s m args below meth c Z own nm bytes maxL ret n0 EE h k n (mkF m pc ls st) := by
  subst hq hv; exact Run.step (fun T t hx hb A z => XS.bipush A hx rfl (hb ▸ hd) z) hr
theorem Run.sipush {i : Int} (x : Int32) (q : Nat) (hd : decode bytes pc = .ok (.sipush i, 3)) (hr : Run p l e R s m args below meth c Z own nm bytes maxL ret n0 EE h k n (mkF m q ls (.int x :: st))) (hv : (Int16.ofInt i).toInt32 = x := by first | rfl | decide) (hq : q = pc + 3 := by rfl) : Run p l e R s m args below meth c Z own nm bytes maxL ret n0 EE h k n (mkF m pc ls st) := by
  subst hq hv; exact Run.step (fun T t hx hb A z => XS.sipush A hx rfl (hb ▸ hd) z) hr
theorem Run.lconst {i : Fin 2} (x : Int64) (q : Nat) (hd : decode bytes pc = .ok (.lconst i, 1)) (hr : Run p l e R s m args below meth c Z own nm bytes maxL ret n0 EE h k n (mkF m q ls (.long x :: st))) (hv : Int64.ofNat i = x := by first | rfl | decide) (hq : q = pc + 1 := by rfl) : Run p l e R s m args below meth c Z own nm bytes maxL ret n0 EE h k n (mkF m pc ls st) := by
  subst hq hv; exact Run.step (fun T t hx hb A z => XS.lconst A hx rfl (hb ▸ hd) z) hr
theorem Run.aconstNull (q : Nat) (hd : decode bytes pc = .ok (.aconst_null, 1)) (hr : Run p l e R s m args below meth c Z own nm bytes maxL ret n0 EE h k n (mkF m q ls (.null :: st))) (hq : q = pc + 1 := by rfl) : Run p l e R s m args below meth c Z own nm bytes maxL ret n0 EE h k n (mkF m pc ls st) := by
  subst hq; exact Run.step (fun T t hx hb A z => XS.aconstNull A hx rfl (hb ▸ hd) z) hr
theorem Run.iadd {x y : Int32} (w : Int32) (q : Nat) (hd : decode bytes pc = .ok (.iadd, 1)) (hr : Run p l e R s m args below meth c Z own nm bytes maxL ret n0 EE h k n (mkF m q ls (.int w :: st))) (hv : x + y = w := by rfl) (hq : q = pc + 1 := by rfl) : Run p l e R s m args below meth c Z own nm bytes maxL ret n0 EE h k n (mkF m pc ls (.int y :: .int x :: st)) := by
  subst hq hv; exact Run.step (fun T t hx hb A z => XS.iadd A hx rfl (hb ▸ hd) rfl z) hr
theorem Run.isub {x y : Int32} (w : Int32) (q : Nat) (hd : decode bytes pc = .ok (.isub, 1)) (hr : Run p l e R s m args below meth c Z own nm bytes maxL ret n0 EE h k n (mkF m q ls (.int w :: st))) (hv : x - y = w := by rfl) (hq : q = pc + 1 := by rfl) : Run p l e R s m args below meth c Z own nm bytes maxL ret n0 EE h k n (mkF m pc ls (.int y :: .int x :: st)) := by
  subst hq hv; exact Run.step (fun T t hx hb A z => XS.isub A hx rfl (hb ▸ hd) rfl z) hr
theorem Run.imul {x y : Int32} (w : Int32) (q : Nat) (hd : decode bytes pc = .ok (.imul, 1)) (hr : Run p l e R s m args below meth c Z own nm bytes maxL ret n0 EE h k n (mkF m q ls (.int w :: st))) (hv : x * y = w := by rfl) (hq : q = pc + 1 := by rfl) : Run p l e R s m args below meth c Z own nm bytes maxL ret n0 EE h k n (mkF m pc ls (.int y :: .int x :: st)) := by
  subst hq hv; exact Run.step (fun T t hx hb A z => XS.imul A hx rfl (hb ▸ hd) rfl z) hr
theorem Run.iand {x y : Int32} (w : Int32) (q : Nat) (hd : decode bytes pc = .ok (.iand, 1)) (hr : Run p l e R s m args below meth c Z own nm bytes maxL ret n0 EE h k n (mkF m q ls (.int w :: st))) (hv : x &&& y = w := by rfl) (hq : q = pc + 1 := by rfl) : Run p l e R s m args below meth c Z own nm bytes maxL ret n0 EE h k n (mkF m pc ls (.int y :: .int x :: st)) := by
  subst hq hv; exact Run.step (fun T t hx hb A z => XS.iand A hx rfl (hb ▸ hd) rfl z) hr
theorem Run.ior {x y : Int32} (w : Int32) (q : Nat) (hd : decode bytes pc = .ok (.ior, 1)) (hr : Run p l e R s m args below meth c Z own nm bytes maxL ret n0 EE h k n (mkF m q ls (.int w :: st))) (hv : x ||| y = w := by rfl) (hq : q = pc + 1 := by rfl) : Run p l e R s m args below meth c Z own nm bytes maxL ret n0 EE h k n (mkF m pc ls (.int y :: .int x :: st)) := by
  subst hq hv; exact Run.step (fun T t hx hb A z => XS.ior A hx rfl (hb ▸ hd) rfl z) hr
theorem Run.ixor {x y : Int32} (w : Int32) (q : Nat) (hd : decode bytes pc = .ok (.ixor, 1)) (hr : Run p l e R s m args below meth c Z own nm bytes maxL ret n0 EE h k n (mkF m q ls (.int w :: st))) (hv : x ^^^ y = w := by rfl) (hq : q = pc + 1 := by rfl) : Run p l e R s m args below meth c Z own nm bytes maxL ret n0 EE h k n (mkF m pc ls (.int y :: .int x :: st)) := by
  subst hq hv; exact Run.step (fun T t hx hb A z => XS.ixor A hx rfl (hb ▸ hd) rfl z) hr
theorem Run.ishl {x y : Int32} (w : Int32) (q : Nat) (hd : decode bytes pc = .ok (.ishl, 1)) (hr : Run p l e R s m args below meth c Z own nm bytes maxL ret n0 EE h k n (mkF m q ls (.int w :: st))) (hv : x <<< (y &&& 31) = w := by rfl) (hq : q = pc + 1 := by rfl) : Run p l e R s m args below meth c Z own nm bytes maxL ret n0 EE h k n (mkF m pc ls (.int y :: .int x :: st)) := by
  subst hq hv; exact Run.step (fun T t hx hb A z => XS.ishl A hx rfl (hb ▸ hd) rfl z) hr
theorem Run.ishr {x y : Int32} (w : Int32) (q : Nat) (hd : decode bytes pc = .ok (.ishr, 1)) (hr : Run p l e R s m args below meth c Z own nm bytes maxL ret n0 EE h k n (mkF m q ls (.int w :: st))) (hv : x >>> (y &&& 31) = w := by rfl) (hq : q = pc + 1 := by rfl) : Run p l e R s m args below meth c Z own nm bytes maxL ret n0 EE h k n (mkF m pc ls (.int y :: .int x :: st)) := by
  subst hq hv; exact Run.step (fun T t hx hb A z => XS.ishr A hx rfl (hb ▸ hd) rfl z) hr
theorem Run.iushr {x y : Int32} (w : Int32) (q : Nat) (hd : decode bytes pc = .ok (.iushr, 1)) (hr : Run p l e R s m args below meth c Z own nm bytes maxL ret n0 EE h k n (mkF m q ls (.int w :: st))) (hv : (x.toUInt32 >>> (y &&& 31).toUInt32).toInt32 = w := by rfl) (hq : q = pc + 1 := by rfl) : Run p l e R s m args below meth c Z own nm bytes maxL ret n0 EE h k n (mkF m pc ls (.int y :: .int x :: st)) := by
  subst hq hv; exact Run.step (fun T t hx hb A z => XS.iushr A hx rfl (hb ▸ hd) rfl z) hr
theorem Run.idiv {x y : Int32} (w : Int32) (q : Nat) (hd : decode bytes pc = .ok (.idiv, 1)) (hy : y ≠ 0) (hr : Run p l e R s m args below meth c Z own nm bytes maxL ret n0 EE h k n (mkF m q ls (.int w :: st))) (hv : x / y = w := by rfl) (hq : q = pc + 1 := by rfl) : Run p l e R s m args below meth c Z own nm bytes maxL ret n0 EE h k n (mkF m pc ls (.int y :: .int x :: st)) := by
  subst hq hv; exact Run.step (fun T t hx hb A z => XS.idiv A hx rfl (hb ▸ hd) rfl hy z) hr
theorem Run.irem {x y : Int32} (w : Int32) (q : Nat) (hd : decode bytes pc = .ok (.irem, 1)) (hy : y ≠ 0) (hr : Run p l e R s m args below meth c Z own nm bytes maxL ret n0 EE h k n (mkF m q ls (.int w :: st))) (hv : x - (x / y) * y = w := by rfl) (hq : q = pc + 1 := by rfl) : Run p l e R s m args below meth c Z own nm bytes maxL ret n0 EE h k n (mkF m pc ls (.int y :: .int x :: st)) := by
  subst hq hv; exact Run.step (fun T t hx hb A z => XS.irem A hx rfl (hb ▸ hd) rfl hy z) hr
theorem Run.ladd {x y : Int64} (w : Int64) (q : Nat) (hd : decode bytes pc = .ok (.ladd, 1)) (hr : Run p l e R s m args below meth c Z own nm bytes maxL ret n0 EE h k n (mkF m q ls (.long w :: st))) (hv : x + y = w := by rfl) (hq : q = pc + 1 := by rfl) : Run p l e R s m args below meth c Z own nm bytes maxL ret n0 EE h k n (mkF m pc ls (.long y :: .long x :: st)) := by
  subst hq hv; exact Run.step (fun T t hx hb A z => XS.ladd A hx rfl (hb ▸ hd) rfl z) hr
theorem Run.lsub {x y : Int64} (w : Int64) (q : Nat) (hd : decode bytes pc = .ok (.lsub, 1)) (hr : Run p l e R s m args below meth c Z own nm bytes maxL ret n0 EE h k n (mkF m q ls (.long w :: st))) (hv : x - y = w := by rfl) (hq : q = pc + 1 := by rfl) : Run p l e R s m args below meth c Z own nm bytes maxL ret n0 EE h k n (mkF m pc ls (.long y :: .long x :: st)) := by
  subst hq hv; exact Run.step (fun T t hx hb A z => XS.lsub A hx rfl (hb ▸ hd) rfl z) hr
theorem Run.lmul {x y : Int64} (w : Int64) (q : Nat) (hd : decode bytes pc = .ok (.lmul, 1)) (hr : Run p l e R s m args below meth c Z own nm bytes maxL ret n0 EE h k n (mkF m q ls (.long w :: st))) (hv : x * y = w := by rfl) (hq : q = pc + 1 := by rfl) : Run p l e R s m args below meth c Z own nm bytes maxL ret n0 EE h k n (mkF m pc ls (.long y :: .long x :: st)) := by
  subst hq hv; exact Run.step (fun T t hx hb A z => XS.lmul A hx rfl (hb ▸ hd) rfl z) hr
theorem Run.land {x y : Int64} (w : Int64) (q : Nat) (hd : decode bytes pc = .ok (.land, 1)) (hr : Run p l e R s m args below meth c Z own nm bytes maxL ret n0 EE h k n (mkF m q ls (.long w :: st))) (hv : x &&& y = w := by rfl) (hq : q = pc + 1 := by rfl) : Run p l e R s m args below meth c Z own nm bytes maxL ret n0 EE h k n (mkF m pc ls (.long y :: .long x :: st)) := by
  subst hq hv; exact Run.step (fun T t hx hb A z => XS.land A hx rfl (hb ▸ hd) rfl z) hr
theorem Run.lor {x y : Int64} (w : Int64) (q : Nat) (hd : decode bytes pc = .ok (.lor, 1)) (hr : Run p l e R s m args below meth c Z own nm bytes maxL ret n0 EE h k n (mkF m q ls (.long w :: st))) (hv : x ||| y = w := by rfl) (hq : q = pc + 1 := by rfl) : Run p l e R s m args below meth c Z own nm bytes maxL ret n0 EE h k n (mkF m pc ls (.long y :: .long x :: st)) := by
  subst hq hv; exact Run.step (fun T t hx hb A z => XS.lor A hx rfl (hb ▸ hd) rfl z) hr
theorem Run.lxor {x y : Int64} (w : Int64) (q : Nat) (hd : decode bytes pc = .ok (.lxor, 1)) (hr : Run p l e R s m args below meth c Z own nm bytes maxL ret n0 EE h k n (mkF m q ls (.long w :: st))) (hv : x ^^^ y = w := by rfl) (hq : q = pc + 1 := by rfl) : Run p l e R s m args below meth c Z own nm bytes maxL ret n0 EE h k n (mkF m pc ls (.long y :: .long x :: st)) := by
  subst hq hv; exact Run.step (fun T t hx hb A z => XS.lxor A hx rfl (hb ▸ hd) rfl z) hr
theorem Run.ldiv {x y : Int64} (w : Int64) (q : Nat) (hd : decode bytes pc = .ok (.ldiv, 1)) (hy : y ≠ 0) (hr : Run p l e R s m args below meth c Z own nm bytes maxL ret n0 EE h k n (mkF m q ls (.long w :: st))) (hv : x / y = w := by rfl) (hq : q = pc + 1 := by rfl) : Run p l e R s m args below meth c Z own nm bytes maxL ret n0 EE h k n (mkF m pc ls (.long y :: .long x :: st)) := by
  subst hq hv; exact Run.step (fun T t hx hb A z => XS.ldiv A hx rfl (hb ▸ hd) rfl hy z) hr
theorem Run.lrem {x y : Int64} (w : Int64) (q : Nat) (hd : decode bytes pc = .ok (.lrem, 1)) (hy : y ≠ 0) (hr : Run p l e R s m args below meth c Z own nm bytes maxL ret n0 EE h k n (mkF m q ls (.long w :: st))) (hv : x - (x / y) * y = w := by rfl) (hq : q = pc + 1 := by rfl) : Run p l e R s m args below meth c Z own nm bytes maxL ret n0 EE h k n (mkF m pc ls (.long y :: .long x :: st)) := by
  subst hq hv; exact Run.step (fun T t hx hb A z => XS.lrem A hx rfl (hb ▸ hd) rfl hy z) hr
theorem Run.lshl {x : Int64} {y : Int32} (w : Int64) (q : Nat) (hd : decode bytes pc = .ok (.lshl, 1)) (hr : Run p l e R s m args below meth c Z own nm bytes maxL ret n0 EE h k n (mkF m q ls (.long w :: st))) (hv : x <<< (y &&& 0x3f).toInt64 = w := by rfl) (hq : q = pc + 1 := by rfl) : Run p l e R s m args below meth c Z own nm bytes maxL ret n0 EE h k n (mkF m pc ls (.int y :: .long x :: st)) := by
  subst hq hv; exact Run.step (fun T t hx hb A z => XS.lshl A hx rfl (hb ▸ hd) rfl z) hr
theorem Run.lshr {x : Int64} {y : Int32} (w : Int64) (q : Nat) (hd : decode bytes pc = .ok (.lshr, 1)) (hr : Run p l e R s m args below meth c Z own nm bytes maxL ret n0 EE h k n (mkF m q ls (.long w :: st))) (hv : x >>> (y &&& 0x3f).toInt64 = w := by rfl) (hq : q = pc + 1 := by rfl) : Run p l e R s m args below meth c Z own nm bytes maxL ret n0 EE h k n (mkF m pc ls (.int y :: .long x :: st)) := by
  subst hq hv; exact Run.step (fun T t hx hb A z => XS.lshr A hx rfl (hb ▸ hd) rfl z) hr
theorem Run.lushr {x : Int64} {y : Int32} (w : Int64) (q : Nat) (hd : decode bytes pc = .ok (.lushr, 1)) (hr : Run p l e R s m args below meth c Z own nm bytes maxL ret n0 EE h k n (mkF m q ls (.long w :: st))) (hv : (x.toUInt64 >>> (y &&& 0x3f).toInt64.toUInt64).toInt64 = w := by rfl) (hq : q = pc + 1 := by rfl) : Run p l e R s m args below meth c Z own nm bytes maxL ret n0 EE h k n (mkF m pc ls (.int y :: .long x :: st)) := by
  subst hq hv; exact Run.step (fun T t hx hb A z => XS.lushr A hx rfl (hb ▸ hd) rfl z) hr
theorem Run.i2b {x : Int32} (w : Int32) (q : Nat) (hd : decode bytes pc = .ok (.i2b, 1)) (hr : Run p l e R s m args below meth c Z own nm bytes maxL ret n0 EE h k n (mkF m q ls (.int w :: st))) (hv : x.toInt8.toInt32 = w := by rfl) (hq : q = pc + 1 := by rfl) : Run p l e R s m args below meth c Z own nm bytes maxL ret n0 EE h k n (mkF m pc ls (.int x :: st)) := by
  subst hq hv; exact Run.step (fun T t hx hb A z => XS.i2b A hx rfl (hb ▸ hd) rfl z) hr
theorem Run.i2c {x : Int32} (w : Int32) (q : Nat) (hd : decode bytes pc = .ok (.i2c, 1)) (hr : Run p l e R s m args below meth c Z own nm bytes maxL ret n0 EE h k n (mkF m q ls (.int w :: st))) (hv : x.toUInt32.toUInt16.toUInt32.toInt32 = w := by rfl) (hq : q = pc + 1 := by rfl) : Run p l e R s m args below meth c Z own nm bytes maxL ret n0 EE h k n (mkF m pc ls (.int x :: st)) := by
  subst hq hv; exact Run.step (fun T t hx hb A z => XS.i2c A hx rfl (hb ▸ hd) rfl z) hr
theorem Run.i2s {x : Int32} (w : Int32) (q : Nat) (hd : decode bytes pc = .ok (.i2s, 1)) (hr : Run p l e R s m args below meth c Z own nm bytes maxL ret n0 EE h k n (mkF m q ls (.int w :: st))) (hv : x.toInt16.toInt32 = w := by rfl) (hq : q = pc + 1 := by rfl) : Run p l e R s m args below meth c Z own nm bytes maxL ret n0 EE h k n (mkF m pc ls (.int x :: st)) := by
  subst hq hv; exact Run.step (fun T t hx hb A z => XS.i2s A hx rfl (hb ▸ hd) rfl z) hr
theorem Run.i2l {x : Int32} (w : Int64) (q : Nat) (hd : decode bytes pc = .ok (.i2l, 1)) (hr : Run p l e R s m args below meth c Z own nm bytes maxL ret n0 EE h k n (mkF m q ls (.long w :: st))) (hv : x.toInt64 = w := by rfl) (hq : q = pc + 1 := by rfl) : Run p l e R s m args below meth c Z own nm bytes maxL ret n0 EE h k n (mkF m pc ls (.int x :: st)) := by
  subst hq hv; exact Run.step (fun T t hx hb A z => XS.i2l A hx rfl (hb ▸ hd) rfl z) hr
theorem Run.l2i {x : Int64} (w : Int32) (q : Nat) (hd : decode bytes pc = .ok (.l2i, 1)) (hr : Run p l e R s m args below meth c Z own nm bytes maxL ret n0 EE h k n (mkF m q ls (.int w :: st))) (hv : x.toInt32 = w := by rfl) (hq : q = pc + 1 := by rfl) : Run p l e R s m args below meth c Z own nm bytes maxL ret n0 EE h k n (mkF m pc ls (.long x :: st)) := by
  subst hq hv; exact Run.step (fun T t hx hb A z => XS.l2i A hx rfl (hb ▸ hd) rfl z) hr
theorem Run.ineg {x : Int32} (w : Int32) (q : Nat) (hd : decode bytes pc = .ok (.ineg, 1)) (hr : Run p l e R s m args below meth c Z own nm bytes maxL ret n0 EE h k n (mkF m q ls (.int w :: st))) (hv : -x = w := by rfl) (hq : q = pc + 1 := by rfl) : Run p l e R s m args below meth c Z own nm bytes maxL ret n0 EE h k n (mkF m pc ls (.int x :: st)) := by
  subst hq hv; exact Run.step (fun T t hx hb A z => XS.ineg A hx rfl (hb ▸ hd) rfl z) hr
theorem Run.lneg {x : Int64} (w : Int64) (q : Nat) (hd : decode bytes pc = .ok (.lneg, 1)) (hr : Run p l e R s m args below meth c Z own nm bytes maxL ret n0 EE h k n (mkF m q ls (.long w :: st))) (hv : -x = w := by rfl) (hq : q = pc + 1 := by rfl) : Run p l e R s m args below meth c Z own nm bytes maxL ret n0 EE h k n (mkF m pc ls (.long x :: st)) := by
  subst hq hv; exact Run.step (fun T t hx hb A z => XS.lneg A hx rfl (hb ▸ hd) rfl z) hr
theorem Run.iinc {i : Nat} {cst : Int} {x : Int32} (w : Int32) (q : Nat) (ls' : Array Slot) (hd : decode bytes pc = .ok (.iinc i cst, 3)) (hl : ls[i]? = some (.val (.int x))) (hr : Run p l e R s m args below meth c Z own nm bytes maxL ret n0 EE h k n (mkF m q ls' st)) (hv : x + Int32.ofInt cst = w := by first | rfl | decide) (hs : storeLocals ls i (.int w) = some ls' := by rfl) (hq : q = pc + 3 := by rfl) : Run p l e R s m args below meth c Z own nm bytes maxL ret n0 EE h k n (mkF m pc ls st) := by
  subst hq hv; exact Run.step (fun T t hx hb A z => XS.iinc A hx rfl (hb ▸ hd) hl hs z) hr
theorem Run.dup {x : Value} (q : Nat) (hd : decode bytes pc = .ok (.dup, 1)) (hr : Run p l e R s m args below meth c Z own nm bytes maxL ret n0 EE h k n (mkF m q ls (x :: x :: st))) (hc : x.category = 1 := by rfl) (hq : q = pc + 1 := by rfl) : Run p l e R s m args below meth c Z own nm bytes maxL ret n0 EE h k n (mkF m pc ls (x :: st)) := by
  subst hq; exact Run.step (fun T t hx hb A z => XS.dup A hx rfl (hb ▸ hd) rfl hc z) hr
theorem Run.pop {x : Value} (q : Nat) (hd : decode bytes pc = .ok (.pop, 1)) (hr : Run p l e R s m args below meth c Z own nm bytes maxL ret n0 EE h k n (mkF m q ls st)) (hc : x.category = 1 := by rfl) (hq : q = pc + 1 := by rfl) : Run p l e R s m args below meth c Z own nm bytes maxL ret n0 EE h k n (mkF m pc ls (x :: st)) := by
  subst hq; exact Run.step (fun T t hx hb A z => XS.pop A hx rfl (hb ▸ hd) rfl hc z) hr
theorem Run.dupX1 {x y : Value} (q : Nat) (hd : decode bytes pc = .ok (.dup_x1, 1)) (hr : Run p l e R s m args below meth c Z own nm bytes maxL ret n0 EE h k n (mkF m q ls (x :: y :: x :: st))) (hc : x.category = 1 := by rfl) (hc' : y.category = 1 := by rfl) (hq : q = pc + 1 := by rfl) : Run p l e R s m args below meth c Z own nm bytes maxL ret n0 EE h k n (mkF m pc ls (x :: y :: st)) := by
  subst hq; exact Run.step (fun T t hx hb A z => XS.dupX1 A hx rfl (hb ▸ hd) rfl hc hc' z) hr
theorem Run.goto {o : Int} (q : Nat) (hd : decode bytes pc = .ok (.goto o, 3)) (hr : Run p l e R s m args below meth c Z own nm bytes maxL ret n0 EE h k n (mkF m q ls st)) (ho : 0 ≤ (pc : Int) + o := by decide) (hq : ((pc : Int) + o).toNat = q := by rfl) : Run p l e R s m args below meth c Z own nm bytes maxL ret n0 EE h k n (mkF m pc ls st) :=
  Run.step (fun T t hx hb A z => XS.goto A hx rfl rfl (hb ▸ hd) ho hq z) hr
theorem Run.ltY {x y : Int32} {o : Int} (q : Nat) (hd : decode bytes pc = .ok (.if_icmp .lt o, 3)) (hc : x < y) (hr : Run p l e R s m args below meth c Z own nm bytes maxL ret n0 EE h k n (mkF m q ls st)) (ho : 0 ≤ (pc : Int) + o := by decide) (hq : ((pc : Int) + o).toNat = q := by rfl) : Run p l e R s m args below meth c Z own nm bytes maxL ret n0 EE h k n (mkF m pc ls (.int y :: .int x :: st)) :=
  Run.step (fun T t hx hb A z => XS.icmpYes A hx rfl rfl (hb ▸ hd) rfl (tlt hc).1 ho hq z) hr
theorem Run.ltN {x y : Int32} {o : Int} (q : Nat) (hd : decode bytes pc = .ok (.if_icmp .lt o, 3)) (hc : ¬ (x < y)) (hr : Run p l e R s m args below meth c Z own nm bytes maxL ret n0 EE h k n (mkF m q ls st)) (hq : q = pc + 3 := by rfl) : Run p l e R s m args below meth c Z own nm bytes maxL ret n0 EE h k n (mkF m pc ls (.int y :: .int x :: st)) := by
  subst hq; exact Run.step (fun T t hx hb A z => XS.icmpNo A hx rfl (hb ▸ hd) rfl (flt hc).1 z) hr
theorem Run.lt {x y : Int32} {o : Int} (q q' : Nat) (hd : decode bytes pc = .ok (.if_icmp .lt o, 3)) (hr : x < y → Run p l e R s m args below meth c Z own nm bytes maxL ret n0 EE h k n (mkF m q ls st)) (hr' : ¬ (x < y) → Run p l e R s m args below meth c Z own nm bytes maxL ret n0 EE h k n (mkF m q' ls st)) (ho : 0 ≤ (pc : Int) + o := by decide) (hq : ((pc : Int) + o).toNat = q := by rfl) (hq' : q' = pc + 3 := by rfl) : Run p l e R s m args below meth c Z own nm bytes maxL ret n0 EE h k n (mkF m pc ls (.int y :: .int x :: st)) := by
  by_cases hc : x < y
  · exact Run.ltY q hd hc (hr hc) ho hq
  · exact Run.ltN q' hd hc (hr' hc) hq'
theorem Run.lt0Y {x : Int32} {o : Int} (q : Nat) (hd : decode bytes pc = .ok (.ifCond .lt o, 3)) (hc : x < (0 : Int32)) (hr : Run p l e R s m args below meth c Z own nm bytes maxL ret n0 EE h k n (mkF m q ls st)) (ho : 0 ≤ (pc : Int) + o := by decide) (hq : ((pc : Int) + o).toNat = q := by rfl) : Run p l e R s m args below meth c Z own nm bytes maxL ret n0 EE h k n (mkF m pc ls (.int x :: st)) :=
  Run.step (fun T t hx hb A z => XS.ifYes A hx rfl rfl (hb ▸ hd) rfl ((if0 _ _).trans (tlt hc).1) ho hq z) hr
theorem Run.lt0N {x : Int32} {o : Int} (q : Nat) (hd : decode bytes pc = .ok (.ifCond .lt o, 3)) (hc : ¬ (x < (0 : Int32))) (hr : Run p l e R s m args below meth c Z own nm bytes maxL ret n0 EE h k n (mkF m q ls st)) (hq : q = pc + 3 := by rfl) : Run p l e R s m args below meth c Z own nm bytes maxL ret n0 EE h k n (mkF m pc ls (.int x :: st)) := by
  subst hq; exact Run.step (fun T t hx hb A z => XS.ifNo A hx rfl (hb ▸ hd) rfl ((if0 _ _).trans (flt hc).1) z) hr
theorem Run.lt0 {x : Int32} {o : Int} (q q' : Nat) (hd : decode bytes pc = .ok (.ifCond .lt o, 3)) (hr : x < (0 : Int32) → Run p l e R s m args below meth c Z own nm bytes maxL ret n0 EE h k n (mkF m q ls st)) (hr' : ¬ (x < (0 : Int32)) → Run p l e R s m args below meth c Z own nm bytes maxL ret n0 EE h k n (mkF m q' ls st)) (ho : 0 ≤ (pc : Int) + o := by decide) (hq : ((pc : Int) + o).toNat = q := by rfl) (hq' : q' = pc + 3 := by rfl) : Run p l e R s m args below meth c Z own nm bytes maxL ret n0 EE h k n (mkF m pc ls (.int x :: st)) := by
  by_cases hc : x < (0 : Int32)
  · exact Run.lt0Y q hd hc (hr hc) ho hq
  · exact Run.lt0N q' hd hc (hr' hc) hq'
theorem Run.geY {x y : Int32} {o : Int} (q : Nat) (hd : decode bytes pc = .ok (.if_icmp .ge o, 3)) (hc : ¬ (x < y)) (hr : Run p l e R s m args below meth c Z own nm bytes maxL ret n0 EE h k n (mkF m q ls st)) (ho : 0 ≤ (pc : Int) + o := by decide) (hq : ((pc : Int) + o).toNat = q := by rfl) : Run p l e R s m args below meth c Z own nm bytes maxL ret n0 EE h k n (mkF m pc ls (.int y :: .int x :: st)) :=
  Run.step (fun T t hx hb A z => XS.icmpYes A hx rfl rfl (hb ▸ hd) rfl (flt hc).2.1 ho hq z) hr
theorem Run.geN {x y : Int32} {o : Int} (q : Nat) (hd : decode bytes pc = .ok (.if_icmp .ge o, 3)) (hc : x < y) (hr : Run p l e R s m args below meth c Z own nm bytes maxL ret n0 EE h k n (mkF m q ls st)) (hq : q = pc + 3 := by rfl) : Run p l e R s m args below meth c Z own nm bytes maxL ret n0 EE h k n (mkF m pc ls (.int y :: .int x :: st)) := by
  subst hq; exact Run.step (fun T t hx hb A z => XS.icmpNo A hx rfl (hb ▸ hd) rfl (tlt hc).2.1 z) hr
theorem Run.ge {x y : Int32} {o : Int} (q q' : Nat) (hd : decode bytes pc = .ok (.if_icmp .ge o, 3)) (hr : ¬ (x < y) → Run p l e R s m args below meth c Z own nm bytes maxL ret n0 EE h k n (mkF m q ls st)) (hr' : x < y → Run p l e R s m args below meth c Z own nm bytes maxL ret n0 EE h k n (mkF m q' ls st)) (ho : 0 ≤ (pc : Int) + o := by decide) (hq : ((pc : Int) + o).toNat = q := by rfl) (hq' : q' = pc + 3 := by rfl) : Run p l e R s m args below meth c Z own nm bytes maxL ret n0 EE h k n (mkF m pc ls (.int y :: .int x :: st)) := by
  by_cases hc : x < y
  · exact Run.geN q' hd hc (hr' hc) hq'
  · exact Run.geY q hd hc (hr hc) ho hq
theorem Run.ge0Y {x : Int32} {o : Int} (q : Nat) (hd : decode bytes pc = .ok (.ifCond .ge o, 3)) (hc : ¬ (x < (0 : Int32))) (hr : Run p l e R s m args below meth c Z own nm bytes maxL ret n0 EE h k n (mkF m q ls st)) (ho : 0 ≤ (pc : Int) + o := by decide) (hq : ((pc : Int) + o).toNat = q := by rfl) : Run p l e R s m args below meth c Z own nm bytes maxL ret n0 EE h k n (mkF m pc ls (.int x :: st)) :=
  Run.step (fun T t hx hb A z => XS.ifYes A hx rfl rfl (hb ▸ hd) rfl ((if0 _ _).trans (flt hc).2.1) ho hq z) hr
theorem Run.ge0N {x : Int32} {o : Int} (q : Nat) (hd : decode bytes pc = .ok (.ifCond .ge o, 3)) (hc : x < (0 : Int32)) (hr : Run p l e R s m args below meth c Z own nm bytes maxL ret n0 EE h k n (mkF m q ls st)) (hq : q = pc + 3 := by rfl) : Run p l e R s m args below meth c Z own nm bytes maxL ret n0 EE h k n (mkF m pc ls (.int x :: st)) := by
  subst hq; exact Run.step (fun T t hx hb A z => XS.ifNo A hx rfl (hb ▸ hd) rfl ((if0 _ _).trans (tlt hc).2.1) z) hr
theorem Run.ge0 {x : Int32} {o : Int} (q q' : Nat) (hd : decode bytes pc = .ok (.ifCond .ge o, 3)) (hr : ¬ (x < (0 : Int32)) → Run p l e R s m args below meth c Z own nm bytes maxL ret n0 EE h k n (mkF m q ls st)) (hr' : x < (0 : Int32) → Run p l e R s m args below meth c Z own nm bytes maxL ret n0 EE h k n (mkF m q' ls st)) (ho : 0 ≤ (pc : Int) + o := by decide) (hq : ((pc : Int) + o).toNat = q := by rfl) (hq' : q' = pc + 3 := by rfl) : Run p l e R s m args below meth c Z own nm bytes maxL ret n0 EE h k n (mkF m pc ls (.int x :: st)) := by
  by_cases hc : x < (0 : Int32)
  · exact Run.ge0N q' hd hc (hr' hc) hq'
  · exact Run.ge0Y q hd hc (hr hc) ho hq
theorem Run.gtY {x y : Int32} {o : Int} (q : Nat) (hd : decode bytes pc = .ok (.if_icmp .gt o, 3)) (hc : y < x) (hr : Run p l e R s m args below meth c Z own nm bytes maxL ret n0 EE h k n (mkF m q ls st)) (ho : 0 ≤ (pc : Int) + o := by decide) (hq : ((pc : Int) + o).toNat = q := by rfl) : Run p l e R s m args below meth c Z own nm bytes maxL ret n0 EE h k n (mkF m pc ls (.int y :: .int x :: st)) :=
  Run.step (fun T t hx hb A z => XS.icmpYes A hx rfl rfl (hb ▸ hd) rfl (tlt hc).2.2.1 ho hq z) hr
theorem Run.gtN {x y : Int32} {o : Int} (q : Nat) (hd : decode bytes pc = .ok (.if_icmp .gt o, 3)) (hc : ¬ (y < x)) (hr : Run p l e R s m args below meth c Z own nm bytes maxL ret n0 EE h k n (mkF m q ls st)) (hq : q = pc + 3 := by rfl) : Run p l e R s m args below meth c Z own nm bytes maxL ret n0 EE h k n (mkF m pc ls (.int y :: .int x :: st)) := by
  subst hq; exact Run.step (fun T t hx hb A z => XS.icmpNo A hx rfl (hb ▸ hd) rfl (flt hc).2.2.1 z) hr
theorem Run.gt {x y : Int32} {o : Int} (q q' : Nat) (hd : decode bytes pc = .ok (.if_icmp .gt o, 3)) (hr : y < x → Run p l e R s m args below meth c Z own nm bytes maxL ret n0 EE h k n (mkF m q ls st)) (hr' : ¬ (y < x) → Run p l e R s m args below meth c Z own nm bytes maxL ret n0 EE h k n (mkF m q' ls st)) (ho : 0 ≤ (pc : Int) + o := by decide) (hq : ((pc : Int) + o).toNat = q := by rfl) (hq' : q' = pc + 3 := by rfl) : Run p l e R s m args below meth c Z own nm bytes maxL ret n0 EE h k n (mkF m pc ls (.int y :: .int x :: st)) := by
  by_cases hc : y < x
  · exact Run.gtY q hd hc (hr hc) ho hq
  · exact Run.gtN q' hd hc (hr' hc) hq'
theorem Run.gt0Y {x : Int32} {o : Int} (q : Nat) (hd : decode bytes pc = .ok (.ifCond .gt o, 3)) (hc : (0 : Int32) < x) (hr : Run p l e R s m args below meth c Z own nm bytes maxL ret n0 EE h k n (mkF m q ls st)) (ho : 0 ≤ (pc : Int) + o := by decide) (hq : ((pc : Int) + o).toNat = q := by rfl) : Run p l e R s m args below meth c Z own nm bytes maxL ret n0 EE h k n (mkF m pc ls (.int x :: st)) :=
  Run.step (fun T t hx hb A z => XS.ifYes A hx rfl rfl (hb ▸ hd) rfl ((if0 _ _).trans (tlt hc).2.2.1) ho hq z) hr
theorem Run.gt0N {x : Int32} {o : Int} (q : Nat) (hd : decode bytes pc = .ok (.ifCond .gt o, 3)) (hc : ¬ ((0 : Int32) < x)) (hr : Run p l e R s m args below meth c Z own nm bytes maxL ret n0 EE h k n (mkF m q ls st)) (hq : q = pc + 3 := by rfl) : Run p l e R s m args below meth c Z own nm bytes maxL ret n0 EE h k n (mkF m pc ls (.int x :: st)) := by
  subst hq; exact Run.step (fun T t hx hb A z => XS.ifNo A hx rfl (hb ▸ hd) rfl ((if0 _ _).trans (flt hc).2.2.1) z) hr
theorem Run.gt0 {x : Int32} {o : Int} (q q' : Nat) (hd : decode bytes pc = .ok (.ifCond .gt o, 3)) (hr : (0 : Int32) < x → Run p l e R s m args below meth c Z own nm bytes maxL ret n0 EE h k n (mkF m q ls st)) (hr' : ¬ ((0 : Int32) < x) → Run p l e R s m args below meth c Z own nm bytes maxL ret n0 EE h k n (mkF m q' ls st)) (ho : 0 ≤ (pc : Int) + o := by decide) (hq : ((pc : Int) + o).toNat = q := by rfl) (hq' : q' = pc + 3 := by rfl) : Run p l e R s m args below meth c Z own nm bytes maxL ret n0 EE h k n (mkF m pc ls (.int x :: st)) := by
  by_cases hc : (0 : Int32) < x
  · exact Run.gt0Y q hd hc (hr hc) ho hq
  · exact Run.gt0N q' hd hc (hr' hc) hq'
theorem Run.leY {x y : Int32} {o : Int} (q : Nat) (hd : decode bytes pc = .ok (.if_icmp .le o, 3)) (hc : ¬ (y < x)) (hr : Run p l e R s m args below meth c Z own nm bytes maxL ret n0 EE h k n (mkF m q ls st)) (ho : 0 ≤ (pc : Int) + o := by decide) (hq : ((pc : Int) + o).toNat = q := by rfl) : Run p l e R s m args below meth c Z own nm bytes maxL ret n0 EE h k n (mkF m pc ls (.int y :: .int x :: st)) :=
  Run.step (fun T t hx hb A z => XS.icmpYes A hx rfl rfl (hb ▸ hd) rfl (flt hc).2.2.2 ho hq z) hr
theorem Run.leN {x y : Int32} {o : Int} (q : Nat) (hd : decode bytes pc = .ok (.if_icmp .le o, 3)) (hc : y < x) (hr : Run p l e R s m args below meth c Z own nm bytes maxL ret n0 EE h k n (mkF m q ls st)) (hq : q = pc + 3 := by rfl) : Run p l e R s m args below meth c Z own nm bytes maxL ret n0 EE h k n (mkF m pc ls (.int y :: .int x :: st)) := by
  subst hq; exact Run.step (fun T t hx hb A z => XS.icmpNo A hx rfl (hb ▸ hd) rfl (tlt hc).2.2.2 z) hr
theorem Run.le {x y : Int32} {o : Int} (q q' : Nat) (hd : decode bytes pc = .ok (.if_icmp .le o, 3)) (hr : ¬ (y < x) → Run p l e R s m args below meth c Z own nm bytes maxL ret n0 EE h k n (mkF m q ls st)) (hr' : y < x → Run p l e R s m args below meth c Z own nm bytes maxL ret n0 EE h k n (mkF m q' ls st)) (ho : 0 ≤ (pc : Int) + o := by decide) (hq : ((pc : Int) + o).toNat = q := by rfl) (hq' : q' = pc + 3 := by rfl) : Run p l e R s m args below meth c Z own nm bytes maxL ret n0 EE h k n (mkF m pc ls (.int y :: .int x :: st)) := by
  by_cases hc : y < x
  · exact Run.leN q' hd hc (hr' hc) hq'
  · exact Run.leY q hd hc (hr hc) ho hq
theorem Run.le0Y {x : Int32} {o : Int} (q : Nat) (hd : decode bytes pc = .ok (.ifCond .le o, 3)) (hc : ¬ ((0 : Int32) < x)) (hr : Run p l e R s m args below meth c Z own nm bytes maxL ret n0 EE h k n (mkF m q ls st)) (ho : 0 ≤ (pc : Int) + o := by decide) (hq : ((pc : Int) + o).toNat = q := by rfl) : Run p l e R s m args below meth c Z own nm bytes maxL ret n0 EE h k n (mkF m pc ls (.int x :: st)) :=
  Run.step (fun T t hx hb A z => XS.ifYes A hx rfl rfl (hb ▸ hd) rfl ((if0 _ _).trans (flt hc).2.2.2) ho hq z) hr
theorem Run.le0N {x : Int32} {o : Int} (q : Nat) (hd : decode bytes pc = .ok (.ifCond .le o, 3)) (hc : (0 : Int32) < x) (hr : Run p l e R s m args below meth c Z own nm bytes maxL ret n0 EE h k n (mkF m q ls st)) (hq : q = pc + 3 := by rfl) : Run p l e R s m args below meth c Z own nm bytes maxL ret n0 EE h k n (mkF m pc ls (.int x :: st)) := by
  subst hq; exact Run.step (fun T t hx hb A z => XS.ifNo A hx rfl (hb ▸ hd) rfl ((if0 _ _).trans (tlt hc).2.2.2) z) hr
theorem Run.le0 {x : Int32} {o : Int} (q q' : Nat) (hd : decode bytes pc = .ok (.ifCond .le o, 3)) (hr : ¬ ((0 : Int32) < x) → Run p l e R s m args below meth c Z own nm bytes maxL ret n0 EE h k n (mkF m q ls st)) (hr' : (0 : Int32) < x → Run p l e R s m args below meth c Z own nm bytes maxL ret n0 EE h k n (mkF m q' ls st)) (ho : 0 ≤ (pc : Int) + o := by decide) (hq : ((pc : Int) + o).toNat = q := by rfl) (hq' : q' = pc + 3 := by rfl) : Run p l e R s m args below meth c Z own nm bytes maxL ret n0 EE h k n (mkF m pc ls (.int x :: st)) := by
  by_cases hc : (0 : Int32) < x
  · exact Run.le0N q' hd hc (hr' hc) hq'
  · exact Run.le0Y q hd hc (hr hc) ho hq
theorem Run.eqY {x y : Int32} {o : Int} (q : Nat) (hd : decode bytes pc = .ok (.if_icmp .eq o, 3)) (hc : x = y) (hr : Run p l e R s m args below meth c Z own nm bytes maxL ret n0 EE h k n (mkF m q ls st)) (ho : 0 ≤ (pc : Int) + o := by decide) (hq : ((pc : Int) + o).toNat = q := by rfl) : Run p l e R s m args below meth c Z own nm bytes maxL ret n0 EE h k n (mkF m pc ls (.int y :: .int x :: st)) :=
  Run.step (fun T t hx hb A z => XS.icmpYes A hx rfl rfl (hb ▸ hd) rfl (teq hc).1 ho hq z) hr
theorem Run.eqN {x y : Int32} {o : Int} (q : Nat) (hd : decode bytes pc = .ok (.if_icmp .eq o, 3)) (hc : ¬ (x = y)) (hr : Run p l e R s m args below meth c Z own nm bytes maxL ret n0 EE h k n (mkF m q ls st)) (hq : q = pc + 3 := by rfl) : Run p l e R s m args below meth c Z own nm bytes maxL ret n0 EE h k n (mkF m pc ls (.int y :: .int x :: st)) := by
  subst hq; exact Run.step (fun T t hx hb A z => XS.icmpNo A hx rfl (hb ▸ hd) rfl (feq hc).1 z) hr
theorem Run.eq {x y : Int32} {o : Int} (q q' : Nat) (hd : decode bytes pc = .ok (.if_icmp .eq o, 3)) (hr : x = y → Run p l e R s m args below meth c Z own nm bytes maxL ret n0 EE h k n (mkF m q ls st)) (hr' : ¬ (x = y) → Run p l e R s m args below meth c Z own nm bytes maxL ret n0 EE h k n (mkF m q' ls st)) (ho : 0 ≤ (pc : Int) + o := by decide) (hq : ((pc : Int) + o).toNat = q := by rfl) (hq' : q' = pc + 3 := by rfl) : Run p l e R s m args below meth c Z own nm bytes maxL ret n0 EE h k n (mkF m pc ls (.int y :: .int x :: st)) := by
  by_cases hc : x = y
  · exact Run.eqY q hd hc (hr hc) ho hq
  · exact Run.eqN q' hd hc (hr' hc) hq'
theorem Run.eq0Y {x : Int32} {o : Int} (q : Nat) (hd : decode bytes pc = .ok (.ifCond .eq o, 3)) (hc : x = (0 : Int32)) (hr : Run p l e R s m args below meth c Z own nm bytes maxL ret n0 EE h k n (mkF m q ls st)) (ho : 0 ≤ (pc : Int) + o := by decide) (hq : ((pc : Int) + o).toNat = q := by rfl) : Run p l e R s m args below meth c Z own nm bytes maxL ret n0 EE h k n (mkF m pc ls (.int x :: st)) :=
  Run.step (fun T t hx hb A z => XS.ifYes A hx rfl rfl (hb ▸ hd) rfl ((if0 _ _).trans (teq hc).1) ho hq z) hr
theorem Run.eq0N {x : Int32} {o : Int} (q : Nat) (hd : decode bytes pc = .ok (.ifCond .eq o, 3)) (hc : ¬ (x = (0 : Int32))) (hr : Run p l e R s m args below meth c Z own nm bytes maxL ret n0 EE h k n (mkF m q ls st)) (hq : q = pc + 3 := by rfl) : Run p l e R s m args below meth c Z own nm bytes maxL ret n0 EE h k n (mkF m pc ls (.int x :: st)) := by
  subst hq; exact Run.step (fun T t hx hb A z => XS.ifNo A hx rfl (hb ▸ hd) rfl ((if0 _ _).trans (feq hc).1) z) hr
theorem Run.eq0 {x : Int32} {o : Int} (q q' : Nat) (hd : decode bytes pc = .ok (.ifCond .eq o, 3)) (hr : x = (0 : Int32) → Run p l e R s m args below meth c Z own nm bytes maxL ret n0 EE h k n (mkF m q ls st)) (hr' : ¬ (x = (0 : Int32)) → Run p l e R s m args below meth c Z own nm bytes maxL ret n0 EE h k n (mkF m q' ls st)) (ho : 0 ≤ (pc : Int) + o := by decide) (hq : ((pc : Int) + o).toNat = q := by rfl) (hq' : q' = pc + 3 := by rfl) : Run p l e R s m args below meth c Z own nm bytes maxL ret n0 EE h k n (mkF m pc ls (.int x :: st)) := by
  by_cases hc : x = (0 : Int32)
  · exact Run.eq0Y q hd hc (hr hc) ho hq
  · exact Run.eq0N q' hd hc (hr' hc) hq'
theorem Run.neY {x y : Int32} {o : Int} (q : Nat) (hd : decode bytes pc = .ok (.if_icmp .ne o, 3)) (hc : ¬ (x = y)) (hr : Run p l e R s m args below meth c Z own nm bytes maxL ret n0 EE h k n (mkF m q ls st)) (ho : 0 ≤ (pc : Int) + o := by decide) (hq : ((pc : Int) + o).toNat = q := by rfl) : Run p l e R s m args below meth c Z own nm bytes maxL ret n0 EE h k n (mkF m pc ls (.int y :: .int x :: st)) :=
  Run.step (fun T t hx hb A z => XS.icmpYes A hx rfl rfl (hb ▸ hd) rfl (feq hc).2 ho hq z) hr
theorem Run.neN {x y : Int32} {o : Int} (q : Nat) (hd : decode bytes pc = .ok (.if_icmp .ne o, 3)) (hc : x = y) (hr : Run p l e R s m args below meth c Z own nm bytes maxL ret n0 EE h k n (mkF m q ls st)) (hq : q = pc + 3 := by rfl) : Run p l e R s m args below meth c Z own nm bytes maxL ret n0 EE h k n (mkF m pc ls (.int y :: .int x :: st)) := by
  subst hq; exact Run.step (fun T t hx hb A z => XS.icmpNo A hx rfl (hb ▸ hd) rfl (teq hc).2 z) hr
theorem Run.ne {x y : Int32} {o : Int} (q q' : Nat) (hd : decode bytes pc = .ok (.if_icmp .ne o, 3)) (hr : ¬ (x = y) → Run p l e R s m args below meth c Z own nm bytes maxL ret n0 EE h k n (mkF m q ls st)) (hr' : x = y → Run p l e R s m args below meth c Z own nm bytes maxL ret n0 EE h k n (mkF m q' ls st)) (ho : 0 ≤ (pc : Int) + o := by decide) (hq : ((pc : Int) + o).toNat = q := by rfl) (hq' : q' = pc + 3 := by rfl) : Run p l e R s m args below meth c Z own nm bytes maxL ret n0 EE h k n (mkF m pc ls (.int y :: .int x :: st)) := by
  by_cases hc : x = y
  · exact Run.neN q' hd hc (hr' hc) hq'
  · exact Run.neY q hd hc (hr hc) ho hq
theorem Run.ne0Y {x : Int32} {o : Int} (q : Nat) (hd : decode bytes pc = .ok (.ifCond .ne o, 3)) (hc : ¬ (x = (0 : Int32))) (hr : Run p l e R s m args below meth c Z own nm bytes maxL ret n0 EE h k n (mkF m q ls st)) (ho : 0 ≤ (pc : Int) + o := by decide) (hq : ((pc : Int) + o).toNat = q := by rfl) : Run p l e R s m args below meth c Z own nm bytes maxL ret n0 EE h k n (mkF m pc ls (.int x :: st)) :=
  Run.step (fun T t hx hb A z => XS.ifYes A hx rfl rfl (hb ▸ hd) rfl ((if0 _ _).trans (feq hc).2) ho hq z) hr
theorem Run.ne0N {x : Int32} {o : Int} (q : Nat) (hd : decode bytes pc = .ok (.ifCond .ne o, 3)) (hc : x = (0 : Int32)) (hr : Run p l e R s m args below meth c Z own nm bytes maxL ret n0 EE h k n (mkF m q ls st)) (hq : q = pc + 3 := by rfl) : Run p l e R s m args below meth c Z own nm bytes maxL ret n0 EE h k n (mkF m pc ls (.int x :: st)) := by
  subst hq; exact Run.step (fun T t hx hb A z => XS.ifNo A hx rfl (hb ▸ hd) rfl ((if0 _ _).trans (teq hc).2) z) hr
theorem Run.ne0 {x : Int32} {o : Int} (q q' : Nat) (hd : decode bytes pc = .ok (.ifCond .ne o, 3)) (hr : ¬ (x = (0 : Int32)) → Run p l e R s m args below meth c Z own nm bytes maxL ret n0 EE h k n (mkF m q ls st)) (hr' : x = (0 : Int32) → Run p l e R s m args below meth c Z own nm bytes maxL ret n0 EE h k n (mkF m q' ls st)) (ho : 0 ≤ (pc : Int) + o := by decide) (hq : ((pc : Int) + o).toNat = q := by rfl) (hq' : q' = pc + 3 := by rfl) : Run p l e R s m args below meth c Z own nm bytes maxL ret n0 EE h k n (mkF m pc ls (.int x :: st)) := by
  by_cases hc : x = (0 : Int32)
  · exact Run.ne0N q' hd hc (hr' hc) hq'
  · exact Run.ne0Y q hd hc (hr hc) ho hq
theorem Run.lltY {x y : Int64} {o : Int} (q : Nat) (hd1 : decode bytes pc = .ok (.lcmp, 1)) (hd : decode bytes (pc + 1) = .ok (.ifCond .lt o, 3)) (hc : x < y) (hr : Run p l e R s m args below meth c Z own nm bytes maxL ret n0 EE h k n (mkF m q ls st)) (ho : 0 ≤ ((pc + 1 : Nat) : Int) + o := by decide) (hq : (((pc + 1 : Nat) : Int) + o).toNat = q := by rfl) : Run p l e R s m args below meth c Z own nm bytes maxL ret n0 EE h k n (mkF m pc ls (.long y :: .long x :: st)) :=
  Run.step (fun T t hx hb A z => XS.lcmp A hx rfl (hb ▸ hd1) rfl (XS.ifYes (x := lcmpW x y) (rest := st) (g := mkF m (pc + 1) ls (.int (lcmpW x y) :: st)) A hx rfl rfl (hb ▸ hd) rfl ((if0 _ _).trans (tlt ((lw_lt x y).mpr hc)).1) ho hq z)) hr
theorem Run.lltN {x y : Int64} {o : Int} (q : Nat) (hd1 : decode bytes pc = .ok (.lcmp, 1)) (hd : decode bytes (pc + 1) = .ok (.ifCond .lt o, 3)) (hc : ¬ (x < y)) (hr : Run p l e R s m args below meth c Z own nm bytes maxL ret n0 EE h k n (mkF m q ls st)) (hq : q = pc + 4 := by rfl) : Run p l e R s m args below meth c Z own nm bytes maxL ret n0 EE h k n (mkF m pc ls (.long y :: .long x :: st)) := by
  subst hq; exact Run.step (fun T t hx hb A z => XS.lcmp A hx rfl (hb ▸ hd1) rfl (XS.ifNo (x := lcmpW x y) (rest := st) (g := mkF m (pc + 1) ls (.int (lcmpW x y) :: st)) A hx rfl (hb ▸ hd) rfl ((if0 _ _).trans (flt (fun z => hc ((lw_lt x y).mp z))).1) z)) hr
theorem Run.llt {x y : Int64} {o : Int} (q q' : Nat) (hd1 : decode bytes pc = .ok (.lcmp, 1)) (hd : decode bytes (pc + 1) = .ok (.ifCond .lt o, 3)) (hr : x < y → Run p l e R s m args below meth c Z own nm bytes maxL ret n0 EE h k n (mkF m q ls st)) (hr' : ¬ (x < y) → Run p l e R s m args below meth c Z own nm bytes maxL ret n0 EE h k n (mkF m q' ls st)) (ho : 0 ≤ ((pc + 1 : Nat) : Int) + o := by decide) (hq : (((pc + 1 : Nat) : Int) + o).toNat = q := by rfl) (hq' : q' = pc + 4 := by rfl) : Run p l e R s m args below meth c Z own nm bytes maxL ret n0 EE h k n (mkF m pc ls (.long y :: .long x :: st)) := by
  by_cases hc : x < y
  · exact Run.lltY q hd1 hd hc (hr hc) ho hq
  · exact Run.lltN q' hd1 hd hc (hr' hc) hq'
theorem Run.lgeY {x y : Int64} {o : Int} (q : Nat) (hd1 : decode bytes pc = .ok (.lcmp, 1)) (hd : decode bytes (pc + 1) = .ok (.ifCond .ge o, 3)) (hc : ¬ (x < y)) (hr : Run p l e R s m args below meth c Z own nm bytes maxL ret n0 EE h k n (mkF m q ls st)) (ho : 0 ≤ ((pc + 1 : Nat) : Int) + o := by decide) (hq : (((pc + 1 : Nat) : Int) + o).toNat = q := by rfl) : Run p l e R s m args below meth c Z own nm bytes maxL ret n0 EE h k n (mkF m pc ls (.long y :: .long x :: st)) :=
  Run.step (fun T t hx hb A z => XS.lcmp A hx rfl (hb ▸ hd1) rfl (XS.ifYes (x := lcmpW x y) (rest := st) (g := mkF m (pc + 1) ls (.int (lcmpW x y) :: st)) A hx rfl rfl (hb ▸ hd) rfl ((if0 _ _).trans (flt (fun z => hc ((lw_lt x y).mp z))).2.1) ho hq z)) hr
theorem Run.lgeN {x y : Int64} {o : Int} (q : Nat) (hd1 : decode bytes pc = .ok (.lcmp, 1)) (hd : decode bytes (pc + 1) = .ok (.ifCond .ge o, 3)) (hc : x < y) (hr : Run p l e R s m args below meth c Z own nm bytes maxL ret n0 EE h k n (mkF m q ls st)) (hq : q = pc + 4 := by rfl) : Run p l e R s m args below meth c Z own nm bytes maxL ret n0 EE h k n (mkF m pc ls (.long y :: .long x :: st)) := by
  subst hq; exact Run.step (fun T t hx hb A z => XS.lcmp A hx rfl (hb ▸ hd1) rfl (XS.ifNo (x := lcmpW x y) (rest := st) (g := mkF m (pc + 1) ls (.int (lcmpW x y) :: st)) A hx rfl (hb ▸ hd) rfl ((if0 _ _).trans (tlt ((lw_lt x y).mpr hc)).2.1) z)) hr
theorem Run.lge {x y : Int64} {o : Int} (q q' : Nat) (hd1 : decode bytes pc = .ok (.lcmp, 1)) (hd : decode bytes (pc + 1) = .ok (.ifCond .ge o, 3)) (hr : ¬ (x < y) → Run p l e R s m args below meth c Z own nm bytes maxL ret n0 EE h k n (mkF m q ls st)) (hr' : x < y → Run p l e R s m args below meth c Z own nm bytes maxL ret n0 EE h k n (mkF m q' ls st)) (ho : 0 ≤ ((pc + 1 : Nat) : Int) + o := by decide) (hq : (((pc + 1 : Nat) : Int) + o).toNat = q := by rfl) (hq' : q' = pc + 4 := by rfl) : Run p l e R s m args below meth c Z own nm bytes maxL ret n0 EE h k n (mkF m pc ls (.long y :: .long x :: st)) := by
  by_cases hc : x < y
  · exact Run.lgeN q' hd1 hd hc (hr' hc) hq'
  · exact Run.lgeY q hd1 hd hc (hr hc) ho hq
theorem Run.lgtY {x y : Int64} {o : Int} (q : Nat) (hd1 : decode bytes pc = .ok (.lcmp, 1)) (hd : decode bytes (pc + 1) = .ok (.ifCond .gt o, 3)) (hc : y < x) (hr : Run p l e R s m args below meth c Z own nm bytes maxL ret n0 EE h k n (mkF m q ls st)) (ho : 0 ≤ ((pc + 1 : Nat) : Int) + o := by decide) (hq : (((pc + 1 : Nat) : Int) + o).toNat = q := by rfl) : Run p l e R s m args below meth c Z own nm bytes maxL ret n0 EE h k n (mkF m pc ls (.long y :: .long x :: st)) :=
  Run.step (fun T t hx hb A z => XS.lcmp A hx rfl (hb ▸ hd1) rfl (XS.ifYes (x := lcmpW x y) (rest := st) (g := mkF m (pc + 1) ls (.int (lcmpW x y) :: st)) A hx rfl rfl (hb ▸ hd) rfl ((if0 _ _).trans (tlt ((lw_gt x y).mpr hc)).2.2.1) ho hq z)) hr
theorem Run.lgtN {x y : Int64} {o : Int} (q : Nat) (hd1 : decode bytes pc = .ok (.lcmp, 1)) (hd : decode bytes (pc + 1) = .ok (.ifCond .gt o, 3)) (hc : ¬ (y < x)) (hr : Run p l e R s m args below meth c Z own nm bytes maxL ret n0 EE h k n (mkF m q ls st)) (hq : q = pc + 4 := by rfl) : Run p l e R s m args below meth c Z own nm bytes maxL ret n0 EE h k n (mkF m pc ls (.long y :: .long x :: st)) := by
  subst hq; exact Run.step (fun T t hx hb A z => XS.lcmp A hx rfl (hb ▸ hd1) rfl (XS.ifNo (x := lcmpW x y) (rest := st) (g := mkF m (pc + 1) ls (.int (lcmpW x y) :: st)) A hx rfl (hb ▸ hd) rfl ((if0 _ _).trans (flt (fun z => hc ((lw_gt x y).mp z))).2.2.1) z)) hr
theorem Run.lgt {x y : Int64} {o : Int} (q q' : Nat) (hd1 : decode bytes pc = .ok (.lcmp, 1)) (hd : decode bytes (pc + 1) = .ok (.ifCond .gt o, 3)) (hr : y < x → Run p l e R s m args below meth c Z own nm bytes maxL ret n0 EE h k n (mkF m q ls st)) (hr' : ¬ (y < x) → Run p l e R s m args below meth c Z own nm bytes maxL ret n0 EE h k n (mkF m q' ls st)) (ho : 0 ≤ ((pc + 1 : Nat) : Int) + o := by decide) (hq : (((pc + 1 : Nat) : Int) + o).toNat = q := by rfl) (hq' : q' = pc + 4 := by rfl) : Run p l e R s m args below meth c Z own nm bytes maxL ret n0 EE h k n (mkF m pc ls (.long y :: .long x :: st)) := by
  by_cases hc : y < x
  · exact Run.lgtY q hd1 hd hc (hr hc) ho hq
  · exact Run.lgtN q' hd1 hd hc (hr' hc) hq'
theorem Run.lleY {x y : Int64} {o : Int} (q : Nat) (hd1 : decode bytes pc = .ok (.lcmp, 1)) (hd : decode bytes (pc + 1) = .ok (.ifCond .le o, 3)) (hc : ¬ (y < x)) (hr : Run p l e R s m args below meth c Z own nm bytes maxL ret n0 EE h k n (mkF m q ls st)) (ho : 0 ≤ ((pc + 1 : Nat) : Int) + o := by decide) (hq : (((pc + 1 : Nat) : Int) + o).toNat = q := by rfl) : Run p l e R s m args below meth c Z own nm bytes maxL ret n0 EE h k n (mkF m pc ls (.long y :: .long x :: st)) :=
  Run.step (fun T t hx hb A z => XS.lcmp A hx rfl (hb ▸ hd1) rfl (XS.ifYes (x := lcmpW x y) (rest := st) (g := mkF m (pc + 1) ls (.int (lcmpW x y) :: st)) A hx rfl rfl (hb ▸ hd) rfl ((if0 _ _).trans (flt (fun z => hc ((lw_gt x y).mp z))).2.2.2) ho hq z)) hr
theorem Run.lleN {x y : Int64} {o : Int} (q : Nat) (hd1 : decode bytes pc = .ok (.lcmp, 1)) (hd : decode bytes (pc + 1) = .ok (.ifCond .le o, 3)) (hc : y < x) (hr : Run p l e R s m args below meth c Z own nm bytes maxL ret n0 EE h k n (mkF m q ls st)) (hq : q = pc + 4 := by rfl) : Run p l e R s m args below meth c Z own nm bytes maxL ret n0 EE h k n (mkF m pc ls (.long y :: .long x :: st)) := by
  subst hq; exact Run.step (fun T t hx hb A z => XS.lcmp A hx rfl (hb ▸ hd1) rfl (XS.ifNo (x := lcmpW x y) (rest := st) (g := mkF m (pc + 1) ls (.int (lcmpW x y) :: st)) A hx rfl (hb ▸ hd) rfl ((if0 _ _).trans (tlt ((lw_gt x y).mpr hc)).2.2.2) z)) hr
theorem Run.lle {x y : Int64} {o : Int} (q q' : Nat) (hd1 : decode bytes pc = .ok (.lcmp, 1)) (hd : decode bytes (pc + 1) = .ok (.ifCond .le o, 3)) (hr : ¬ (y < x) → Run p l e R s m args below meth c Z own nm bytes maxL ret n0 EE h k n (mkF m q ls st)) (hr' : y < x → Run p l e R s m args below meth c Z own nm bytes maxL ret n0 EE h k n (mkF m q' ls st)) (ho : 0 ≤ ((pc + 1 : Nat) : Int) + o := by decide) (hq : (((pc + 1 : Nat) : Int) + o).toNat = q := by rfl) (hq' : q' = pc + 4 := by rfl) : Run p l e R s m args below meth c Z own nm bytes maxL ret n0 EE h k n (mkF m pc ls (.long y :: .long x :: st)) := by
  by_cases hc : y < x
  · exact Run.lleN q' hd1 hd hc (hr' hc) hq'
  · exact Run.lleY q hd1 hd hc (hr hc) ho hq
theorem Run.leqY {x y : Int64} {o : Int} (q : Nat) (hd1 : decode bytes pc = .ok (.lcmp, 1)) (hd : decode bytes (pc + 1) = .ok (.ifCond .eq o, 3)) (hc : x = y) (hr : Run p l e R s m args below meth c Z own nm bytes maxL ret n0 EE h k n (mkF m q ls st)) (ho : 0 ≤ ((pc + 1 : Nat) : Int) + o := by decide) (hq : (((pc + 1 : Nat) : Int) + o).toNat = q := by rfl) : Run p l e R s m args below meth c Z own nm bytes maxL ret n0 EE h k n (mkF m pc ls (.long y :: .long x :: st)) :=
  Run.step (fun T t hx hb A z => XS.lcmp A hx rfl (hb ▸ hd1) rfl (XS.ifYes (x := lcmpW x y) (rest := st) (g := mkF m (pc + 1) ls (.int (lcmpW x y) :: st)) A hx rfl rfl (hb ▸ hd) rfl ((if0 _ _).trans (teq ((lw_eq x y).mpr hc)).1) ho hq z)) hr
theorem Run.leqN {x y : Int64} {o : Int} (q : Nat) (hd1 : decode bytes pc = .ok (.lcmp, 1)) (hd : decode bytes (pc + 1) = .ok (.ifCond .eq o, 3)) (hc : ¬ (x = y)) (hr : Run p l e R s m args below meth c Z own nm bytes maxL ret n0 EE h k n (mkF m q ls st)) (hq : q = pc + 4 := by rfl) : Run p l e R s m args below meth c Z own nm bytes maxL ret n0 EE h k n (mkF m pc ls (.long y :: .long x :: st)) := by
  subst hq; exact Run.step (fun T t hx hb A z => XS.lcmp A hx rfl (hb ▸ hd1) rfl (XS.ifNo (x := lcmpW x y) (rest := st) (g := mkF m (pc + 1) ls (.int (lcmpW x y) :: st)) A hx rfl (hb ▸ hd) rfl ((if0 _ _).trans (feq (fun z => hc ((lw_eq x y).mp z))).1) z)) hr
theorem Run.leq {x y : Int64} {o : Int} (q q' : Nat) (hd1 : decode bytes pc = .ok (.lcmp, 1)) (hd : decode bytes (pc + 1) = .ok (.ifCond .eq o, 3)) (hr : x = y → Run p l e R s m args below meth c Z own nm bytes maxL ret n0 EE h k n (mkF m q ls st)) (hr' : ¬ (x = y) → Run p l e R s m args below meth c Z own nm bytes maxL ret n0 EE h k n (mkF m q' ls st)) (ho : 0 ≤ ((pc + 1 : Nat) : Int) + o := by decide) (hq : (((pc + 1 : Nat) : Int) + o).toNat = q := by rfl) (hq' : q' = pc + 4 := by rfl) : Run p l e R s m args below meth c Z own nm bytes maxL ret n0 EE h k n (mkF m pc ls (.long y :: .long x :: st)) := by
  by_cases hc : x = y
  · exact Run.leqY q hd1 hd hc (hr hc) ho hq
  · exact Run.leqN q' hd1 hd hc (hr' hc) hq'
theorem Run.lneY {x y : Int64} {o : Int} (q : Nat) (hd1 : decode bytes pc = .ok (.lcmp, 1)) (hd : decode bytes (pc + 1) = .ok (.ifCond .ne o, 3)) (hc : ¬ (x = y)) (hr : Run p l e R s m args below meth c Z own nm bytes maxL ret n0 EE h k n (mkF m q ls st)) (ho : 0 ≤ ((pc + 1 : Nat) : Int) + o := by decide) (hq : (((pc + 1 : Nat) : Int) + o).toNat = q := by rfl) : Run p l e R s m args below meth c Z own nm bytes maxL ret n0 EE h k n (mkF m pc ls (.long y :: .long x :: st)) :=
  Run.step (fun T t hx hb A z => XS.lcmp A hx rfl (hb ▸ hd1) rfl (XS.ifYes (x := lcmpW x y) (rest := st) (g := mkF m (pc + 1) ls (.int (lcmpW x y) :: st)) A hx rfl rfl (hb ▸ hd) rfl ((if0 _ _).trans (feq (fun z => hc ((lw_eq x y).mp z))).2) ho hq z)) hr
theorem Run.lneN {x y : Int64} {o : Int} (q : Nat) (hd1 : decode bytes pc = .ok (.lcmp, 1)) (hd : decode bytes (pc + 1) = .ok (.ifCond .ne o, 3)) (hc : x = y) (hr : Run p l e R s m args below meth c Z own nm bytes maxL ret n0 EE h k n (mkF m q ls st)) (hq : q = pc + 4 := by rfl) : Run p l e R s m args below meth c Z own nm bytes maxL ret n0 EE h k n (mkF m pc ls (.long y :: .long x :: st)) := by
  subst hq; exact Run.step (fun T t hx hb A z => XS.lcmp A hx rfl (hb ▸ hd1) rfl (XS.ifNo (x := lcmpW x y) (rest := st) (g := mkF m (pc + 1) ls (.int (lcmpW x y) :: st)) A hx rfl (hb ▸ hd) rfl ((if0 _ _).trans (teq ((lw_eq x y).mpr hc)).2) z)) hr
theorem Run.lne {x y : Int64} {o : Int} (q q' : Nat) (hd1 : decode bytes pc = .ok (.lcmp, 1)) (hd : decode bytes (pc + 1) = .ok (.ifCond .ne o, 3)) (hr : ¬ (x = y) → Run p l e R s m args below meth c Z own nm bytes maxL ret n0 EE h k n (mkF m q ls st)) (hr' : x = y → Run p l e R s m args below meth c Z own nm bytes maxL ret n0 EE h k n (mkF m q' ls st)) (ho : 0 ≤ ((pc + 1 : Nat) : Int) + o := by decide) (hq : (((pc + 1 : Nat) : Int) + o).toNat = q := by rfl) (hq' : q' = pc + 4 := by rfl) : Run p l e R s m args below meth c Z own nm bytes maxL ret n0 EE h k n (mkF m pc ls (.long y :: .long x :: st)) := by
  by_cases hc : x = y
  · exact Run.lneN q' hd1 hd hc (hr' hc) hq'
  · exact Run.lneY q hd1 hd hc (hr hc) ho hq
theorem Run.ldcI {i : Nat} {v : Int32} (q : Nat) (w : (Jvm.Cond.constant own i v).before a0 Z = true) (hd : decode bytes pc = .ok (.ldc i, 2)) (hr : Run p l e R s m args below meth c Z own nm bytes maxL ret n0 EE h k n (mkF m q ls (.int v :: st))) (hq : q = pc + 2 := by rfl) : Run p l e R s m args below meth c Z own nm bytes maxL ret n0 EE h k n (mkF m pc ls st) := by
  subst hq; intro C T locs X F E
  obtain ⟨s₂, o, q1, q2⟩ := hr C T locs X F E
  exact ⟨s₂, o, X.ldcInt C.1 C.2.2.2.1 (mvT C.2.2.2.2.2.1 w) (g := mkF m pc ls st) rfl (C.2.1 ▸ hd) _ q1, q2⟩
theorem Run.ldcwI {i : Nat} {v : Int32} (q : Nat) (w : (Jvm.Cond.constant own i v).before a0 Z = true) (hd : decode bytes pc = .ok (.ldc_w i, 3)) (hr : Run p l e R s m args below meth c Z own nm bytes maxL ret n0 EE h k n (mkF m q ls (.int v :: st))) (hq : q = pc + 3 := by rfl) : Run p l e R s m args below meth c Z own nm bytes maxL ret n0 EE h k n (mkF m pc ls st) := by
  subst hq; intro C T locs X F E
  obtain ⟨s₂, o, q1, q2⟩ := hr C T locs X F E
  exact ⟨s₂, o, X.ldcwInt C.1 C.2.2.2.1 (mvT C.2.2.2.2.2.1 w) (g := mkF m pc ls st) rfl (C.2.1 ▸ hd) _ q1, q2⟩
theorem Run.ldcJ {i : Nat} {v : Int64} (q : Nat) (w : (Jvm.Cond.constantLong own i v).before a0 Z = true) (hd : decode bytes pc = .ok (.ldc2_w i, 3)) (hr : Run p l e R s m args below meth c Z own nm bytes maxL ret n0 EE h k n (mkF m q ls (.long v :: st))) (hq : q = pc + 3 := by rfl) : Run p l e R s m args below meth c Z own nm bytes maxL ret n0 EE h k n (mkF m pc ls st) := by
  subst hq; intro C T locs X F E
  obtain ⟨s₂, o, q1, q2⟩ := hr C T locs X F E
  exact ⟨s₂, o, X.ldc2Long C.1 C.2.2.2.1 (mvT C.2.2.2.2.2.1 w) (g := mkF m pc ls st) rfl (C.2.1 ▸ hd) _ q1, q2⟩
theorem own_retI {T : State} {locs : List Loc} {cells slots : Nat} (X : Stand p l e R s m args below meth c T locs cells slots) (hx : p.tables.exec = Jvm.exec) {Ls : Array Slot} {z : Int32} {rest : List Value} (hret : meth.sig.returnType = some .int) (hd : decode c.code pc = .ok (.ireturn, 1)) {fs : List Frame}
    (hl : ∀ (f : JFrame) (acts : List Action), f.method = m → f.locked = none → f.entered = [] → (doReturn e (T.setTop f) acts (some (.int z))).1 = T.setFrames fs) : Steps p.tables e below (T.setTop (mkF m pc Ls (.int z :: rest))) (T.setFrames fs) := by
  have hm' : T.vm.method? m = some meth := X.method'
  have hn : narrow .int (.int z) = .int z := rfl
  show Steps p.tables e below (T.setTop { method := m, pc := pc, locals := Ls, stack := _ :: rest, locked := none }) _
  jvm_step X.here [X.here.top, hx, hd, hm', hret, hn]
  first | (intro acts; rw [hl _ acts rfl rfl rfl]) | rw [hl _ _ rfl rfl rfl]
  exact Steps.refl _
theorem Run.retN {Q : Option Value → Heap → Prop} {K N : Nat} {z : Int32} (t : FieldType) (ht : t = .boolean ∨ t = .byte ∨ t = .char ∨ t = .short) (hd : decode bytes pc = .ok (.ireturn, 1)) (hQ : Q (some (.int (nar t z))) h) (hk : k ≤ K := by decide) (hn : n ≤ N := by decide) : Run p l e R s m args below meth c Z own nm bytes maxL (some t) n0 (EndN s n0 Q K N) h k n (mkF m pc ls (.int z :: st)) := by
  intro C T locs X F E
  obtain ⟨fs, hr, hrun, hended, hW, hsame⟩ := X.leave (v := some (.int (nar t z))) (fun z => by rw [C.2.2.2.2.2.2.1] at z; cases z) C.2.2.2.2.2.2.2.1
  exact ⟨_, _, Jvm.RoadKit.retN X C.1 C.2.2.2.2.2.2.1 ht (C.2.1 ▸ hd) hr, hrun, hended, _, _, rfl, ⟨by show Q _ T.heap; rw [E]; exact hQ, F⟩, ⟨_, rfl⟩, hW, hsame.mono hk hn⟩
theorem Run.retI {Q : Option Value → Heap → Prop} {K N : Nat} {z : Int32} (hd : decode bytes pc = .ok (.ireturn, 1)) (hQ : Q (some (.int z)) h) (hk : k ≤ K := by decide) (hn : n ≤ N := by decide) : Run p l e R s m args below meth c Z own nm bytes maxL (some .int) n0 (EndN s n0 Q K N) h k n (mkF m pc ls (.int z :: st)) := by
  intro C T locs X F E
  obtain ⟨fs, hr, hrun, hended, hW, hsame⟩ := X.leave (v := some (.int z)) (fun z => by rw [C.2.2.2.2.2.2.1] at z; cases z) C.2.2.2.2.2.2.2.1
  exact ⟨_, _, own_retI X C.1 C.2.2.2.2.2.2.1 (C.2.1 ▸ hd) hr, hrun, hended, _, _, rfl, ⟨by show Q _ T.heap; rw [E]; exact hQ, F⟩, ⟨_, rfl⟩, hW, hsame.mono hk hn⟩
theorem Run.retJ {Q : Option Value → Heap → Prop} {K N : Nat} {z : Int64} (hd : decode bytes pc = .ok (.lreturn, 1)) (hQ : Q (some (.long z)) h) (hk : k ≤ K := by decide) (hn : n ≤ N := by decide) : Run p l e R s m args below meth c Z own nm bytes maxL (some .long) n0 (EndN s n0 Q K N) h k n (mkF m pc ls [.long z]) := by
  intro C T locs X F E
  obtain ⟨fs, hr, hrun, hended, hW, hsame⟩ := X.leave (v := some (.long z)) (fun z => by rw [C.2.2.2.2.2.2.1] at z; cases z) C.2.2.2.2.2.2.2.1
  exact ⟨_, _, X.lreturnOut C.1 C.2.2.2.2.2.2.1 (C.2.1 ▸ hd) hr, hrun, hended, _, _, rfl, ⟨by show Q _ T.heap; rw [E]; exact hQ, F⟩, ⟨_, rfl⟩, hW, hsame.mono hk hn⟩
theorem Run.retV {Q : Option Value → Heap → Prop} {K N : Nat}  (hd : decode bytes pc = .ok (.return_, 1)) (hQ : Q (none) h) (hk : k ≤ K := by decide) (hn : n ≤ N := by decide) : Run p l e R s m args below meth c Z own nm bytes maxL none n0 (EndN s n0 Q K N) h k n (mkF m pc ls []) := by
  intro C T locs X F E
  obtain ⟨fs, hr, hrun, hended, hW, hsame⟩ := X.leave (v := none) (fun _ => rfl) C.2.2.2.2.2.2.2.1
  exact ⟨_, _, X.returnOut C.1 C.2.2.2.2.2.2.1 (C.2.1 ▸ hd) hr, hrun, hended, _, _, rfl, ⟨by show Q _ T.heap; rw [E]; exact hQ, F⟩, ⟨_, rfl⟩, hW, hsame.mono hk hn⟩
theorem Run.retA {Q : Option Value → Heap → Prop} {K N : Nat} {v : Value} {t : FieldType} (hv : v.isRef = true) (ht : t.isReference = true) (hd : decode bytes pc = .ok (.areturn, 1)) (hQ : Q (some v) h) (hk : k ≤ K := by decide) (hn : n ≤ N := by decide) : Run p l e R s m args below meth c Z own nm bytes maxL (some t) n0 (EndN s n0 Q K N) h k n (mkF m pc ls [v]) := by
  intro C T locs X F E
  obtain ⟨fs, hr, hrun, hended, hW, hsame⟩ := X.leave (v := some v) (fun z => by rw [C.2.2.2.2.2.2.1] at z; cases z) C.2.2.2.2.2.2.2.1
  exact ⟨_, _, X.areturnOut C.1 hv C.2.2.2.2.2.2.1 ht (C.2.1 ▸ hd) hr, hrun, hended, _, _, rfl, ⟨by show Q _ T.heap; rw [E]; exact hQ, F⟩, ⟨_, rfl⟩, hW, hsame.mono hk hn⟩
theorem Run.ret1 {Q : Option Value → Heap → Prop} {K N : Nat} (hd : decode bytes pc = .ok (.ireturn, 1)) (hQ : Q (some (.int 1)) h) (hk : k ≤ K := by decide) (hn : n ≤ N := by decide) : Run p l e R s m args below meth c Z own nm bytes maxL (some .boolean) n0 (EndN s n0 Q K N) h k n (mkF m pc ls (.int (1 : Int32) :: st)) :=
  Run.retN .boolean (Or.inl rfl) hd (by rw [show nar .boolean 1 = 1 from by decide]; exact hQ) hk hn
theorem Run.ret0 {Q : Option Value → Heap → Prop} {K N : Nat} (hd : decode bytes pc = .ok (.ireturn, 1)) (hQ : Q (some (.int 0)) h) (hk : k ≤ K := by decide) (hn : n ≤ N := by decide) : Run p l e R s m args below meth c Z own nm bytes maxL (some .boolean) n0 (EndN s n0 Q K N) h k n (mkF m pc ls (.int (0 : Int32) :: st)) :=
  Run.retN .boolean (Or.inl rfl) hd (by rw [show nar .boolean 0 = 0 from by decide]; exact hQ) hk hn
theorem Run.retX {Q : Option Value → Heap → Prop} {K N : Nat} {z w : Int32} (t : FieldType) (ht : t = .boolean ∨ t = .byte ∨ t = .char ∨ t = .short) (hd : decode bytes pc = .ok (.ireturn, 1)) (hQ : Q (some (.int w)) h) (hv : nar t z = w := by rfl) (hk : k ≤ K := by decide) (hn : n ≤ N := by decide) : Run p l e R s m args below meth c Z own nm bytes maxL (some t) n0 (EndN s n0 Q K N) h k n (mkF m pc ls (.int z :: st)) :=
  Run.retN t ht hd (by rw [hv]; exact hQ) hk hn
theorem Run.getF {R0 O f d host : String} {i : Nat} {a : Addr} {v : Value} (q : Nat) (w : (Jvm.Cond.fieldLink own i R0 f d).before a0 Z = true ∨ (Jvm.Cond.fieldLinkNest own i R0 f d host).before a0 Z = true) (via : Via Z R0 O f d) (F : Fld Z h a O f d v) (hd : decode bytes pc = .ok (.getfield i, 3)) (hr : Run p l e R s m args below meth c Z own nm bytes maxL ret n0 EE h k n (mkF m q ls (v :: st))) (hq : q = pc + 3 := by rfl) : Run p l e R s m args below meth c Z own nm bytes maxL ret n0 EE h k n (mkF m pc ls (.ref a :: st)) := by
  subst hq; intro C T locs X Fr0 E
  obtain ⟨T', X', e', st'⟩ := Jvm.RoadKit.getF X C.1 C.2.2.2.2.2.1 C.2.2.2.1 (host := host) w via E F (g := mkF m pc ls (.ref a :: st)) rfl rfl (C.2.1 ▸ hd)
  obtain ⟨s₂, o, q1, q2⟩ := hr C T' locs X' Fr0 e'
  exact ⟨s₂, o, st' _ q1, q2⟩
theorem Run.getS {R0 O f d host : String} {i : Nat} {v : Value} (q : Nat) (w : (Jvm.Cond.fieldLink own i R0 f d).before a0 Z = true ∨ (Jvm.Cond.fieldLinkNest own i R0 f d host).before a0 Z = true) (via : Via Z R0 O f d) (F : Sta Z h O f d v) (hd : decode bytes pc = .ok (.getstatic i, 3)) (hr : Run p l e R s m args below meth c Z own nm bytes maxL ret n0 EE h k n (mkF m q ls (v :: st))) (hq : q = pc + 3 := by rfl) : Run p l e R s m args below meth c Z own nm bytes maxL ret n0 EE h k n (mkF m pc ls st) := by
  subst hq; intro C T locs X Fr0 E
  obtain ⟨T', X', e', st'⟩ := Jvm.RoadKit.getS2 X C.1 C.2.2.2.2.2.1 C.2.2.2.1 (host := host) w via E F (g := mkF m pc ls st) rfl (C.2.1 ▸ hd)
  obtain ⟨s₂, o, q1, q2⟩ := hr C T' locs X' Fr0 e'
  exact ⟨s₂, o, st' _ q1, q2⟩
theorem Run.putF {R0 O f d host CL : String} {i kk : Nat} {a : Addr} {v old : Value} {ty : FieldType} (q : Nat) (w : (Jvm.Cond.fieldLink own i R0 f d).before a0 Z = true ∨ (Jvm.Cond.fieldLinkNest own i R0 f d host).before a0 Z = true) (via : Via Z R0 O f d) (F : Fld Z h a O f d old) (EX : Exa Z h a CL) (L : (Jvm.Cond.lays CL O f d).before a0 Z = true ∨ ((Jvm.Cond.laysFinal CL O f d).before a0 Z = true ∧ own = O ∧ nm = "<init>")) (wi : (Jvm.Cond.instantiable CL kk).before a0 Z = true) (hty : parseFieldDescriptor d = some ty) (ga : n0 ≤ a) (hd : decode bytes pc = .ok (.putfield i, 3)) (hr : ∀ h' : Heap, Wr h h' a (Jvm.RoadKit.slotOf Z O f d) v → Run p l e R s m args below meth c Z own nm bytes maxL ret n0 EE h' k n (mkF m q ls st)) (hn : narrow ty v = v := by rfl) (hf : fits ty v = true := by rfl) (hq : q = pc + 3 := by rfl) : Run p l e R s m args below meth c Z own nm bytes maxL ret n0 EE h k n (mkF m pc ls (v :: .ref a :: st)) := by
  subst hq; intro C T locs X Fr0 E
  obtain ⟨T', h', X', e', W, st'⟩ := Jvm.RoadKit.putF X C.1 C.2.2.2.2.2.1 C.2.2.2.1 (host := host) w via E F EX (L.imp id fun z => ⟨z.1, z.2.1, C.2.2.2.2.1.trans z.2.2⟩) wi hty hn hf (g := mkF m pc ls (v :: .ref a :: st)) rfl rfl (C.2.1 ▸ hd)
  obtain ⟨s₂, o, q1, q2⟩ := hr h' W C T' _ X' (Fr.snoc X' Fr0 ga) e'
  exact ⟨s₂, o, st' _ q1, q2⟩
theorem Run.new {CL : String} {i sz : Nat} (q : Nat) (w : (Jvm.Cond.classLink own i CL).before a0 Z = true) (wi : (Jvm.Cond.instantiable CL sz).before a0 Z = true) (wz : (Jvm.Cond.initialized CL).before a0 Z = true) (hd : decode bytes pc = .ok (.new i, 3)) (hr : ∀ (h' : Heap) (a : Addr), a = h.size → n0 ≤ a → Ext h h' → Exa Z h' a CL → (∀ {O f d : String} {ty : FieldType}, Laid Z a0 CL O f d → parseFieldDescriptor d = some ty → Fld Z h' a O f d (defaultValue ty)) → Run p l e R s m args below meth c Z own nm bytes maxL ret n0 EE h' (k + 1) (n + sz) (mkF m q ls (.ref a :: st))) (hc : k + 1 ≤ R.cells := by decide) (hl : n + sz ≤ R.slots := by decide) (hq : q = pc + 3 := by rfl) : Run p l e R s m args below meth c Z own nm bytes maxL ret n0 EE h k n (mkF m pc ls st) := by
  subst hq; refine Run.sz fun hs => ?_; intro C T locs X Fr0 E
  obtain ⟨T', h', X', e', EX, A, D, -, st'⟩ := newO X C.1 C.2.2.2.2.2.1 C.2.2.2.1 w wi wz E (g := mkF m pc ls st) rfl (C.2.1 ▸ hd) hc hl
  obtain ⟨s₂, o, q1, q2⟩ := hr h' h.size rfl hs EX A (fun L t => D L t) C T' locs X' Fr0 e'
  exact ⟨s₂, o, st' _ q1, q2⟩
theorem Run.initO {i : Nat} {a : Addr} (q W : Nat) (w1 : (Jvm.Cond.methodLink own i Lib.objectInit).before a0 Z = true) (w2 : (Jvm.Cond.instanceMethod Lib.objectInit).before a0 Z = true) (w3 : (Jvm.Cond.code Lib.objectInit Jvm.Pilot.@@N@@.object_method_1_code 1 none).before a0 Z = true) (hd : decode bytes pc = .ok (.invokespecial i, 3)) (hr : Run p l e R s m args below meth c Z own nm bytes maxL ret n0 EE h k n (mkF m q ls st)) (hsz : ls.size = maxL := by rfl) (hf : 1 ≤ R.frames := by decide) (hW : (st.map fun v => v.category).sum ≤ W := by first | exact Nat.le_of_eq rfl | decide) (hl : W + 12 ≤ R.locals := by decide) (hq : q = pc + 3 := by rfl) : Run p l e R s m args below meth c Z own nm bytes maxL ret n0 EE h k n (mkF m pc ls (.ref a :: st)) := by
  subst hq; intro C T locs X Fr0 E
  obtain ⟨T', X', e', st'⟩ := Jvm.RoadKit.initO X C.1 C.2.2.2.2.2.1 C.2.2.2.1 w1 w2 w3 E (g := mkF m pc ls (.ref a :: st)) rfl (by rw [C.2.2.1]; exact hsz) rfl (C.2.1 ▸ hd) hf (W := W) (by show 2 * 0 + _ ≤ _; omega) hl
  obtain ⟨s₂, o, q1, q2⟩ := hr C T' locs X' Fr0 e'
  exact ⟨s₂, o, st' _ q1, q2⟩
theorem Run.callS {y : MethodName} {bytes' : ByteArray} {maxL' : Nat} {ret' : Option FieldType} {rm : Room} {Q' : Option Value → Heap → Prop} {i : Nat} {argsL : List Value} (q W : Nat) (P : Pays l Z y bytes' maxL' ret' rm argsL.toArray h n0 Q') (w1 : (Jvm.Cond.methodLink own i y).before a0 Z = true) (w2 : (Jvm.Cond.static y).before a0 Z = true) (w3 : (Jvm.Cond.initialized y.cls).before a0 Z = true) (w4 : (Jvm.Cond.code y bytes' maxL' ret').before a0 Z = true) {sig : MethodDescriptor} (hsig : parseMethodDescriptor y.desc = some sig) (hd : decode bytes pc = .ok (.invokestatic i, 3)) {stk : List Value} (hr : ∀ (v : Option Value) (h' : Heap), Q' v h' → Run p l e R s m args below meth c Z own nm bytes maxL ret n0 EE h' (k + rm.cells) (n + rm.slots) (mkF m q ls (v.toList ++ st))) (hlen : argsL.length = sig.parameters.length := by rfl) (hstk : stk = argsL.reverse ++ st := by rfl) (hsz : ls.size = maxL := by rfl) (hf : rm.frames + 1 ≤ R.frames := by decide) (hW : (st.map fun v => v.category).sum ≤ W := by first | exact Nat.le_of_eq rfl | decide) (hl : W + (maxL' + 11) + rm.locals ≤ R.locals := by decide) (hc : k + rm.cells ≤ R.cells := by decide) (hs : n + rm.slots ≤ R.slots := by decide) (hy : y.cls ≠ "java/lang/invoke/MethodHandle" ∧ y.cls ≠ "java/lang/invoke/VarHandle" := by decide) (hq : q = pc + 3 := by rfl) : Run p l e R s m args below meth c Z own nm bytes maxL ret n0 EE h k n (mkF m pc ls stk) := by
  subst hq; intro C T locs X Fr0 E
  have hZ := C.2.2.2.2.2.1
  obtain ⟨v', _, ⟨T', L', k', n'⟩, -, X', ⟨Lc', hQ', l', y', z'⟩, st'⟩ := Jvm.LawKit.callS X C.1 (y := y) C.2.2.2.1 (mvT hZ w1) (mvT hZ w2) (mvT hZ w3) (mvT hZ w4) hy (backOf (W := W) (Q := fun v h L => Q' v h ∧ Fr n0 L) (P []) hZ w4 w3 hf hl) (g := mkF m pc ls stk) rfl (by rw [C.2.2.1]; exact hsz) (argsL := argsL) (rest := st) (lenOf hsig hlen) hstk (by show 2 * 0 + _ ≤ _; omega) (C.2.1 ▸ hd) (fun _ _ => ⟨rfl, E, hc, hs⟩)
  dsimp only [Pt.U, Pt.locs, Pt.cells, Pt.slots] at X' l' y' z' st' hQ'
  subst l' y' z'
  obtain ⟨hQ1, N'⟩ := hQ'
  obtain ⟨s₂, o, q1, q2⟩ := hr v' _ hQ1 C T' _ X' (Fr.app Fr0 N') rfl
  exact ⟨s₂, o, st' _ q1, q2⟩
theorem Run.callC {y : MethodName} {bytes' : ByteArray} {maxL' : Nat} {rm : Room} {Q' : Option Value → Heap → Prop} {i : Nat} {a : Addr} {argsL : List Value} (q W : Nat) (P : Pays l Z y bytes' maxL' none rm (.ref a :: argsL).toArray h n0 Q') (w1 : (Jvm.Cond.methodLink own i y).before a0 Z = true) (w2 : (Jvm.Cond.instanceMethod y).before a0 Z = true) (w3 : (Jvm.Cond.initialized y.cls).before a0 Z = true) (w4 : (Jvm.Cond.code y bytes' maxL' none).before a0 Z = true) {sig : MethodDescriptor} (hsig : parseMethodDescriptor y.desc = some sig) (hd : decode bytes pc = .ok (.invokespecial i, 3)) {stk : List Value} (hr : ∀ (v : Option Value) (h' : Heap), Q' v h' → Run p l e R s m args below meth c Z own nm bytes maxL ret n0 EE h' (k + rm.cells) (n + rm.slots) (mkF m q ls (v.toList ++ st))) (hy1 : y.name = "<init>" := by rfl) (hlen : argsL.length = sig.parameters.length := by rfl) (hstk : stk = argsL.reverse ++ .ref a :: st := by rfl) (hsz : ls.size = maxL := by rfl) (hf : rm.frames + 1 ≤ R.frames := by decide) (hW : (st.map fun v => v.category).sum ≤ W := by first | exact Nat.le_of_eq rfl | decide) (hl : W + (maxL' + 11) + rm.locals ≤ R.locals := by decide) (hc : k + rm.cells ≤ R.cells := by decide) (hs : n + rm.slots ≤ R.slots := by decide) (hy : y.cls ≠ "java/lang/invoke/MethodHandle" ∧ y.cls ≠ "java/lang/invoke/VarHandle" := by decide) (hq : q = pc + 3 := by rfl) : Run p l e R s m args below meth c Z own nm bytes maxL ret n0 EE h k n (mkF m pc ls stk) := by
  subst hq; intro C T locs X Fr0 E
  have hZ := C.2.2.2.2.2.1
  obtain ⟨v', _, ⟨T', L', k', n'⟩, -, X', ⟨Lc', hQ', l', y', z'⟩, st'⟩ := X.specialBack C.1 (y := y) hy1 C.2.2.2.1 (mvT hZ w1) (mvT hZ w2) (mvT hZ w4) hy (backOf (W := W) (Q := fun v h L => Q' v h ∧ Fr n0 L) (P []) hZ w4 w3 hf hl) (g := mkF m pc ls stk) rfl (by rw [C.2.2.1]; exact hsz) (Steps.refl _) (a := a) (argsL := argsL) (rest := st) (lenOf hsig hlen) hstk (by show 2 * 0 + _ ≤ _; omega) (C.2.1 ▸ hd) (fun _ _ => ⟨rfl, E, hc, hs⟩)
  dsimp only [Pt.U, Pt.locs, Pt.cells, Pt.slots] at X' l' y' z' st' hQ'
  subst l' y' z'
  obtain ⟨hQ1, N'⟩ := hQ'
  obtain ⟨s₂, o, q1, q2⟩ := hr v' _ hQ1 C T' _ X' (Fr.app Fr0 N') rfl
  exact ⟨s₂, o, st'.trans q1, q2⟩
theorem Run.callV {y : MethodName} {bytes' : ByteArray} {maxL' : Nat} {ret' : Option FieldType} {rm : Room} {Q' : Option Value → Heap → Prop} {i : Nat} {CL : String} {a : Addr} {argsL : List Value} (q W : Nat) (P : Pays l Z y bytes' maxL' ret' rm (.ref a :: argsL).toArray h n0 Q') (EX : Exa Z h a CL) (w1 : (Jvm.Cond.methodLink own i y).before a0 Z = true) (w2 : (Jvm.Cond.declares y).before a0 Z = true) (w5 : (Jvm.Cond.selects CL y y).before a0 Z = true) (w6 : (Jvm.Cond.instanceMethod y).before a0 Z = true) (w3 : (Jvm.Cond.initialized y.cls).before a0 Z = true) (w4 : (Jvm.Cond.code y bytes' maxL' ret').before a0 Z = true) {sig : MethodDescriptor} (hsig : parseMethodDescriptor y.desc = some sig) (hd : decode bytes pc = .ok (.invokevirtual i, 3)) {stk : List Value} (hr : ∀ (v : Option Value) (h' : Heap), Q' v h' → Run p l e R s m args below meth c Z own nm bytes maxL ret n0 EE h' (k + rm.cells) (n + rm.slots) (mkF m q ls (v.toList ++ st))) (hcl : CL = y.cls := by rfl) (hlen : argsL.length = sig.parameters.length := by rfl) (hstk : stk = argsL.reverse ++ .ref a :: st := by rfl) (hsz : ls.size = maxL := by rfl) (hf : rm.frames + 1 ≤ R.frames := by decide) (hW : (st.map fun v => v.category).sum ≤ W := by first | exact Nat.le_of_eq rfl | decide) (hl : W + (maxL' + 11) + rm.locals ≤ R.locals := by decide) (hc : k + rm.cells ≤ R.cells := by decide) (hs : n + rm.slots ≤ R.slots := by decide) (hy : y.cls ≠ "java/lang/invoke/MethodHandle" ∧ y.cls ≠ "java/lang/invoke/VarHandle" := by decide) (hq : q = pc + 3 := by rfl) : Run p l e R s m args below meth c Z own nm bytes maxL ret n0 EE h k n (mkF m pc ls stk) := by
  subst hq; subst hcl; intro C T locs X Fr0 E
  have hZ := C.2.2.2.2.2.1
  obtain ⟨cq, kq, qa, qb, qc⟩ := isOf hZ E EX
  obtain ⟨v', _, ⟨T', L', k', n'⟩, -, X', ⟨Lc', hQ', l', y', z'⟩, st'⟩ := X.virtualBack C.1 (y := y) (z := y) C.2.2.2.1 (mvT hZ w1) (mvT hZ w2) (notFace_of_selects (args := #[]) (mvT hZ w5)) (mvT hZ w5) (mvT hZ w6) hy (backOf (W := W) (Q := fun v h L => Q' v h ∧ Fr n0 L) (P []) hZ w4 w3 hf hl) qa qc (g := mkF m pc ls stk) rfl (by rw [C.2.2.1]; exact hsz) (Steps.refl _) (argsL := argsL) (rest := st) (lenOf hsig hlen) hstk (by show 2 * 0 + _ ≤ _; omega) (C.2.1 ▸ hd) (fun _ _ => ⟨rfl, E, hc, hs⟩)
  dsimp only [Pt.U, Pt.locs, Pt.cells, Pt.slots] at X' l' y' z' st' hQ'
  subst l' y' z'
  obtain ⟨hQ1, N'⟩ := hQ'
  obtain ⟨s₂, o, q1, q2⟩ := hr v' _ hQ1 C T' _ X' (Fr.app Fr0 N') rfl
  exact ⟨s₂, o, st'.trans q1, q2⟩
/-- an array of int-like values: n places, place i holds f i -/
def AI (Z : State) (h : Heap) (a : Addr) (ty : FieldType) (n : Nat) (f : Nat → Int32) : Prop := n < 2 ^ 31 ∧ ∃ cl : Cell, Arr Z h a cl ty ∧ cl.slots.size = n ∧ ∀ i, i < n → cl.slots[i]? = some (.int (f i))
def AJ (Z : State) (h : Heap) (a : Addr) (n : Nat) (f : Nat → Int64) : Prop := n < 2 ^ 31 ∧ ∃ cl : Cell, Arr Z h a cl .long ∧ cl.slots.size = n ∧ ∀ i, i < n → cl.slots[i]? = some (.long (f i))
def oupd {α : Type} (f : Nat → α) (i : Nat) (v : α) : Nat → α := fun j => if j = i then v else f j
theorem oupd_same {α : Type} (f : Nat → α) (i : Nat) (v : α) : oupd f i v i = v := if_pos rfl
theorem oupd_other {α : Type} (f : Nat → α) {i j : Nat} (v : α) (h : j ≠ i) : oupd f i v j = f j := if_neg h

theorem AI.lt {a : Addr} {ty : FieldType} {nn : Nat} {f : Nat → Int32} (F : AI Z h a ty nn f) : a < h.size := by obtain ⟨_, c, A, -⟩ := F; exact A.lt
theorem AI.ext {a : Addr} {h' : Heap} {ty : FieldType} {nn : Nat} {f : Nat → Int32} (F : AI Z h a ty nn f) (E : Ext h h') : AI Z h' a ty nn f := by obtain ⟨z, c, A, r⟩ := F; exact ⟨z, c, A.ext E, r⟩
theorem AI.other {a b : Addr} {h' : Heap} {sl : Nat} {v : Value} {ty : FieldType} {nn : Nat} {f : Nat → Int32} (F : AI Z h a ty nn f) (W : Wr h h' b sl v) (q : a ≠ b) : AI Z h' a ty nn f := by obtain ⟨z, c, A, r⟩ := F; exact ⟨z, c, A.other W q, r⟩
theorem AI.keep {a : Addr} {h' : Heap} {ws : List Addr} {ty : FieldType} {nn : Nat} {f : Nat → Int32} (F : AI Z h a ty nn f) (KP : Keep h h' ws) (q : a ∉ ws) : AI Z h' a ty nn f := by obtain ⟨z, c, A, r⟩ := F; exact ⟨z, c, ⟨KP.2.1 a c A.1 q, A.2⟩, r⟩
theorem AI.set {a : Addr} {h' : Heap} {ty : FieldType} {nn : Nat} {f : Nat → Int32} {i : Nat} {v : Int32} (F : AI Z h a ty nn f) (hi : i < nn) (W : Wr h h' a i (.int v)) : AI Z h' a ty nn (oupd f i v) := by
  obtain ⟨z, c, A, r1, r2⟩ := F
  refine ⟨z, c.setSlot i (.int v), A.same W, by rw [sz_set, r1], fun j hj => ?_⟩
  by_cases q : j = i
  · subst q; rw [oupd_same]; simp [Cell.setSlot, Array.getElem?_setIfInBounds, r1, hi]
  · rw [oupd_other _ _ q, ← r2 j hj]; simp [Cell.setSlot, Array.getElem?_setIfInBounds, Ne.symm q]
theorem AI.cong {a : Addr} {ty : FieldType} {nn : Nat} {f : Nat → Int32} {f' : Nat → Int32} (F : AI Z h a ty nn f) (q : ∀ i, i < nn → f i = f' i) : AI Z h a ty nn f' := by
  obtain ⟨z, c, A, r1, r2⟩ := F; exact ⟨z, c, A, r1, fun i hi => by rw [← q i hi]; exact r2 i hi⟩
theorem AJ.lt {a : Addr} {nn : Nat} {f : Nat → Int64} (F : AJ Z h a nn f) : a < h.size := by obtain ⟨_, c, A, -⟩ := F; exact A.lt
theorem AJ.ext {a : Addr} {h' : Heap} {nn : Nat} {f : Nat → Int64} (F : AJ Z h a nn f) (E : Ext h h') : AJ Z h' a nn f := by obtain ⟨z, c, A, r⟩ := F; exact ⟨z, c, A.ext E, r⟩
theorem AJ.other {a b : Addr} {h' : Heap} {sl : Nat} {v : Value} {nn : Nat} {f : Nat → Int64} (F : AJ Z h a nn f) (W : Wr h h' b sl v) (q : a ≠ b) : AJ Z h' a nn f := by obtain ⟨z, c, A, r⟩ := F; exact ⟨z, c, A.other W q, r⟩
theorem AJ.keep {a : Addr} {h' : Heap} {ws : List Addr} {nn : Nat} {f : Nat → Int64} (F : AJ Z h a nn f) (KP : Keep h h' ws) (q : a ∉ ws) : AJ Z h' a nn f := by obtain ⟨z, c, A, r⟩ := F; exact ⟨z, c, ⟨KP.2.1 a c A.1 q, A.2⟩, r⟩
theorem AJ.set {a : Addr} {h' : Heap} {nn : Nat} {f : Nat → Int64} {i : Nat} {v : Int64} (F : AJ Z h a nn f) (hi : i < nn) (W : Wr h h' a i (.long v)) : AJ Z h' a nn (oupd f i v) := by
  obtain ⟨z, c, A, r1, r2⟩ := F
  refine ⟨z, c.setSlot i (.long v), A.same W, by rw [sz_set, r1], fun j hj => ?_⟩
  by_cases q : j = i
  · subst q; rw [oupd_same]; simp [Cell.setSlot, Array.getElem?_setIfInBounds, r1, hi]
  · rw [oupd_other _ _ q, ← r2 j hj]; simp [Cell.setSlot, Array.getElem?_setIfInBounds, Ne.symm q]
theorem AJ.cong {a : Addr} {nn : Nat} {f : Nat → Int64} {f' : Nat → Int64} (F : AJ Z h a nn f) (q : ∀ i, i < nn → f i = f' i) : AJ Z h a nn f' := by
  obtain ⟨z, c, A, r1, r2⟩ := F; exact ⟨z, c, A, r1, fun i hi => by rw [← q i hi]; exact r2 i hi⟩
theorem inb {cl : Cell} {j : Int32} {nn : Nat} (S : cl.slots.size = nn) (hj : 0 ≤ j.toInt ∧ j.toInt < nn) : ¬ (j < 0 ∨ cl.slots.size ≤ j.toNatClampNeg) := by
  have h1 : (j.toNatClampNeg : Int) = j.toInt := by rw [show j.toNatClampNeg = j.toInt.toNat from rfl]; omega
  rw [Int32.lt_iff_toInt_lt, S]; simp only [show (0 : Int32).toInt = 0 from by decide]; omega
theorem inn {j : Int32} {nn : Nat} (hj : 0 ≤ j.toInt ∧ j.toInt < nn) : j.toNatClampNeg < nn := by
  rw [show j.toNatClampNeg = j.toInt.toNat from rfl]; omega

theorem Run.iaload {a : Addr} {nn : Nat} {f : Nat → Int32} {j : Int32} (w : Int32) (q : Nat) (F : AI Z h a .int nn f) (hj : 0 ≤ j.toInt ∧ j.toInt < nn) (hd : decode bytes pc = .ok (.iaload, 1)) (hr : Run p l e R s m args below meth c Z own nm bytes maxL ret n0 EE h k n (mkF m q ls (.int w :: st))) (hv : f j.toNatClampNeg = w := by rfl) (hq : q = pc + 1 := by rfl) : Run p l e R s m args below meth c Z own nm bytes maxL ret n0 EE h k n (mkF m pc ls (.int j :: .ref a :: st)) := by
  subst hq hv; intro C T locs X Fr0 E
  obtain ⟨-, cl, A, r1, r2⟩ := F
  obtain ⟨s₂, o, q1, q2⟩ := hr C T locs X Fr0 E
  exact ⟨s₂, o, X.iaload C.1 (j := j) (by rw [E]; exact A.1) (State.isArrayOf_alike C.2.2.2.2.2.1.alike A.2.1) A.2.2 (inb r1 hj) (r2 _ (inn hj)) (g := mkF m pc ls (.int j :: .ref a :: st)) rfl rfl (C.2.1 ▸ hd) _ q1, q2⟩
theorem Run.baload {a : Addr} {nn : Nat} {f : Nat → Int32} {j : Int32} (w : Int32) (q : Nat) (F : AI Z h a .byte nn f) (hj : 0 ≤ j.toInt ∧ j.toInt < nn) (hd : decode bytes pc = .ok (.baload, 1)) (hr : Run p l e R s m args below meth c Z own nm bytes maxL ret n0 EE h k n (mkF m q ls (.int w :: st))) (hv : f j.toNatClampNeg = w := by rfl) (hq : q = pc + 1 := by rfl) : Run p l e R s m args below meth c Z own nm bytes maxL ret n0 EE h k n (mkF m pc ls (.int j :: .ref a :: st)) := by
  subst hq hv; intro C T locs X Fr0 E
  obtain ⟨-, cl, A, r1, r2⟩ := F
  obtain ⟨s₂, o, q1, q2⟩ := hr C T locs X Fr0 E
  exact ⟨s₂, o, X.baloadBytes C.1 (j := j) (by rw [E]; exact A.1) (State.isArrayOf_alike C.2.2.2.2.2.1.alike A.2.1) A.2.2 (inb r1 hj) (r2 _ (inn hj)) (g := mkF m pc ls (.int j :: .ref a :: st)) rfl rfl (C.2.1 ▸ hd) _ q1, q2⟩
theorem Run.caload {a : Addr} {nn : Nat} {f : Nat → Int32} {j : Int32} (w : Int32) (q : Nat) (F : AI Z h a .char nn f) (hj : 0 ≤ j.toInt ∧ j.toInt < nn) (hd : decode bytes pc = .ok (.caload, 1)) (hr : Run p l e R s m args below meth c Z own nm bytes maxL ret n0 EE h k n (mkF m q ls (.int w :: st))) (hv : f j.toNatClampNeg = w := by rfl) (hq : q = pc + 1 := by rfl) : Run p l e R s m args below meth c Z own nm bytes maxL ret n0 EE h k n (mkF m pc ls (.int j :: .ref a :: st)) := by
  subst hq hv; intro C T locs X Fr0 E
  obtain ⟨-, cl, A, r1, r2⟩ := F
  obtain ⟨s₂, o, q1, q2⟩ := hr C T locs X Fr0 E
  exact ⟨s₂, o, X.caload C.1 (j := j) (by rw [E]; exact A.1) (State.isArrayOf_alike C.2.2.2.2.2.1.alike A.2.1) A.2.2 (inb r1 hj) (r2 _ (inn hj)) (g := mkF m pc ls (.int j :: .ref a :: st)) rfl rfl (C.2.1 ▸ hd) _ q1, q2⟩
theorem Run.saload {a : Addr} {nn : Nat} {f : Nat → Int32} {j : Int32} (w : Int32) (q : Nat) (F : AI Z h a .short nn f) (hj : 0 ≤ j.toInt ∧ j.toInt < nn) (hd : decode bytes pc = .ok (.saload, 1)) (hr : Run p l e R s m args below meth c Z own nm bytes maxL ret n0 EE h k n (mkF m q ls (.int w :: st))) (hv : f j.toNatClampNeg = w := by rfl) (hq : q = pc + 1 := by rfl) : Run p l e R s m args below meth c Z own nm bytes maxL ret n0 EE h k n (mkF m pc ls (.int j :: .ref a :: st)) := by
  subst hq hv; intro C T locs X Fr0 E
  obtain ⟨-, cl, A, r1, r2⟩ := F
  obtain ⟨s₂, o, q1, q2⟩ := hr C T locs X Fr0 E
  exact ⟨s₂, o, X.saload C.1 (j := j) (by rw [E]; exact A.1) (State.isArrayOf_alike C.2.2.2.2.2.1.alike A.2.1) A.2.2 (inb r1 hj) (r2 _ (inn hj)) (g := mkF m pc ls (.int j :: .ref a :: st)) rfl rfl (C.2.1 ▸ hd) _ q1, q2⟩
theorem Run.laload {a : Addr} {nn : Nat} {f : Nat → Int64} {j : Int32} (w : Int64) (q : Nat) (F : AJ Z h a nn f) (hj : 0 ≤ j.toInt ∧ j.toInt < nn) (hd : decode bytes pc = .ok (.laload, 1)) (hr : Run p l e R s m args below meth c Z own nm bytes maxL ret n0 EE h k n (mkF m q ls (.long w :: st))) (hv : f j.toNatClampNeg = w := by rfl) (hq : q = pc + 1 := by rfl) : Run p l e R s m args below meth c Z own nm bytes maxL ret n0 EE h k n (mkF m pc ls (.int j :: .ref a :: st)) := by
  subst hq hv; intro C T locs X Fr0 E
  obtain ⟨-, cl, A, r1, r2⟩ := F
  obtain ⟨s₂, o, q1, q2⟩ := hr C T locs X Fr0 E
  exact ⟨s₂, o, X.laload C.1 (j := j) (by rw [E]; exact A.1) (State.isArrayOf_alike C.2.2.2.2.2.1.alike A.2.1) A.2.2 (inb r1 hj) (r2 _ (inn hj)) (g := mkF m pc ls (.int j :: .ref a :: st)) rfl rfl (C.2.1 ▸ hd) _ q1, q2⟩
theorem Run.iastore {a : Addr} {nn : Nat} {f : Nat → Int32} {j v : Int32} (w : Int32) (q : Nat) (F : AI Z h a .int nn f) (hj : 0 ≤ j.toInt ∧ j.toInt < nn) (ga : n0 ≤ a) (hd : decode bytes pc = .ok (.iastore, 1)) (hr : ∀ h' : Heap, Wr h h' a j.toNatClampNeg (.int w) → AI Z h' a .int nn (oupd f j.toNatClampNeg w) → Run p l e R s m args below meth c Z own nm bytes maxL ret n0 EE h' k n (mkF m q ls st)) (hv : v = w := by rfl) (hq : q = pc + 1 := by rfl) : Run p l e R s m args below meth c Z own nm bytes maxL ret n0 EE h k n (mkF m pc ls (.int v :: .int j :: .ref a :: st)) := by
  subst hq hv; intro C T locs X Fr0 E
  have F0 := F
  obtain ⟨-, cl, A, r1, r2⟩ := F
  obtain ⟨T', h', X', e', W, st'⟩ := stI X C.1 C.2.2.2.2.2.1 E A (j := j) (x := v) (inb r1 hj) (g := mkF m pc ls (.int v :: .int j :: .ref a :: st)) rfl rfl (C.2.1 ▸ hd)
  obtain ⟨s₂, o, q1, q2⟩ := hr h' W (F0.set (inn hj) W) C T' _ X' (Fr.snoc X' Fr0 ga) e'
  exact ⟨s₂, o, st' _ q1, q2⟩
theorem Run.bastore {a : Addr} {nn : Nat} {f : Nat → Int32} {j v : Int32} (w : Int32) (q : Nat) (F : AI Z h a .byte nn f) (hj : 0 ≤ j.toInt ∧ j.toInt < nn) (ga : n0 ≤ a) (hd : decode bytes pc = .ok (.bastore, 1)) (hr : ∀ h' : Heap, Wr h h' a j.toNatClampNeg (.int w) → AI Z h' a .byte nn (oupd f j.toNatClampNeg w) → Run p l e R s m args below meth c Z own nm bytes maxL ret n0 EE h' k n (mkF m q ls st)) (hv : (nar .byte v) = w := by rfl) (hq : q = pc + 1 := by rfl) : Run p l e R s m args below meth c Z own nm bytes maxL ret n0 EE h k n (mkF m pc ls (.int v :: .int j :: .ref a :: st)) := by
  subst hq hv; intro C T locs X Fr0 E
  have F0 := F
  obtain ⟨-, cl, A, r1, r2⟩ := F
  obtain ⟨T', h', X', e', W, st'⟩ := stB X C.1 C.2.2.2.2.2.1 E A (j := j) (x := v) (inb r1 hj) (g := mkF m pc ls (.int v :: .int j :: .ref a :: st)) rfl rfl (C.2.1 ▸ hd)
  obtain ⟨s₂, o, q1, q2⟩ := hr h' W (F0.set (inn hj) W) C T' _ X' (Fr.snoc X' Fr0 ga) e'
  exact ⟨s₂, o, st' _ q1, q2⟩
theorem Run.castore {a : Addr} {nn : Nat} {f : Nat → Int32} {j v : Int32} (w : Int32) (q : Nat) (F : AI Z h a .char nn f) (hj : 0 ≤ j.toInt ∧ j.toInt < nn) (ga : n0 ≤ a) (hd : decode bytes pc = .ok (.castore, 1)) (hr : ∀ h' : Heap, Wr h h' a j.toNatClampNeg (.int w) → AI Z h' a .char nn (oupd f j.toNatClampNeg w) → Run p l e R s m args below meth c Z own nm bytes maxL ret n0 EE h' k n (mkF m q ls st)) (hv : (nar .char v) = w := by rfl) (hq : q = pc + 1 := by rfl) : Run p l e R s m args below meth c Z own nm bytes maxL ret n0 EE h k n (mkF m pc ls (.int v :: .int j :: .ref a :: st)) := by
  subst hq hv; intro C T locs X Fr0 E
  have F0 := F
  obtain ⟨-, cl, A, r1, r2⟩ := F
  obtain ⟨T', h', X', e', W, st'⟩ := stC X C.1 C.2.2.2.2.2.1 E A (j := j) (x := v) (inb r1 hj) (g := mkF m pc ls (.int v :: .int j :: .ref a :: st)) rfl rfl (C.2.1 ▸ hd)
  obtain ⟨s₂, o, q1, q2⟩ := hr h' W (F0.set (inn hj) W) C T' _ X' (Fr.snoc X' Fr0 ga) e'
  exact ⟨s₂, o, st' _ q1, q2⟩
theorem Run.lastore {a : Addr} {nn : Nat} {f : Nat → Int64} {j : Int32} {v : Int64} (q : Nat) (F : AJ Z h a nn f) (hj : 0 ≤ j.toInt ∧ j.toInt < nn) (ga : n0 ≤ a) (hd : decode bytes pc = .ok (.lastore, 1)) (hr : ∀ h' : Heap, Wr h h' a j.toNatClampNeg (.long v) → AJ Z h' a nn (oupd f j.toNatClampNeg v) → Run p l e R s m args below meth c Z own nm bytes maxL ret n0 EE h' k n (mkF m q ls st)) (hq : q = pc + 1 := by rfl) : Run p l e R s m args below meth c Z own nm bytes maxL ret n0 EE h k n (mkF m pc ls (.long v :: .int j :: .ref a :: st)) := by
  subst hq; intro C T locs X Fr0 E
  have F0 := F
  obtain ⟨-, cl, A, r1, r2⟩ := F
  obtain ⟨T', h', X', e', W, st'⟩ := stJ X C.1 C.2.2.2.2.2.1 E A (j := j) (x := v) (inb r1 hj) (g := mkF m pc ls (.long v :: .int j :: .ref a :: st)) rfl rfl (C.2.1 ▸ hd)
  obtain ⟨s₂, o, q1, q2⟩ := hr h' W (F0.set (inn hj) W) C T' _ X' (Fr.snoc X' Fr0 ga) e'
  exact ⟨s₂, o, st' _ q1, q2⟩
theorem Run.lenI {a : Addr} {nn : Nat} {ty : FieldType} {f : Nat → Int32} (w : Int32) (q : Nat) (F : AI Z h a ty nn f) (hd : decode bytes pc = .ok (.arraylength, 1)) (hr : Run p l e R s m args below meth c Z own nm bytes maxL ret n0 EE h k n (mkF m q ls (.int w :: st))) (hv : Int32.ofNat nn = w := by first | rfl | decide) (hq : q = pc + 1 := by rfl) : Run p l e R s m args below meth c Z own nm bytes maxL ret n0 EE h k n (mkF m pc ls (.ref a :: st)) := by
  subst hq; intro C T locs X Fr0 E
  obtain ⟨-, cl, A, r1, r2⟩ := F
  obtain ⟨s₂, o, q1, q2⟩ := hr C T locs X Fr0 E
  have hz : cl.slots.size.toInt32 = w := by rw [r1]; exact hv
  exact ⟨s₂, o, X.arraylength C.1 (by rw [E]; exact A.1) (State.isArrayOf_alike C.2.2.2.2.2.1.alike A.2.1) (g := mkF m pc ls (.ref a :: st)) rfl rfl (C.2.1 ▸ hd) _ (by rw [hz]; exact q1), q2⟩
theorem Run.lenJ {a : Addr} {nn : Nat} {f : Nat → Int64} (w : Int32) (q : Nat) (F : AJ Z h a nn f) (hd : decode bytes pc = .ok (.arraylength, 1)) (hr : Run p l e R s m args below meth c Z own nm bytes maxL ret n0 EE h k n (mkF m q ls (.int w :: st))) (hv : Int32.ofNat nn = w := by first | rfl | decide) (hq : q = pc + 1 := by rfl) : Run p l e R s m args below meth c Z own nm bytes maxL ret n0 EE h k n (mkF m pc ls (.ref a :: st)) := by
  subst hq; intro C T locs X Fr0 E
  obtain ⟨-, cl, A, r1, r2⟩ := F
  obtain ⟨s₂, o, q1, q2⟩ := hr C T locs X Fr0 E
  have hz : cl.slots.size.toInt32 = w := by rw [r1]; exact hv
  exact ⟨s₂, o, X.arraylength C.1 (by rw [E]; exact A.1) (State.isArrayOf_alike C.2.2.2.2.2.1.alike A.2.1) (g := mkF m pc ls (.ref a :: st)) rfl rfl (C.2.1 ▸ hd) _ (by rw [hz]; exact q1), q2⟩
theorem Run.new_int {z : Int32} (q nn cap : Nat) (w : (Jvm.Cond.arrayClass .int).before a0 Z = true) (hz : z.toInt = nn) (hd : decode bytes pc = .ok (.newarray .int, 2)) (hr : ∀ (h' : Heap) (a : Addr), a = h.size → n0 ≤ a → Ext h h' → AI Z h' a .int nn (fun _ => 0) → Run p l e R s m args below meth c Z own nm bytes maxL ret n0 EE h' (k + 1) (n + cap) (mkF m q ls (.ref a :: st))) (hcap : nn ≤ cap := by decide) (hb : cap * 8 ≤ 536870912 := by decide) (hc : k + 1 ≤ R.cells := by decide) (hl : n + cap ≤ R.slots := by decide) (hq : q = pc + 2 := by rfl) : Run p l e R s m args below meth c Z own nm bytes maxL ret n0 EE h k n (mkF m pc ls (.int z :: st)) := by
  subst hq; refine Run.sz fun hs => ?_; intro C T locs X Fr0 E
  have hz2 : z.toNatClampNeg = nn := by rw [show z.toNatClampNeg = z.toInt.toNat from rfl, hz]; rfl
  have hneg : ¬ z < 0 := by rw [Int32.lt_iff_toInt_lt, show (0 : Int32).toInt = 0 from by decide]; omega
  have hd' : decode c.code pc = .ok (.newarray .int, 2) := C.2.1 ▸ hd
  have hcap' : z.toNatClampNeg ≤ cap := by omega
  obtain ⟨T', h', cA, X', e', EX, A, st'⟩ := newP (aty := .int) (h := h) (n := z) (rest := st) X C.1 C.2.2.2.2.2.1 w E (g := mkF m pc ls (.int z :: st)) rfl hd' rfl hneg (cap := cap) hcap' hb hc hl
  have hlt : nn < 2 ^ 31 := by have := z.toInt_lt; omega
  obtain ⟨s₂, o, q1, q2⟩ := hr h' h.size rfl hs EX ⟨hlt, _, A, by rw [sz_new]; exact hz2, fun i hi => by simp [newA, newarray.typeOf, defaultValue, hz2, hi]⟩ C T' locs X' Fr0 e'
  exact ⟨s₂, o, st' _ q1, q2⟩
theorem Run.new_byte {z : Int32} (q nn cap : Nat) (w : (Jvm.Cond.arrayClass .byte).before a0 Z = true) (hz : z.toInt = nn) (hd : decode bytes pc = .ok (.newarray .byte, 2)) (hr : ∀ (h' : Heap) (a : Addr), a = h.size → n0 ≤ a → Ext h h' → AI Z h' a .byte nn (fun _ => 0) → Run p l e R s m args below meth c Z own nm bytes maxL ret n0 EE h' (k + 1) (n + cap) (mkF m q ls (.ref a :: st))) (hcap : nn ≤ cap := by decide) (hb : cap * 8 ≤ 536870912 := by decide) (hc : k + 1 ≤ R.cells := by decide) (hl : n + cap ≤ R.slots := by decide) (hq : q = pc + 2 := by rfl) : Run p l e R s m args below meth c Z own nm bytes maxL ret n0 EE h k n (mkF m pc ls (.int z :: st)) := by
  subst hq; refine Run.sz fun hs => ?_; intro C T locs X Fr0 E
  have hz2 : z.toNatClampNeg = nn := by rw [show z.toNatClampNeg = z.toInt.toNat from rfl, hz]; rfl
  have hneg : ¬ z < 0 := by rw [Int32.lt_iff_toInt_lt, show (0 : Int32).toInt = 0 from by decide]; omega
  have hd' : decode c.code pc = .ok (.newarray .byte, 2) := C.2.1 ▸ hd
  have hcap' : z.toNatClampNeg ≤ cap := by omega
  obtain ⟨T', h', cA, X', e', EX, A, st'⟩ := newP (aty := .byte) (h := h) (n := z) (rest := st) X C.1 C.2.2.2.2.2.1 w E (g := mkF m pc ls (.int z :: st)) rfl hd' rfl hneg (cap := cap) hcap' hb hc hl
  have hlt : nn < 2 ^ 31 := by have := z.toInt_lt; omega
  obtain ⟨s₂, o, q1, q2⟩ := hr h' h.size rfl hs EX ⟨hlt, _, A, by rw [sz_new]; exact hz2, fun i hi => by simp [newA, newarray.typeOf, defaultValue, hz2, hi]⟩ C T' locs X' Fr0 e'
  exact ⟨s₂, o, st' _ q1, q2⟩
theorem Run.new_char {z : Int32} (q nn cap : Nat) (w : (Jvm.Cond.arrayClass .char).before a0 Z = true) (hz : z.toInt = nn) (hd : decode bytes pc = .ok (.newarray .char, 2)) (hr : ∀ (h' : Heap) (a : Addr), a = h.size → n0 ≤ a → Ext h h' → AI Z h' a .char nn (fun _ => 0) → Run p l e R s m args below meth c Z own nm bytes maxL ret n0 EE h' (k + 1) (n + cap) (mkF m q ls (.ref a :: st))) (hcap : nn ≤ cap := by decide) (hb : cap * 8 ≤ 536870912 := by decide) (hc : k + 1 ≤ R.cells := by decide) (hl : n + cap ≤ R.slots := by decide) (hq : q = pc + 2 := by rfl) : Run p l e R s m args below meth c Z own nm bytes maxL ret n0 EE h k n (mkF m pc ls (.int z :: st)) := by
  subst hq; refine Run.sz fun hs => ?_; intro C T locs X Fr0 E
  have hz2 : z.toNatClampNeg = nn := by rw [show z.toNatClampNeg = z.toInt.toNat from rfl, hz]; rfl
  have hneg : ¬ z < 0 := by rw [Int32.lt_iff_toInt_lt, show (0 : Int32).toInt = 0 from by decide]; omega
  have hd' : decode c.code pc = .ok (.newarray .char, 2) := C.2.1 ▸ hd
  have hcap' : z.toNatClampNeg ≤ cap := by omega
  obtain ⟨T', h', cA, X', e', EX, A, st'⟩ := newP (aty := .char) (h := h) (n := z) (rest := st) X C.1 C.2.2.2.2.2.1 w E (g := mkF m pc ls (.int z :: st)) rfl hd' rfl hneg (cap := cap) hcap' hb hc hl
  have hlt : nn < 2 ^ 31 := by have := z.toInt_lt; omega
  obtain ⟨s₂, o, q1, q2⟩ := hr h' h.size rfl hs EX ⟨hlt, _, A, by rw [sz_new]; exact hz2, fun i hi => by simp [newA, newarray.typeOf, defaultValue, hz2, hi]⟩ C T' locs X' Fr0 e'
  exact ⟨s₂, o, st' _ q1, q2⟩
theorem Run.new_long {z : Int32} (q nn cap : Nat) (w : (Jvm.Cond.arrayClass .long).before a0 Z = true) (hz : z.toInt = nn) (hd : decode bytes pc = .ok (.newarray .long, 2)) (hr : ∀ (h' : Heap) (a : Addr), a = h.size → n0 ≤ a → Ext h h' → AJ Z h' a nn (fun _ => 0) → Run p l e R s m args below meth c Z own nm bytes maxL ret n0 EE h' (k + 1) (n + cap) (mkF m q ls (.ref a :: st))) (hcap : nn ≤ cap := by decide) (hb : cap * 8 ≤ 536870912 := by decide) (hc : k + 1 ≤ R.cells := by decide) (hl : n + cap ≤ R.slots := by decide) (hq : q = pc + 2 := by rfl) : Run p l e R s m args below meth c Z own nm bytes maxL ret n0 EE h k n (mkF m pc ls (.int z :: st)) := by
  subst hq; refine Run.sz fun hs => ?_; intro C T locs X Fr0 E
  have hz2 : z.toNatClampNeg = nn := by rw [show z.toNatClampNeg = z.toInt.toNat from rfl, hz]; rfl
  have hneg : ¬ z < 0 := by rw [Int32.lt_iff_toInt_lt, show (0 : Int32).toInt = 0 from by decide]; omega
  have hd' : decode c.code pc = .ok (.newarray .long, 2) := C.2.1 ▸ hd
  have hcap' : z.toNatClampNeg ≤ cap := by omega
  obtain ⟨T', h', cA, X', e', EX, A, st'⟩ := newP (aty := .long) (h := h) (n := z) (rest := st) X C.1 C.2.2.2.2.2.1 w E (g := mkF m pc ls (.int z :: st)) rfl hd' rfl hneg (cap := cap) hcap' hb hc hl
  have hlt : nn < 2 ^ 31 := by have := z.toInt_lt; omega
  obtain ⟨s₂, o, q1, q2⟩ := hr h' h.size rfl hs EX ⟨hlt, _, A, by rw [sz_new]; exact hz2, fun i hi => by simp [newA, newarray.typeOf, defaultValue, hz2, hi]⟩ C T' locs X' Fr0 e'
  exact ⟨s₂, o, st' _ q1, q2⟩
theorem getD_all {L : List Value} {d : Value} (h : ∀ x ∈ L, x = d) (i : Nat) : L.getD i d = d := by
  rw [List.getD_eq_getElem?_getD]
  cases q : L[i]? with
  | none => rfl
  | some x => exact h x (List.mem_of_getElem? q)
theorem AI.arv0 {a : Addr} {nn : Nat} (A : AI Z h a .byte nn (fun _ => 0)) {z : Int32} (hz : z.toInt = nn) : ∃ kc, Arv Z h a kc .byte z (List.replicate nn (.int 0)) (.int 0) := by
  obtain ⟨hlt, cl, Ar, S, H⟩ := A
  have g : ∀ i, (List.replicate nn (Value.int 0)).getD i (.int 0) = .int 0 := fun i => getD_all (fun x hx => List.eq_of_mem_replicate hx) i
  refine ⟨cl.cls, cl, Ar, rfl, ?_, ?_, fun i hi => ?_, fun i hi => ?_⟩
  · rw [S, show z.toNatClampNeg = z.toInt.toNat from rfl, hz]; rfl
  · rw [Int32.lt_iff_toInt_lt, show (0 : Int32).toInt = 0 from by decide]; omega
  · rw [g i]; exact H i (by rw [← S]; exact hi)
  · rw [g i]; decide
theorem AI.of_arv0 {a : Addr} {nn : Nat} {kc : ClassId} {z : Int32} {L : List Value} (A : Arv Z h a kc .byte z L (.int 0)) (hz : z.toInt = nn) (hL : ∀ x ∈ L, x = .int 0) : AI Z h a .byte nn (fun _ => 0) := by
  obtain ⟨cl, Ar, -, S, -, H, -⟩ := A
  have S' : cl.slots.size = nn := by rw [S, show z.toNatClampNeg = z.toInt.toNat from rfl, hz]; rfl
  exact ⟨by have := z.toInt_lt; omega, cl, Ar, S', fun i hi => by rw [H i (by rw [S']; exact hi), getD_all hL]⟩
theorem Run.copy0 {a b : Addr} {na nb : Nat} {i : Nat} {nn za zb : Int32} (q W : Nat) (w1 : (Jvm.Cond.methodLink own i Jvm.Stand.acN).before a0 Z = true) (w2 : (Jvm.Cond.native Jvm.Stand.acN).before a0 Z = true) (w3 : (Jvm.Cond.static Jvm.Stand.acN).before a0 Z = true) (w4 : (Jvm.Cond.initialized "java/lang/System").before a0 Z = true)
    (A : AI Z h a .byte na (fun _ => 0)) (B : AI Z h b .byte nb (fun _ => 0)) (hza : za.toInt = na) (hzb : zb.toInt = nb) (hn : 0 ≤ nn.toInt ∧ nn.toInt ≤ na ∧ nn.toInt ≤ nb) (gb : n0 ≤ b) (hd : decode bytes pc = .ok (.invokestatic i, 3))
    (hr : ∀ h' : Heap, Keep h h' [b] → AI Z h' b .byte nb (fun _ => 0) → Run p l e R s m args below meth c Z own nm bytes maxL ret n0 EE h' k n (mkF m q ls st)) (hsz : ls.size = maxL := by rfl) (hf : 1 ≤ R.frames := by decide) (hW : (st.map fun v => v.category).sum ≤ W := by first | exact Nat.le_of_eq rfl | decide) (hl : W + 18 ≤ R.locals := by decide) (hq : q = pc + 3 := by rfl) : Run p l e R s m args below meth c Z own nm bytes maxL ret n0 EE h k n (mkF m pc ls (.int nn :: .int (0 : Int32) :: .ref b :: .int (0 : Int32) :: .ref a :: st)) := by
  subst hq; intro C T locs X Fr0 E
  obtain ⟨ka, A'⟩ := A.arv0 hza
  obtain ⟨kb, B'⟩ := B.arv0 hzb
  have n0' : (0 : Int32).toNatClampNeg = 0 := by decide
  have ez : ∀ z : Int32, z.toNatClampNeg = z.toInt.toNat := fun _ => rfl
  obtain ⟨T', h', L, X', e', N', KP, R', st'⟩ := cpA X C.1 C.2.2.2.2.2.1 C.2.2.2.1 w1 w2 w3 w4 E (sp := 0) (dp := 0) (nn := nn) A' B' (Or.inl ⟨rfl, rfl⟩) (by decide) (by decide) (by rw [Int32.lt_iff_toInt_lt, show (0 : Int32).toInt = 0 from by decide]; omega) (by rw [n0', ez, ez]; omega) (by rw [n0', ez, ez]; omega) rfl (by rw [n0', ez, List.length_replicate]; omega) Fr0 gb (g := mkF m pc ls (.int nn :: .int (0 : Int32) :: .ref b :: .int (0 : Int32) :: .ref a :: st)) rfl (by rw [C.2.2.1]; exact hsz) rfl (C.2.1 ▸ hd) hf (W := W) (by show 2 * 0 + _ ≤ _; omega) (by show W + (nativeFrameWords _ _ 5 + 11) ≤ _; rw [show nativeFrameWords "java/lang/System" "arraycopy" 5 = 7 from by decide]; exact hl)
  have R2 : AI Z h' b .byte nb (fun _ => 0) := AI.of_arv0 R' hzb (fun x hx => by
    simp only [List.mem_append, List.mem_map] at hx
    rcases hx with (hx | ⟨u, -, hx⟩) | hx
    · exact List.eq_of_mem_replicate (List.mem_of_mem_take hx)
    · rw [← hx]; exact getD_all (fun x hx => List.eq_of_mem_replicate hx) _
    · exact List.eq_of_mem_replicate (List.mem_of_mem_drop hx))
  obtain ⟨s₂, o, q1, q2⟩ := hr h' KP R2 C T' _ X' N' e'
  exact ⟨s₂, o, st' _ q1, q2⟩
theorem Run.ind {ι : Type} (P : Nat → ι → Heap → Prop) (fr : ι → JFrame) (step : ∀ (j : Nat) (x : ι) (hL : Heap), P j x hL → (∀ (j' : Nat) (x' : ι) (h' : Heap), j' < j → P j' x' h' → Run p l e R s m args below meth c Z own nm bytes maxL ret n0 EE h' k n (fr x')) → Run p l e R s m args below meth c Z own nm bytes maxL ret n0 EE hL k n (fr x)) (j : Nat) (x : ι) (hP : P j x h) : Run p l e R s m args below meth c Z own nm bytes maxL ret n0 EE h k n (fr x) := by
  have key : ∀ (N0 : Nat) (j : Nat), j < N0 → ∀ (x : ι) (hL : Heap), P j x hL → Run p l e R s m args below meth c Z own nm bytes maxL ret n0 EE hL k n (fr x) := by
    intro N0
    induction N0 with
    | zero => intro j hj; exact absurd hj (Nat.not_lt_zero _)
    | succ N1 ih => intro j hj x hL hP; exact step j x hL hP (fun j' x' h' hlt hP' => ih j' (by omega) x' h' hP')
  exact key (j + 1) j (Nat.lt_succ_self _) x h hP
end Layer
theorem div_toInt {x y : Int32} (hx : 0 ≤ x.toInt) {d : Int} (hy : y.toInt = d) (hd : 0 < d) : (x / y).toInt = x.toInt / d :=
  (c_idiv x y d hy (fun z => by rw [z] at hy; rw [show (-1 : Int32).toInt = -1 from by decide] at hy; omega)).1 hx
theorem rem_toInt {x y : Int32} (hx : 0 ≤ x.toInt) {d : Int} (hy : y.toInt = d) (hd : 0 < d) : (x - (x / y) * y).toInt = x.toInt % d := by
  have h1 := div_toInt hx hy hd
  have h2 := c_imul (x / y) y
  rw [h1, hy, Int.mul_comm] at h2
  have h3 := c_isub x ((x / y) * y)
  have h4 := rng32 (x - (x / y) * y)
  have h5 : x.toInt % d = x.toInt - d * (x.toInt / d) := Int.emod_def _ _
  have h6 := Int.emod_nonneg x.toInt (b := d) (by omega)
  have h7 := Int.emod_lt_of_pos x.toInt hd
  have h8 := rng32 x; have h9 := rng32 y
  omega
theorem and31 (x : Int32) : 0 ≤ (x &&& 2147483647).toInt ∧ (x &&& 2147483647).toInt < 2147483648 := by
  rw [c_mask x 2147483647 31 (by decide) (by decide)]; omega
theorem add_toInt {x y : Int32} {a b : Int} (ha : x.toInt = a) (hb : y.toInt = b) (h1 : -2147483648 ≤ a + b) (h2 : a + b < 2147483648) : (x + y).toInt = a + b := by
  have h3 := c_iadd x y; have h4 := rng32 (x + y); omega
theorem sub_toInt {x y : Int32} {a b : Int} (ha : x.toInt = a) (hb : y.toInt = b) (h1 : -2147483648 ≤ a - b) (h2 : a - b < 2147483648) : (x - y).toInt = a - b := by
  have h3 := c_isub x y; have h4 := rng32 (x - y); omega
theorem inc_toInt {x : Int32} (h : x.toInt + 1 < 2147483648) : (x + 1).toInt = x.toInt + 1 := by
  have h1 := rng32 x; exact add_toInt rfl (by decide) (by omega) h
theorem lt32 {x y : Int32} : x < y ↔ x.toInt < y.toInt := Int32.lt_iff_toInt_lt
theorem lt64 {x y : Int64} : x < y ↔ x.toInt < y.toInt := Int64.lt_iff_toInt_lt
theorem eq32 {x y : Int32} : x = y ↔ x.toInt = y.toInt := Int32.toInt_inj.symm
theorem eq64 {x y : Int64} : x = y ↔ x.toInt = y.toInt := Int64.toInt_inj.symm
theorem nat32 {j : Int32} (h : 0 ≤ j.toInt) : (j.toNatClampNeg : Int) = j.toInt := by rw [show j.toNatClampNeg = j.toInt.toNat from rfl]; omega
theorem nar_c (x : Int32) : nar .char (x.toUInt32.toUInt16.toUInt32.toInt32) = x.toUInt32.toUInt16.toUInt32.toInt32 := by
  show ((x.toUInt32.toUInt16.toUInt32).toUInt16.toUInt32).toInt32 = _
  rw [UInt16.toUInt16_toUInt32]
theorem allb {P : Int8 → Prop} (h : ∀ v : BitVec 8, P (Int8.ofBitVec v)) (b : Int8) : P b := h b.toBitVec
end Jvm.Own

namespace Jvm.Pilot.@@N@@
open Jvm Jvm.ClassFile Sem Op Lib Jvm.Free Jvm.Stand Jvm.LawKit Jvm.RoadKit Bundle Jvm.Pilot.@@N@@.Jvm.D Jvm.Own
theorem d1_0 : decode method_2_code 0 = .ok (.lload 4, 2) := by decide +kernel
theorem d1_2 : decode method_2_code 2 = .ok (.lconst 0, 1) := by decide +kernel
theorem d1_3 : decode method_2_code 3 = .ok (.lcmp, 1) := by decide +kernel
theorem d1_4 : decode method_2_code 4 = .ok (.ifCond .ne 5, 3) := by decide +kernel
theorem d1_9 : decode method_2_code 9 = .ok (.lload_n 0, 1) := by decide +kernel
theorem d1_10 : decode method_2_code 10 = .ok (.lconst 0, 1) := by decide +kernel
theorem d1_11 : decode method_2_code 11 = .ok (.lcmp, 1) := by decide +kernel
theorem d1_12 : decode method_2_code 12 = .ok (.ifCond .ne 5, 3) := by decide +kernel
theorem d1_17 : decode method_2_code 17 = .ok (.lload_n 2, 1) := by decide +kernel
theorem d1_18 : decode method_2_code 18 = .ok (.lconst 0, 1) := by decide +kernel
theorem d1_19 : decode method_2_code 19 = .ok (.lcmp, 1) := by decide +kernel
theorem d1_20 : decode method_2_code 20 = .ok (.ifCond .ne 7, 3) := by decide +kernel
theorem d1_27 : decode method_2_code 27 = .ok (.iconst 0, 1) := by decide +kernel
theorem d1_28 : decode method_2_code 28 = .ok (.istore 8, 2) := by decide +kernel
theorem d1_30 : decode method_2_code 30 = .ok (.lload 6, 2) := by decide +kernel
theorem d1_32 : decode method_2_code 32 = .ok (.lconst 0, 1) := by decide +kernel
theorem d1_33 : decode method_2_code 33 = .ok (.lcmp, 1) := by decide +kernel
theorem d1_34 : decode method_2_code 34 = .ok (.ifCond .ne 7, 3) := by decide +kernel
theorem d1_41 : decode method_2_code 41 = .ok (.iconst 0, 1) := by decide +kernel
theorem d1_42 : decode method_2_code 42 = .ok (.istore 9, 2) := by decide +kernel
theorem d1_44 : decode method_2_code 44 = .ok (.iload 8, 2) := by decide +kernel
theorem d1_46 : decode method_2_code 46 = .ok (.ifCond .eq 14, 3) := by decide +kernel
theorem d1_60 : decode method_2_code 60 = .ok (.iload 9, 2) := by decide +kernel
theorem d1_62 : decode method_2_code 62 = .ok (.ifCond .eq 5, 3) := by decide +kernel
theorem d1_67 : decode method_2_code 67 = .ok (.lload_n 0, 1) := by decide +kernel
theorem d1_68 : decode method_2_code 68 = .ok (.lload 6, 2) := by decide +kernel
theorem d1_70 : decode method_2_code 70 = .ok (.lmul, 1) := by decide +kernel
theorem d1_71 : decode method_2_code 71 = .ok (.lload 4, 2) := by decide +kernel
theorem d1_73 : decode method_2_code 73 = .ok (.lload_n 2, 1) := by decide +kernel
theorem d1_74 : decode method_2_code 74 = .ok (.lmul, 1) := by decide +kernel
theorem d1_75 : decode method_2_code 75 = .ok (.lcmp, 1) := by decide +kernel
theorem d1_76 : decode method_2_code 76 = .ok (.ifCond .le 7, 3) := by decide +kernel
theorem d1_83 : decode method_2_code 83 = .ok (.iconst 0, 1) := by decide +kernel
theorem d1_84 : decode method_2_code 84 = .ok (.ireturn, 1) := by decide +kernel
theorem d1_79 : decode method_2_code 79 = .ok (.iconst 1, 1) := by decide +kernel
theorem d1_80 : decode method_2_code 80 = .ok (.goto 4, 3) := by decide +kernel
theorem d1_37 : decode method_2_code 37 = .ok (.iconst 1, 1) := by decide +kernel
theorem d1_38 : decode method_2_code 38 = .ok (.goto 4, 3) := by decide +kernel
theorem d1_65 : decode method_2_code 65 = .ok (.iconst 0, 1) := by decide +kernel
theorem d1_66 : decode method_2_code 66 = .ok (.ireturn, 1) := by decide +kernel
theorem d1_23 : decode method_2_code 23 = .ok (.iconst 1, 1) := by decide +kernel
theorem d1_24 : decode method_2_code 24 = .ok (.goto 4, 3) := by decide +kernel
theorem d1_49 : decode method_2_code 49 = .ok (.iload 9, 2) := by decide +kernel
theorem d1_51 : decode method_2_code 51 = .ok (.ifCond .ne 7, 3) := by decide +kernel
theorem d1_54 : decode method_2_code 54 = .ok (.iconst 1, 1) := by decide +kernel
theorem d1_55 : decode method_2_code 55 = .ok (.goto 4, 3) := by decide +kernel
theorem d1_59 : decode method_2_code 59 = .ok (.ireturn, 1) := by decide +kernel
theorem d1_58 : decode method_2_code 58 = .ok (.iconst 0, 1) := by decide +kernel
theorem d1_15 : decode method_2_code 15 = .ok (.iconst 0, 1) := by decide +kernel
theorem d1_16 : decode method_2_code 16 = .ok (.ireturn, 1) := by decide +kernel
theorem d1_7 : decode method_2_code 7 = .ok (.iconst 1, 1) := by decide +kernel
theorem d1_8 : decode method_2_code 8 = .ok (.ireturn, 1) := by decide +kernel
def F_rmW (q0 : Int64) (q1 : Int64) (q2 : Int64) (q3 : Int64) : Int32 := (if q2 = (0 : Int64) then (1 : Int32) else (if q0 = (0 : Int64) then (0 : Int32) else (if q1 = (0 : Int64) then (if q3 = (0 : Int64) then (0 : Int32) else (1 : Int32)) else (if q3 = (0 : Int64) then (0 : Int32) else (if (q2 * q1) < (q0 * q3) then (1 : Int32) else (0 : Int32))))))
theorem ef_rmW (m : MethodId) (x0 : Int64) (x1 : Int64) (x2 : Int64) (x3 : Int64) : entryFrame m #[(.long x0), (.long x1), (.long x2), (.long x3)] 10 = mkF m 0 #[.val (.long x0), .second, .val (.long x1), .second, .val (.long x2), .second, .val (.long x3), .second, .unset, .unset] [] := by first | (simp [entryFrame, mkF, argsToLocals, Value.category]; done) | rfl
set_option maxRecDepth 65536 in
set_option maxHeartbeats 40000000 in
theorem rmW {l : Launch} {Z : State} {a0 : Array Value} (hw : ∀ d ∈ tables_1, d.before a0 Z = true) (q0 : Int64) (q1 : Int64) (q2 : Int64) (q3 : Int64)  (h0 : Heap) (n0 : Nat) (Z0 : n0 ≤ h0.size) :
    Pays l Z (⟨"com/example/revisit/revisit/query/ReadCostAddPinLaw", "worse", "(JJJJ)Z"⟩ : MethodName) method_2_code 10 (some .boolean) ({ frames := 0, cells := 0, slots := 0, locals := 0 } : Room) #[(.long q0), (.long q1), (.long q2), (.long q3)] h0 n0 (fun v h' => v = some (.int (F_rmW q0 q1 q2 q3)) ∧ h0 = h') := by
  refine Pays.of (ls := #[.val (.long q0), .second, .val (.long q1), .second, .val (.long q2), .second, .val (.long q3), .second, .unset, .unset]) (plainFor_of_name (by first | (simp [plainName, overriddenIn]; done) | decide +kernel)) (fun m => ef_rmW m q0 q1 q2 q3) Z0 (fun p e s m below meth c => ?_)
  refine Run.lload 2 d1_0 rfl ?_
  refine Run.lconst (0 : Int64) 3 d1_2 ?_
  refine Run.lne 9 7 d1_3 d1_4 (fun hc4 => ?_) (fun hc4 => ?_)
  · refine Run.lloadN 10 d1_9 rfl ?_
    refine Run.lconst (0 : Int64) 11 d1_10 ?_
    refine Run.lne 17 15 d1_11 d1_12 (fun hc12 => ?_) (fun hc12 => ?_)
    · refine Run.lloadN 18 d1_17 rfl ?_
      refine Run.lconst (0 : Int64) 19 d1_18 ?_
      refine Run.lne 27 23 d1_19 d1_20 (fun hc20 => ?_) (fun hc20 => ?_)
      · refine Run.iconst (0 : Int32) 28 d1_27 ?_
        refine Run.istore 30 #[.val (.long q0), .second, .val (.long q1), .second, .val (.long q2), .second, .val (.long q3), .second, .val (.int (0 : Int32)), .unset] d1_28 ?_
        refine Run.lload 32 d1_30 rfl ?_
        refine Run.lconst (0 : Int64) 33 d1_32 ?_
        refine Run.lne 41 37 d1_33 d1_34 (fun hc34 => ?_) (fun hc34 => ?_)
        · refine Run.iconst (0 : Int32) 42 d1_41 ?_
          refine Run.istore 44 #[.val (.long q0), .second, .val (.long q1), .second, .val (.long q2), .second, .val (.long q3), .second, .val (.int (0 : Int32)), .val (.int (0 : Int32))] d1_42 ?_
          refine Run.iload 46 d1_44 rfl ?_
          refine Run.eq0Y 60 d1_46 (by decide) ?_
          refine Run.iload 62 d1_60 rfl ?_
          refine Run.eq0Y 67 d1_62 (by decide) ?_
          refine Run.lloadN 68 d1_67 rfl ?_
          refine Run.lload 70 d1_68 rfl ?_
          refine Run.lmul (q0 * q3) 71 d1_70 ?_
          refine Run.lload 73 d1_71 rfl ?_
          refine Run.lloadN 74 d1_73 rfl ?_
          refine Run.lmul (q2 * q1) 75 d1_74 ?_
          refine Run.lle 83 79 d1_75 d1_76 (fun hc76 => ?_) (fun hc76 => ?_)
          · refine Run.iconst (0 : Int32) 84 d1_83 ?_
            exact Run.ret0 d1_84 ⟨congrArg some (congrArg Value.int (by unfold F_rmW; rw [if_neg hc4, if_neg hc12, if_neg hc20, if_neg hc34, if_neg hc76])), rfl⟩
          · refine Run.iconst (1 : Int32) 80 d1_79 ?_
            refine Run.goto 84 d1_80 ?_
            exact Run.ret1 d1_84 ⟨congrArg some (congrArg Value.int (by unfold F_rmW; rw [if_neg hc4, if_neg hc12, if_neg hc20, if_neg hc34, if_pos hc76])), rfl⟩
        · refine Run.iconst (1 : Int32) 38 d1_37 ?_
          refine Run.goto 42 d1_38 ?_
          refine Run.istore 44 #[.val (.long q0), .second, .val (.long q1), .second, .val (.long q2), .second, .val (.long q3), .second, .val (.int (0 : Int32)), .val (.int (1 : Int32))] d1_42 ?_
          refine Run.iload 46 d1_44 rfl ?_
          refine Run.eq0Y 60 d1_46 (by decide) ?_
          refine Run.iload 62 d1_60 rfl ?_
          refine Run.eq0N 65 d1_62 (by decide) ?_
          refine Run.iconst (0 : Int32) 66 d1_65 ?_
          exact Run.ret0 d1_66 ⟨congrArg some (congrArg Value.int (by unfold F_rmW; rw [if_neg hc4, if_neg hc12, if_neg hc20, if_pos hc34])), rfl⟩
      · refine Run.iconst (1 : Int32) 24 d1_23 ?_
        refine Run.goto 28 d1_24 ?_
        refine Run.istore 30 #[.val (.long q0), .second, .val (.long q1), .second, .val (.long q2), .second, .val (.long q3), .second, .val (.int (1 : Int32)), .unset] d1_28 ?_
        refine Run.lload 32 d1_30 rfl ?_
        refine Run.lconst (0 : Int64) 33 d1_32 ?_
        refine Run.lne 41 37 d1_33 d1_34 (fun hc34 => ?_) (fun hc34 => ?_)
        · refine Run.iconst (0 : Int32) 42 d1_41 ?_
          refine Run.istore 44 #[.val (.long q0), .second, .val (.long q1), .second, .val (.long q2), .second, .val (.long q3), .second, .val (.int (1 : Int32)), .val (.int (0 : Int32))] d1_42 ?_
          refine Run.iload 46 d1_44 rfl ?_
          refine Run.eq0N 49 d1_46 (by decide) ?_
          refine Run.iload 51 d1_49 rfl ?_
          refine Run.ne0N 54 d1_51 (by decide) ?_
          refine Run.iconst (1 : Int32) 55 d1_54 ?_
          refine Run.goto 59 d1_55 ?_
          exact Run.ret1 d1_59 ⟨congrArg some (congrArg Value.int (by unfold F_rmW; rw [if_neg hc4, if_neg hc12, if_pos hc20, if_neg hc34])), rfl⟩
        · refine Run.iconst (1 : Int32) 38 d1_37 ?_
          refine Run.goto 42 d1_38 ?_
          refine Run.istore 44 #[.val (.long q0), .second, .val (.long q1), .second, .val (.long q2), .second, .val (.long q3), .second, .val (.int (1 : Int32)), .val (.int (1 : Int32))] d1_42 ?_
          refine Run.iload 46 d1_44 rfl ?_
          refine Run.eq0N 49 d1_46 (by decide) ?_
          refine Run.iload 51 d1_49 rfl ?_
          refine Run.ne0Y 58 d1_51 (by decide) ?_
          refine Run.iconst (0 : Int32) 59 d1_58 ?_
          exact Run.ret0 d1_59 ⟨congrArg some (congrArg Value.int (by unfold F_rmW; rw [if_neg hc4, if_neg hc12, if_pos hc20, if_pos hc34])), rfl⟩
    · refine Run.iconst (0 : Int32) 16 d1_15 ?_
      exact Run.ret0 d1_16 ⟨congrArg some (congrArg Value.int (by unfold F_rmW; rw [if_neg hc4, if_pos hc12])), rfl⟩
  · refine Run.iconst (1 : Int32) 8 d1_7 ?_
    exact Run.ret1 d1_8 ⟨congrArg some (congrArg Value.int (by unfold F_rmW; rw [if_pos hc4])), rfl⟩
theorem d2_0 : decode prog_64_method_1_code 0 = .ok (.aload_n 0, 1) := by decide +kernel
theorem d2_1 : decode prog_64_method_1_code 1 = .ok (.invokespecial 1, 3) := by decide +kernel
theorem d2_4 : decode prog_64_method_1_code 4 = .ok (.return_, 1) := by decide +kernel
theorem ef_rmI (m : MethodId) (x0 : Addr) : entryFrame m #[(.ref x0)] 1 = mkF m 0 #[.val (.ref x0)] [] := by first | (simp [entryFrame, mkF, argsToLocals, Value.category]; done) | rfl
set_option maxRecDepth 65536 in
set_option maxHeartbeats 40000000 in
theorem rmI {l : Launch} {Z : State} {a0 : Array Value} (hw : ∀ d ∈ tables_1, d.before a0 Z = true) (r0 : Addr)  (h0 : Heap) (n0 : Nat) (Z0 : n0 ≤ h0.size) :
    Pays l Z (⟨"com/example/revisit/revisit/query/ReadCost", "<init>", "()V"⟩ : MethodName) prog_64_method_1_code 1 none ({ frames := 1, cells := 0, slots := 0, locals := 12 } : Room) #[(.ref r0)] h0 n0 (fun v h' => v = none ∧ h0 = h') := by
  refine Pays.of (ls := #[.val (.ref r0)]) (plainFor_of_name (by first | (simp [plainName, overriddenIn]; done) | decide +kernel)) (fun m => ef_rmI m r0) Z0 (fun p e s m below meth c => ?_)
  refine Run.aloadN 1 d2_0 rfl ?_
  refine Run.initO 4 0 (hw _ (List.mem_of_getElem? (i := 11) rfl)) (hw _ (List.mem_of_getElem? (i := 12) rfl)) (hw _ (List.mem_of_getElem? (i := 13) rfl)) d2_1 ?_
  exact Run.retV d2_4 ⟨rfl, rfl⟩
def own_wr (r v wr wv : Int64) : Int64 := if wr = 0 then r else if wr * v < r * wv then r else wr
def own_wv (r v wr wv : Int64) : Int64 := if wr = 0 then v else if wr * v < r * wv then v else wv
theorem d4_0 : decode prog_64_method_2_code 0 = .ok (.aload_n 0, 1) := by decide +kernel
theorem d4_1 : decode prog_64_method_2_code 1 = .ok (.dup, 1) := by decide +kernel
theorem d4_2 : decode prog_64_method_2_code 2 = .ok (.getfield 7, 3) := by decide +kernel
theorem d4_5 : decode prog_64_method_2_code 5 = .ok (.lload_n 1, 1) := by decide +kernel
theorem d4_6 : decode prog_64_method_2_code 6 = .ok (.ladd, 1) := by decide +kernel
theorem d4_7 : decode prog_64_method_2_code 7 = .ok (.putfield 7, 3) := by decide +kernel
theorem d4_10 : decode prog_64_method_2_code 10 = .ok (.aload_n 0, 1) := by decide +kernel
theorem d4_11 : decode prog_64_method_2_code 11 = .ok (.dup, 1) := by decide +kernel
theorem d4_12 : decode prog_64_method_2_code 12 = .ok (.getfield 13, 3) := by decide +kernel
theorem d4_15 : decode prog_64_method_2_code 15 = .ok (.lload_n 3, 1) := by decide +kernel
theorem d4_16 : decode prog_64_method_2_code 16 = .ok (.ladd, 1) := by decide +kernel
theorem d4_17 : decode prog_64_method_2_code 17 = .ok (.putfield 13, 3) := by decide +kernel
theorem d4_20 : decode prog_64_method_2_code 20 = .ok (.aload_n 0, 1) := by decide +kernel
theorem d4_21 : decode prog_64_method_2_code 21 = .ok (.getfield 16, 3) := by decide +kernel
theorem d4_24 : decode prog_64_method_2_code 24 = .ok (.lconst 0, 1) := by decide +kernel
theorem d4_25 : decode prog_64_method_2_code 25 = .ok (.lcmp, 1) := by decide +kernel
theorem d4_26 : decode prog_64_method_2_code 26 = .ok (.ifCond .eq 19, 3) := by decide +kernel
theorem d4_45 : decode prog_64_method_2_code 45 = .ok (.aload_n 0, 1) := by decide +kernel
theorem d4_46 : decode prog_64_method_2_code 46 = .ok (.lload_n 1, 1) := by decide +kernel
theorem d4_47 : decode prog_64_method_2_code 47 = .ok (.putfield 16, 3) := by decide +kernel
theorem d4_50 : decode prog_64_method_2_code 50 = .ok (.aload_n 0, 1) := by decide +kernel
theorem d4_51 : decode prog_64_method_2_code 51 = .ok (.lload_n 3, 1) := by decide +kernel
theorem d4_52 : decode prog_64_method_2_code 52 = .ok (.putfield 19, 3) := by decide +kernel
theorem d4_55 : decode prog_64_method_2_code 55 = .ok (.return_, 1) := by decide +kernel
theorem d4_29 : decode prog_64_method_2_code 29 = .ok (.lload_n 1, 1) := by decide +kernel
theorem d4_30 : decode prog_64_method_2_code 30 = .ok (.aload_n 0, 1) := by decide +kernel
theorem d4_31 : decode prog_64_method_2_code 31 = .ok (.getfield 19, 3) := by decide +kernel
theorem d4_34 : decode prog_64_method_2_code 34 = .ok (.lmul, 1) := by decide +kernel
theorem d4_35 : decode prog_64_method_2_code 35 = .ok (.aload_n 0, 1) := by decide +kernel
theorem d4_36 : decode prog_64_method_2_code 36 = .ok (.getfield 16, 3) := by decide +kernel
theorem d4_39 : decode prog_64_method_2_code 39 = .ok (.lload_n 3, 1) := by decide +kernel
theorem d4_40 : decode prog_64_method_2_code 40 = .ok (.lmul, 1) := by decide +kernel
theorem d4_41 : decode prog_64_method_2_code 41 = .ok (.lcmp, 1) := by decide +kernel
theorem d4_42 : decode prog_64_method_2_code 42 = .ok (.ifCond .le 13, 3) := by decide +kernel
theorem ef_rmA (m : MethodId) (x0 : Addr) (x1 : Int64) (x2 : Int64) : entryFrame m #[(.ref x0), (.long x1), (.long x2)] 5 = mkF m 0 #[.val (.ref x0), .val (.long x1), .second, .val (.long x2), .second] [] := by first | (simp [entryFrame, mkF, argsToLocals, Value.category]; done) | rfl
set_option maxRecDepth 65536 in
set_option maxHeartbeats 40000000 in
theorem rmA {l : Launch} {Z : State} {a0 : Array Value} (hw : ∀ d ∈ tables_1, d.before a0 Z = true) (r0 : Addr) (q1 : Int64) (q2 : Int64) (w_read : Int64) (w_valid : Int64) (w_worstRead : Int64) (w_worstValid : Int64) (h0 : Heap) (n0 : Nat) (Z0 : n0 ≤ h0.size) (pf0 : Exa Z h0 r0 "com/example/revisit/revisit/query/ReadCost") (pf1 : Fld Z h0 r0 "com/example/revisit/revisit/query/ReadCost" "read" "J" (.long w_read)) (pf2 : Fld Z h0 r0 "com/example/revisit/revisit/query/ReadCost" "valid" "J" (.long w_valid)) (pf3 : Fld Z h0 r0 "com/example/revisit/revisit/query/ReadCost" "worstRead" "J" (.long w_worstRead)) (pf4 : Fld Z h0 r0 "com/example/revisit/revisit/query/ReadCost" "worstValid" "J" (.long w_worstValid)) (pf5 : n0 ≤ r0) :
    Pays l Z (⟨"com/example/revisit/revisit/query/ReadCost", "add", "(JJ)V"⟩ : MethodName) prog_64_method_2_code 5 none ({ frames := 0, cells := 0, slots := 0, locals := 0 } : Room) #[(.ref r0), (.long q1), (.long q2)] h0 n0 (fun v h' => v = none ∧ Keep h0 h' [r0] ∧ Exa Z h' r0 "com/example/revisit/revisit/query/ReadCost" ∧ Fld Z h' r0 "com/example/revisit/revisit/query/ReadCost" "read" "J" (.long (w_read + q1)) ∧ Fld Z h' r0 "com/example/revisit/revisit/query/ReadCost" "valid" "J" (.long (w_valid + q2)) ∧ Fld Z h' r0 "com/example/revisit/revisit/query/ReadCost" "worstRead" "J" (.long (own_wr q1 q2 w_worstRead w_worstValid)) ∧ Fld Z h' r0 "com/example/revisit/revisit/query/ReadCost" "worstValid" "J" (.long (own_wv q1 q2 w_worstRead w_worstValid))) := by
  refine Pays.of (ls := #[.val (.ref r0), .val (.long q1), .second, .val (.long q2), .second]) (plainFor_of_name (by first | (simp [plainName, overriddenIn]; done) | decide +kernel)) (fun m => ef_rmA m r0 q1 q2) Z0 (fun p e s m below meth c => ?_)
  refine Run.aloadN 1 d4_0 rfl ?_
  refine Run.dup 2 d4_1 ?_
  refine Run.getF 5 (Or.inl (hw _ (List.mem_of_getElem? (i := 19) rfl))) (host := "") Via.refl pf1 d4_2 ?_
  refine Run.lloadN 6 d4_5 rfl ?_
  refine Run.ladd (w_read + q1) 7 d4_6 ?_
  refine Run.putF 10 (Or.inl (hw _ (List.mem_of_getElem? (i := 19) rfl))) (host := "") Via.refl pf1 pf0 (Or.inl (hw _ (List.mem_of_getElem? (i := 20) rfl))) (hw _ (List.mem_of_getElem? (i := 6) rfl)) (ty := .long) (by decide) pf5 d4_7 (fun h1 W1 => ?_)
  have F1 := pf1.same W1
  refine Run.aloadN 11 d4_10 rfl ?_
  refine Run.dup 12 d4_11 ?_
  have f2 := (pf2.other W1 (Or.inr (slot_ne (Or.inl (hw _ (List.mem_of_getElem? (i := 22) rfl))) (Or.inl (hw _ (List.mem_of_getElem? (i := 20) rfl))) (by decide) (t := .long) (t' := .long) (by decide) (by decide))))
  refine Run.getF 15 (Or.inl (hw _ (List.mem_of_getElem? (i := 21) rfl))) (host := "") Via.refl f2 d4_12 ?_
  refine Run.lloadN 16 d4_15 rfl ?_
  refine Run.ladd (w_valid + q2) 17 d4_16 ?_
  have f3 := (pf0.wr W1)
  refine Run.putF 20 (Or.inl (hw _ (List.mem_of_getElem? (i := 21) rfl))) (host := "") Via.refl f2 f3 (Or.inl (hw _ (List.mem_of_getElem? (i := 22) rfl))) (hw _ (List.mem_of_getElem? (i := 6) rfl)) (ty := .long) (by decide) pf5 d4_17 (fun h4 W4 => ?_)
  have F4 := f2.same W4
  refine Run.aloadN 21 d4_20 rfl ?_
  have f5 := ((pf3.other W1 (Or.inr (slot_ne (Or.inl (hw _ (List.mem_of_getElem? (i := 24) rfl))) (Or.inl (hw _ (List.mem_of_getElem? (i := 20) rfl))) (by decide) (t := .long) (t' := .long) (by decide) (by decide)))).other W4 (Or.inr (slot_ne (Or.inl (hw _ (List.mem_of_getElem? (i := 24) rfl))) (Or.inl (hw _ (List.mem_of_getElem? (i := 22) rfl))) (by decide) (t := .long) (t' := .long) (by decide) (by decide))))
  refine Run.getF 24 (Or.inl (hw _ (List.mem_of_getElem? (i := 23) rfl))) (host := "") Via.refl f5 d4_21 ?_
  refine Run.lconst (0 : Int64) 25 d4_24 ?_
  refine Run.leq 45 29 d4_25 d4_26 (fun hc26 => ?_) (fun hc26 => ?_)
  · refine Run.aloadN 46 d4_45 rfl ?_
    refine Run.lloadN 47 d4_46 rfl ?_
    have f6 := (f3.wr W4)
    refine Run.putF 50 (Or.inl (hw _ (List.mem_of_getElem? (i := 23) rfl))) (host := "") Via.refl f5 f6 (Or.inl (hw _ (List.mem_of_getElem? (i := 24) rfl))) (hw _ (List.mem_of_getElem? (i := 6) rfl)) (ty := .long) (by decide) pf5 d4_47 (fun h7 W7 => ?_)
    have F7 := f5.same W7
    refine Run.aloadN 51 d4_50 rfl ?_
    refine Run.lloadN 52 d4_51 rfl ?_
    have f8 := (((pf4.other W1 (Or.inr (slot_ne (Or.inl (hw _ (List.mem_of_getElem? (i := 26) rfl))) (Or.inl (hw _ (List.mem_of_getElem? (i := 20) rfl))) (by decide) (t := .long) (t' := .long) (by decide) (by decide)))).other W4 (Or.inr (slot_ne (Or.inl (hw _ (List.mem_of_getElem? (i := 26) rfl))) (Or.inl (hw _ (List.mem_of_getElem? (i := 22) rfl))) (by decide) (t := .long) (t' := .long) (by decide) (by decide)))).other W7 (Or.inr (slot_ne (Or.inl (hw _ (List.mem_of_getElem? (i := 26) rfl))) (Or.inl (hw _ (List.mem_of_getElem? (i := 24) rfl))) (by decide) (t := .long) (t' := .long) (by decide) (by decide))))
    have f9 := (f6.wr W7)
    refine Run.putF 55 (Or.inl (hw _ (List.mem_of_getElem? (i := 25) rfl))) (host := "") Via.refl f8 f9 (Or.inl (hw _ (List.mem_of_getElem? (i := 26) rfl))) (hw _ (List.mem_of_getElem? (i := 6) rfl)) (ty := .long) (by decide) pf5 d4_52 (fun h10 W10 => ?_)
    have F10 := f8.same W10
    have f11 := (f9.wr W10)
    have f12 := (((F1.other W4 (Or.inr (slot_ne (Or.inl (hw _ (List.mem_of_getElem? (i := 20) rfl))) (Or.inl (hw _ (List.mem_of_getElem? (i := 22) rfl))) (by decide) (t := .long) (t' := .long) (by decide) (by decide)))).other W7 (Or.inr (slot_ne (Or.inl (hw _ (List.mem_of_getElem? (i := 20) rfl))) (Or.inl (hw _ (List.mem_of_getElem? (i := 24) rfl))) (by decide) (t := .long) (t' := .long) (by decide) (by decide)))).other W10 (Or.inr (slot_ne (Or.inl (hw _ (List.mem_of_getElem? (i := 20) rfl))) (Or.inl (hw _ (List.mem_of_getElem? (i := 26) rfl))) (by decide) (t := .long) (t' := .long) (by decide) (by decide))))
    have f13 := ((F4.other W7 (Or.inr (slot_ne (Or.inl (hw _ (List.mem_of_getElem? (i := 22) rfl))) (Or.inl (hw _ (List.mem_of_getElem? (i := 24) rfl))) (by decide) (t := .long) (t' := .long) (by decide) (by decide)))).other W10 (Or.inr (slot_ne (Or.inl (hw _ (List.mem_of_getElem? (i := 22) rfl))) (Or.inl (hw _ (List.mem_of_getElem? (i := 26) rfl))) (by decide) (t := .long) (t' := .long) (by decide) (by decide))))
    have f14 := (F7.other W10 (Or.inr (slot_ne (Or.inl (hw _ (List.mem_of_getElem? (i := 24) rfl))) (Or.inl (hw _ (List.mem_of_getElem? (i := 26) rfl))) (by decide) (t := .long) (t' := .long) (by decide) (by decide))))
    exact Run.retV d4_55 ⟨rfl, (((((Keep.refl h0 [r0]).wr W1 (Or.inl (List.mem_of_getElem? (i := 0) rfl))).wr W4 (Or.inl (List.mem_of_getElem? (i := 0) rfl))).wr W7 (Or.inl (List.mem_of_getElem? (i := 0) rfl))).wr W10 (Or.inl (List.mem_of_getElem? (i := 0) rfl))), f11, f12, f13, (by unfold own_wr; rw [if_pos hc26]; exact f14), (by unfold own_wv; rw [if_pos hc26]; exact F10)⟩
  · refine Run.lloadN 30 d4_29 rfl ?_
    refine Run.aloadN 31 d4_30 rfl ?_
    have f15 := ((pf4.other W1 (Or.inr (slot_ne (Or.inl (hw _ (List.mem_of_getElem? (i := 26) rfl))) (Or.inl (hw _ (List.mem_of_getElem? (i := 20) rfl))) (by decide) (t := .long) (t' := .long) (by decide) (by decide)))).other W4 (Or.inr (slot_ne (Or.inl (hw _ (List.mem_of_getElem? (i := 26) rfl))) (Or.inl (hw _ (List.mem_of_getElem? (i := 22) rfl))) (by decide) (t := .long) (t' := .long) (by decide) (by decide))))
    refine Run.getF 34 (Or.inl (hw _ (List.mem_of_getElem? (i := 25) rfl))) (host := "") Via.refl f15 d4_31 ?_
    refine Run.lmul (q1 * w_worstValid) 35 d4_34 ?_
    refine Run.aloadN 36 d4_35 rfl ?_
    refine Run.getF 39 (Or.inl (hw _ (List.mem_of_getElem? (i := 23) rfl))) (host := "") Via.refl f5 d4_36 ?_
    refine Run.lloadN 40 d4_39 rfl ?_
    refine Run.lmul (w_worstRead * q2) 41 d4_40 ?_
    refine Run.lle 55 45 d4_41 d4_42 (fun hc42 => ?_) (fun hc42 => ?_)
    · have f16 := (f3.wr W4)
      have f17 := (F1.other W4 (Or.inr (slot_ne (Or.inl (hw _ (List.mem_of_getElem? (i := 20) rfl))) (Or.inl (hw _ (List.mem_of_getElem? (i := 22) rfl))) (by decide) (t := .long) (t' := .long) (by decide) (by decide))))
      exact Run.retV d4_55 ⟨rfl, (((Keep.refl h0 [r0]).wr W1 (Or.inl (List.mem_of_getElem? (i := 0) rfl))).wr W4 (Or.inl (List.mem_of_getElem? (i := 0) rfl))), f16, f17, F4, (by unfold own_wr; rw [if_neg hc26, if_neg hc42]; exact f5), (by unfold own_wv; rw [if_neg hc26, if_neg hc42]; exact f15)⟩
    · refine Run.aloadN 46 d4_45 rfl ?_
      refine Run.lloadN 47 d4_46 rfl ?_
      have f18 := (f3.wr W4)
      refine Run.putF 50 (Or.inl (hw _ (List.mem_of_getElem? (i := 23) rfl))) (host := "") Via.refl f5 f18 (Or.inl (hw _ (List.mem_of_getElem? (i := 24) rfl))) (hw _ (List.mem_of_getElem? (i := 6) rfl)) (ty := .long) (by decide) pf5 d4_47 (fun h19 W19 => ?_)
      have F19 := f5.same W19
      refine Run.aloadN 51 d4_50 rfl ?_
      refine Run.lloadN 52 d4_51 rfl ?_
      have f20 := (f15.other W19 (Or.inr (slot_ne (Or.inl (hw _ (List.mem_of_getElem? (i := 26) rfl))) (Or.inl (hw _ (List.mem_of_getElem? (i := 24) rfl))) (by decide) (t := .long) (t' := .long) (by decide) (by decide))))
      have f21 := (f18.wr W19)
      refine Run.putF 55 (Or.inl (hw _ (List.mem_of_getElem? (i := 25) rfl))) (host := "") Via.refl f20 f21 (Or.inl (hw _ (List.mem_of_getElem? (i := 26) rfl))) (hw _ (List.mem_of_getElem? (i := 6) rfl)) (ty := .long) (by decide) pf5 d4_52 (fun h22 W22 => ?_)
      have F22 := f20.same W22
      have f23 := (f21.wr W22)
      have f24 := (((F1.other W4 (Or.inr (slot_ne (Or.inl (hw _ (List.mem_of_getElem? (i := 20) rfl))) (Or.inl (hw _ (List.mem_of_getElem? (i := 22) rfl))) (by decide) (t := .long) (t' := .long) (by decide) (by decide)))).other W19 (Or.inr (slot_ne (Or.inl (hw _ (List.mem_of_getElem? (i := 20) rfl))) (Or.inl (hw _ (List.mem_of_getElem? (i := 24) rfl))) (by decide) (t := .long) (t' := .long) (by decide) (by decide)))).other W22 (Or.inr (slot_ne (Or.inl (hw _ (List.mem_of_getElem? (i := 20) rfl))) (Or.inl (hw _ (List.mem_of_getElem? (i := 26) rfl))) (by decide) (t := .long) (t' := .long) (by decide) (by decide))))
      have f25 := ((F4.other W19 (Or.inr (slot_ne (Or.inl (hw _ (List.mem_of_getElem? (i := 22) rfl))) (Or.inl (hw _ (List.mem_of_getElem? (i := 24) rfl))) (by decide) (t := .long) (t' := .long) (by decide) (by decide)))).other W22 (Or.inr (slot_ne (Or.inl (hw _ (List.mem_of_getElem? (i := 22) rfl))) (Or.inl (hw _ (List.mem_of_getElem? (i := 26) rfl))) (by decide) (t := .long) (t' := .long) (by decide) (by decide))))
      have f26 := (F19.other W22 (Or.inr (slot_ne (Or.inl (hw _ (List.mem_of_getElem? (i := 24) rfl))) (Or.inl (hw _ (List.mem_of_getElem? (i := 26) rfl))) (by decide) (t := .long) (t' := .long) (by decide) (by decide))))
      exact Run.retV d4_55 ⟨rfl, (((((Keep.refl h0 [r0]).wr W1 (Or.inl (List.mem_of_getElem? (i := 0) rfl))).wr W4 (Or.inl (List.mem_of_getElem? (i := 0) rfl))).wr W19 (Or.inl (List.mem_of_getElem? (i := 0) rfl))).wr W22 (Or.inl (List.mem_of_getElem? (i := 0) rfl))), f23, f24, f25, (by unfold own_wr; rw [if_neg hc26, if_pos hc42]; exact f26), (by unfold own_wv; rw [if_neg hc26, if_pos hc42]; exact F22)⟩
theorem d5_0 : decode prog_64_method_3_code 0 = .ok (.aload_n 0, 1) := by decide +kernel
theorem d5_1 : decode prog_64_method_3_code 1 = .ok (.getfield 7, 3) := by decide +kernel
theorem d5_4 : decode prog_64_method_3_code 4 = .ok (.lreturn, 1) := by decide +kernel
theorem ef_rm_read (m : MethodId) (x0 : Addr) : entryFrame m #[(.ref x0)] 1 = mkF m 0 #[.val (.ref x0)] [] := by first | (simp [entryFrame, mkF, argsToLocals, Value.category]; done) | rfl
set_option maxRecDepth 65536 in
set_option maxHeartbeats 40000000 in
theorem rm_read {l : Launch} {Z : State} {a0 : Array Value} (hw : ∀ d ∈ tables_1, d.before a0 Z = true) (r0 : Addr) (w : Int64) (h0 : Heap) (n0 : Nat) (Z0 : n0 ≤ h0.size) (pf0 : Fld Z h0 r0 "com/example/revisit/revisit/query/ReadCost" "read" "J" (.long w)) :
    Pays l Z (⟨"com/example/revisit/revisit/query/ReadCost", "read", "()J"⟩ : MethodName) prog_64_method_3_code 1 (some .long) ({ frames := 0, cells := 0, slots := 0, locals := 0 } : Room) #[(.ref r0)] h0 n0 (fun v h' => v = some (.long w) ∧ h0 = h') := by
  refine Pays.of (ls := #[.val (.ref r0)]) (plainFor_of_name (by first | (simp [plainName, overriddenIn]; done) | decide +kernel)) (fun m => ef_rm_read m r0) Z0 (fun p e s m below meth c => ?_)
  refine Run.aloadN 1 d5_0 rfl ?_
  refine Run.getF 4 (Or.inl (hw _ (List.mem_of_getElem? (i := 19) rfl))) (host := "") Via.refl pf0 d5_1 ?_
  exact Run.retJ d5_4 ⟨rfl, rfl⟩
theorem d6_0 : decode prog_64_method_4_code 0 = .ok (.aload_n 0, 1) := by decide +kernel
theorem d6_1 : decode prog_64_method_4_code 1 = .ok (.getfield 13, 3) := by decide +kernel
theorem d6_4 : decode prog_64_method_4_code 4 = .ok (.lreturn, 1) := by decide +kernel
theorem ef_rm_valid (m : MethodId) (x0 : Addr) : entryFrame m #[(.ref x0)] 1 = mkF m 0 #[.val (.ref x0)] [] := by first | (simp [entryFrame, mkF, argsToLocals, Value.category]; done) | rfl
set_option maxRecDepth 65536 in
set_option maxHeartbeats 40000000 in
theorem rm_valid {l : Launch} {Z : State} {a0 : Array Value} (hw : ∀ d ∈ tables_1, d.before a0 Z = true) (r0 : Addr) (w : Int64) (h0 : Heap) (n0 : Nat) (Z0 : n0 ≤ h0.size) (pf0 : Fld Z h0 r0 "com/example/revisit/revisit/query/ReadCost" "valid" "J" (.long w)) :
    Pays l Z (⟨"com/example/revisit/revisit/query/ReadCost", "valid", "()J"⟩ : MethodName) prog_64_method_4_code 1 (some .long) ({ frames := 0, cells := 0, slots := 0, locals := 0 } : Room) #[(.ref r0)] h0 n0 (fun v h' => v = some (.long w) ∧ h0 = h') := by
  refine Pays.of (ls := #[.val (.ref r0)]) (plainFor_of_name (by first | (simp [plainName, overriddenIn]; done) | decide +kernel)) (fun m => ef_rm_valid m r0) Z0 (fun p e s m below meth c => ?_)
  refine Run.aloadN 1 d6_0 rfl ?_
  refine Run.getF 4 (Or.inl (hw _ (List.mem_of_getElem? (i := 21) rfl))) (host := "") Via.refl pf0 d6_1 ?_
  exact Run.retJ d6_4 ⟨rfl, rfl⟩
theorem d7_0 : decode prog_64_method_5_code 0 = .ok (.aload_n 0, 1) := by decide +kernel
theorem d7_1 : decode prog_64_method_5_code 1 = .ok (.getfield 16, 3) := by decide +kernel
theorem d7_4 : decode prog_64_method_5_code 4 = .ok (.lreturn, 1) := by decide +kernel
theorem ef_rm_worstRead (m : MethodId) (x0 : Addr) : entryFrame m #[(.ref x0)] 1 = mkF m 0 #[.val (.ref x0)] [] := by first | (simp [entryFrame, mkF, argsToLocals, Value.category]; done) | rfl
set_option maxRecDepth 65536 in
set_option maxHeartbeats 40000000 in
theorem rm_worstRead {l : Launch} {Z : State} {a0 : Array Value} (hw : ∀ d ∈ tables_1, d.before a0 Z = true) (r0 : Addr) (w : Int64) (h0 : Heap) (n0 : Nat) (Z0 : n0 ≤ h0.size) (pf0 : Fld Z h0 r0 "com/example/revisit/revisit/query/ReadCost" "worstRead" "J" (.long w)) :
    Pays l Z (⟨"com/example/revisit/revisit/query/ReadCost", "worstRead", "()J"⟩ : MethodName) prog_64_method_5_code 1 (some .long) ({ frames := 0, cells := 0, slots := 0, locals := 0 } : Room) #[(.ref r0)] h0 n0 (fun v h' => v = some (.long w) ∧ h0 = h') := by
  refine Pays.of (ls := #[.val (.ref r0)]) (plainFor_of_name (by first | (simp [plainName, overriddenIn]; done) | decide +kernel)) (fun m => ef_rm_worstRead m r0) Z0 (fun p e s m below meth c => ?_)
  refine Run.aloadN 1 d7_0 rfl ?_
  refine Run.getF 4 (Or.inl (hw _ (List.mem_of_getElem? (i := 23) rfl))) (host := "") Via.refl pf0 d7_1 ?_
  exact Run.retJ d7_4 ⟨rfl, rfl⟩
theorem d8_0 : decode prog_64_method_6_code 0 = .ok (.aload_n 0, 1) := by decide +kernel
theorem d8_1 : decode prog_64_method_6_code 1 = .ok (.getfield 19, 3) := by decide +kernel
theorem d8_4 : decode prog_64_method_6_code 4 = .ok (.lreturn, 1) := by decide +kernel
theorem ef_rm_worstValid (m : MethodId) (x0 : Addr) : entryFrame m #[(.ref x0)] 1 = mkF m 0 #[.val (.ref x0)] [] := by first | (simp [entryFrame, mkF, argsToLocals, Value.category]; done) | rfl
set_option maxRecDepth 65536 in
set_option maxHeartbeats 40000000 in
theorem rm_worstValid {l : Launch} {Z : State} {a0 : Array Value} (hw : ∀ d ∈ tables_1, d.before a0 Z = true) (r0 : Addr) (w : Int64) (h0 : Heap) (n0 : Nat) (Z0 : n0 ≤ h0.size) (pf0 : Fld Z h0 r0 "com/example/revisit/revisit/query/ReadCost" "worstValid" "J" (.long w)) :
    Pays l Z (⟨"com/example/revisit/revisit/query/ReadCost", "worstValid", "()J"⟩ : MethodName) prog_64_method_6_code 1 (some .long) ({ frames := 0, cells := 0, slots := 0, locals := 0 } : Room) #[(.ref r0)] h0 n0 (fun v h' => v = some (.long w) ∧ h0 = h') := by
  refine Pays.of (ls := #[.val (.ref r0)]) (plainFor_of_name (by first | (simp [plainName, overriddenIn]; done) | decide +kernel)) (fun m => ef_rm_worstValid m r0) Z0 (fun p e s m below meth c => ?_)
  refine Run.aloadN 1 d8_0 rfl ?_
  refine Run.getF 4 (Or.inl (hw _ (List.mem_of_getElem? (i := 25) rfl))) (host := "") Via.refl pf0 d8_1 ?_
  exact Run.retJ d8_4 ⟨rfl, rfl⟩
theorem own_r {a r : Int64} (h : a &&& 2147483647 = r) : 0 ≤ r.toInt ∧ r.toInt < 2147483648 := by
  rw [← h, c_maskL a 2147483647 31 (by decide) (by decide)]; omega
theorem own_y {r : Int64} (h : 0 ≤ r.toInt ∧ r.toInt < 2147483648) : (r + 1).toInt = r.toInt + 1 := by
  have h1 := c_ladd r 1; have h2 := rng64 (r + 1); rw [show (1 : Int64).toInt = 1 from by decide] at h1; omega
theorem own_y0 {r : Int64} (h : 0 ≤ r.toInt ∧ r.toInt < 2147483648) : r + 1 ≠ 0 := fun z => by
  have h1 := own_y h; rw [z, show (0 : Int64).toInt = 0 from by decide] at h1; omega
theorem own_v {b r v : Int64} (h : 0 ≤ r.toInt ∧ r.toInt < 2147483648) (e : (b &&& 2147483647) - ((b &&& 2147483647) / (r + 1)) * (r + 1) = v) : 0 ≤ v.toInt ∧ v.toInt ≤ r.toInt := by
  have h1 := own_r (a := b) rfl
  have h2 := (c_lrem (b &&& 2147483647) (r + 1) _ (own_y h)).1 h1.1
  have h3 := Int.emod_nonneg (b &&& 2147483647).toInt (b := r.toInt + 1) (by omega)
  have h4 := Int.emod_lt_of_pos (b &&& 2147483647).toInt (b := r.toInt + 1) (by omega)
  rw [← e]; omega
theorem own_mul {a b : Int64} (ha : 0 ≤ a.toInt ∧ a.toInt < 2147483648) (hb : 0 ≤ b.toInt ∧ b.toInt < 2147483648) : (a * b).toInt = a.toInt * b.toInt := by
  have h1 := c_lmul a b; have h2 := rng64 (a * b)
  have h3 : 0 ≤ a.toInt * b.toInt := Int.mul_nonneg ha.1 hb.1
  have h4 : a.toInt * b.toInt ≤ 2147483648 * 2147483648 := Int.mul_le_mul (by omega) (by omega) hb.1 (by omega)
  omega
theorem own_eq0 {a : Int64} : a = 0 ↔ a.toInt = 0 := by rw [← Int64.toInt_inj, show (0 : Int64).toInt = 0 from by decide]
theorem own_step (r v wr wv : Int64) (hr : 0 ≤ r.toInt ∧ r.toInt < 2147483648) (hv : 0 ≤ v.toInt ∧ v.toInt ≤ r.toInt) (hwr : 0 ≤ wr.toInt ∧ wr.toInt < 2147483648) (hwv : 0 ≤ wv.toInt ∧ wv.toInt ≤ wr.toInt) :
    (F_rmW r v wr wv = 0 → own_wr r v wr wv = wr ∧ own_wv r v wr wv = wv) ∧ (¬ F_rmW r v wr wv = 0 → own_wr r v wr wv = r ∧ own_wv r v wr wv = v) := by
  have m1 := own_mul (a := r) (b := wv) hr (by omega)
  have m2 := own_mul (a := wr) (b := v) hwr (by omega)
  have n1 : ¬ ((1 : Int32) = 0) := by decide
  unfold F_rmW own_wr own_wv
  by_cases c1 : wr = 0
  · simp only [eq_true c1, if_true] <;> simp
  have d1 : 0 < wr.toInt := by have := mt own_eq0.mpr c1; omega
  by_cases c2 : r = 0
  · have d2 := own_eq0.mp c2
    have d3 : ¬ (wr * v < r * wv) := by rw [Int64.lt_iff_toInt_lt, m1, m2, d2, show v.toInt = 0 from by omega]; simp
    simp only [eq_false c1, eq_true c2, eq_false d3, if_true, if_false] <;> simp
  have d2 : 0 < r.toInt := by have := mt own_eq0.mpr c2; omega
  by_cases c3 : v = 0
  · have e3 := own_eq0.mp c3
    by_cases c4 : wv = 0
    · have d3 : ¬ (wr * v < r * wv) := by rw [Int64.lt_iff_toInt_lt, m1, m2, e3, own_eq0.mp c4]; simp
      simp only [eq_false c1, eq_false c2, eq_true c3, eq_true c4, eq_false d3, if_true, if_false] <;> simp
    · have d4 : 0 < wv.toInt := by have := mt own_eq0.mpr c4; omega
      have d3 : wr * v < r * wv := by rw [Int64.lt_iff_toInt_lt, m1, m2, e3]; have := Int.mul_pos d2 d4; simp; omega
      simp only [eq_false c1, eq_false c2, eq_true c3, eq_false c4, eq_true d3, if_true, if_false] <;> simp
  have e3 : 0 < v.toInt := by have := mt own_eq0.mpr c3; omega
  by_cases c4 : wv = 0
  · have d3 : ¬ (wr * v < r * wv) := by rw [Int64.lt_iff_toInt_lt, m1, m2, own_eq0.mp c4]; have := Int.mul_pos d1 e3; simp; omega
    simp only [eq_false c1, eq_false c2, eq_false c3, eq_true c4, eq_false d3, if_true, if_false] <;> simp
  by_cases c5 : wr * v < r * wv
  · simp only [eq_false c1, eq_false c2, eq_false c3, eq_false c4, eq_true c5, if_true, if_false] <;> simp
  · simp only [eq_false c1, eq_false c2, eq_false c3, eq_false c4, eq_false c5, if_true, if_false] <;> simp
theorem own_one (r v : Int64) : own_wr r v 0 0 = r ∧ own_wv r v 0 0 = v := ⟨if_pos rfl, if_pos rfl⟩
theorem own_W1 (r v : Int64) : ¬ F_rmW r v 0 0 = 0 := by unfold F_rmW; rw [if_pos rfl]; decide
theorem pd_0 : parseMethodDescriptor "(JJJJ)Z" = some ⟨[.long, .long, .long, .long], some .boolean⟩ := by decide +kernel
theorem pd_1 : parseMethodDescriptor "()V" = some ⟨[], none⟩ := by decide +kernel
theorem pd_2 : parseMethodDescriptor "(JJ)V" = some ⟨[.long, .long], none⟩ := by decide +kernel
theorem pd_3 : parseMethodDescriptor "()J" = some ⟨[], some .long⟩ := by decide +kernel
theorem ef_rm0 (m : MethodId) (x0 : Int64) (x1 : Int64) (x2 : Int64) (x3 : Int64) (x4 : Int64) (x5 : Int64) : entryFrame m #[(.long x0), (.long x1), (.long x2), (.long x3), (.long x4), (.long x5)] maxLocals = mkF m 0 #[.val (.long x0), .second, .val (.long x1), .second, .val (.long x2), .second, .val (.long x3), .second, .val (.long x4), .second, .val (.long x5), .second, .unset, .unset, .unset, .unset, .unset, .unset, .unset, .unset, .unset, .unset, .unset, .unset, .unset, .unset, .unset, .unset, .unset] [] := by first | (simp [entryFrame, mkF, argsToLocals, Value.category, maxLocals]; done) | rfl
set_option maxRecDepth 65536 in
set_option maxHeartbeats 40000000 in
theorem rm0 {l : Launch} {Z : State} {a0 : Array Value} (hw : ∀ d ∈ tables_1, d.before a0 Z = true) (A1 : Int64) (B1 : Int64) (A2 : Int64) (B2 : Int64) (A3 : Int64) (B3 : Int64) (h0 : Heap) (n0 : Nat) (Z0 : n0 ≤ h0.size) :
    Pays l Z x code maxLocals ret room_1 #[(.long A1), (.long B1), (.long A2), (.long B2), (.long A3), (.long B3)] h0 n0 (fun v _ => v = some (.int 1) ∧ True) := by
  refine Pays.of (ls := #[.val (.long A1), .second, .val (.long B1), .second, .val (.long A2), .second, .val (.long B2), .second, .val (.long A3), .second, .val (.long B3), .second, .unset, .unset, .unset, .unset, .unset, .unset, .unset, .unset, .unset, .unset, .unset, .unset, .unset, .unset, .unset, .unset, .unset]) (plainFor_of_name (by first | (simp [plainName, overriddenIn]; done) | decide +kernel)) (fun m => ef_rm0 m A1 B1 A2 B2 A3 B3) Z0 (fun p e s m below meth c => ?_)
  show Run p l e _ s m _ below meth c Z "com/example/revisit/revisit/query/ReadCostAddPinLaw" "law" code 29 (some .boolean) n0 (EndN s n0 _ 16 128) h0 0 0 (mkF m 0 #[.val (.long A1), .second, .val (.long B1), .second, .val (.long A2), .second, .val (.long B2), .second, .val (.long A3), .second, .val (.long B3), .second, .unset, .unset, .unset, .unset, .unset, .unset, .unset, .unset, .unset, .unset, .unset, .unset, .unset, .unset, .unset, .unset, .unset] [])
  refine Run.lloadN 1 at_0 rfl ?_
  refine Run.ldcJ 4 (hw _ (List.mem_of_getElem? (i := 0) rfl)) at_1 ?_
  obtain ⟨r1, e_r1⟩ : ∃ z, (A1 &&& (2147483647 : Int64)) = z := ⟨_, rfl⟩
  refine Run.land r1 5 at_4 ?_ e_r1
  have hr1 := own_r e_r1
  refine Run.lstore 7 #[.val (.long A1), .second, .val (.long B1), .second, .val (.long A2), .second, .val (.long B2), .second, .val (.long A3), .second, .val (.long B3), .second, .val (.long r1), .second, .unset, .unset, .unset, .unset, .unset, .unset, .unset, .unset, .unset, .unset, .unset, .unset, .unset, .unset, .unset] at_5 ?_
  refine Run.lloadN 8 at_7 rfl ?_
  refine Run.ldcJ 11 (hw _ (List.mem_of_getElem? (i := 0) rfl)) at_8 ?_
  refine Run.land (B1 &&& (2147483647 : Int64)) 12 at_11 ?_
  refine Run.lload 14 at_12 rfl ?_
  refine Run.lconst (1 : Int64) 15 at_14 ?_
  refine Run.ladd (r1 + (1 : Int64)) 16 at_15 ?_
  obtain ⟨v1, e_v1⟩ : ∃ z, ((B1 &&& (2147483647 : Int64)) - ((B1 &&& (2147483647 : Int64)) / (r1 + (1 : Int64))) * (r1 + (1 : Int64))) = z := ⟨_, rfl⟩
  refine Run.lrem v1 17 at_16 (own_y0 hr1) ?_ e_v1
  have hv1 := own_v hr1 e_v1
  refine Run.lstore 19 #[.val (.long A1), .second, .val (.long B1), .second, .val (.long A2), .second, .val (.long B2), .second, .val (.long A3), .second, .val (.long B3), .second, .val (.long r1), .second, .val (.long v1), .second, .unset, .unset, .unset, .unset, .unset, .unset, .unset, .unset, .unset, .unset, .unset, .unset, .unset] at_17 ?_
  refine Run.lload 21 at_19 rfl ?_
  refine Run.ldcJ 24 (hw _ (List.mem_of_getElem? (i := 0) rfl)) at_21 ?_
  obtain ⟨r2, e_r2⟩ : ∃ z, (A2 &&& (2147483647 : Int64)) = z := ⟨_, rfl⟩
  refine Run.land r2 25 at_24 ?_ e_r2
  have hr2 := own_r e_r2
  refine Run.lstore 27 #[.val (.long A1), .second, .val (.long B1), .second, .val (.long A2), .second, .val (.long B2), .second, .val (.long A3), .second, .val (.long B3), .second, .val (.long r1), .second, .val (.long v1), .second, .val (.long r2), .second, .unset, .unset, .unset, .unset, .unset, .unset, .unset, .unset, .unset, .unset, .unset] at_25 ?_
  refine Run.lload 29 at_27 rfl ?_
  refine Run.ldcJ 32 (hw _ (List.mem_of_getElem? (i := 0) rfl)) at_29 ?_
  refine Run.land (B2 &&& (2147483647 : Int64)) 33 at_32 ?_
  refine Run.lload 35 at_33 rfl ?_
  refine Run.lconst (1 : Int64) 36 at_35 ?_
  refine Run.ladd (r2 + (1 : Int64)) 37 at_36 ?_
  obtain ⟨v2, e_v2⟩ : ∃ z, ((B2 &&& (2147483647 : Int64)) - ((B2 &&& (2147483647 : Int64)) / (r2 + (1 : Int64))) * (r2 + (1 : Int64))) = z := ⟨_, rfl⟩
  refine Run.lrem v2 38 at_37 (own_y0 hr2) ?_ e_v2
  have hv2 := own_v hr2 e_v2
  refine Run.lstore 40 #[.val (.long A1), .second, .val (.long B1), .second, .val (.long A2), .second, .val (.long B2), .second, .val (.long A3), .second, .val (.long B3), .second, .val (.long r1), .second, .val (.long v1), .second, .val (.long r2), .second, .val (.long v2), .second, .unset, .unset, .unset, .unset, .unset, .unset, .unset, .unset, .unset] at_38 ?_
  refine Run.lload 42 at_40 rfl ?_
  refine Run.ldcJ 45 (hw _ (List.mem_of_getElem? (i := 0) rfl)) at_42 ?_
  obtain ⟨r3, e_r3⟩ : ∃ z, (A3 &&& (2147483647 : Int64)) = z := ⟨_, rfl⟩
  refine Run.land r3 46 at_45 ?_ e_r3
  have hr3 := own_r e_r3
  refine Run.lstore 48 #[.val (.long A1), .second, .val (.long B1), .second, .val (.long A2), .second, .val (.long B2), .second, .val (.long A3), .second, .val (.long B3), .second, .val (.long r1), .second, .val (.long v1), .second, .val (.long r2), .second, .val (.long v2), .second, .val (.long r3), .second, .unset, .unset, .unset, .unset, .unset, .unset, .unset] at_46 ?_
  refine Run.lload 50 at_48 rfl ?_
  refine Run.ldcJ 53 (hw _ (List.mem_of_getElem? (i := 0) rfl)) at_50 ?_
  refine Run.land (B3 &&& (2147483647 : Int64)) 54 at_53 ?_
  refine Run.lload 56 at_54 rfl ?_
  refine Run.lconst (1 : Int64) 57 at_56 ?_
  refine Run.ladd (r3 + (1 : Int64)) 58 at_57 ?_
  obtain ⟨v3, e_v3⟩ : ∃ z, ((B3 &&& (2147483647 : Int64)) - ((B3 &&& (2147483647 : Int64)) / (r3 + (1 : Int64))) * (r3 + (1 : Int64))) = z := ⟨_, rfl⟩
  refine Run.lrem v3 59 at_58 (own_y0 hr3) ?_ e_v3
  have hv3 := own_v hr3 e_v3
  refine Run.lstore 61 #[.val (.long A1), .second, .val (.long B1), .second, .val (.long A2), .second, .val (.long B2), .second, .val (.long A3), .second, .val (.long B3), .second, .val (.long r1), .second, .val (.long v1), .second, .val (.long r2), .second, .val (.long v2), .second, .val (.long r3), .second, .val (.long v3), .second, .unset, .unset, .unset, .unset, .unset] at_59 ?_
  refine Run.lconst (0 : Int64) 62 at_61 ?_
  refine Run.lstore 64 #[.val (.long A1), .second, .val (.long B1), .second, .val (.long A2), .second, .val (.long B2), .second, .val (.long A3), .second, .val (.long B3), .second, .val (.long r1), .second, .val (.long v1), .second, .val (.long r2), .second, .val (.long v2), .second, .val (.long r3), .second, .val (.long v3), .second, .val (.long (0 : Int64)), .second, .unset, .unset, .unset] at_62 ?_
  refine Run.lconst (0 : Int64) 65 at_64 ?_
  refine Run.lstore 67 #[.val (.long A1), .second, .val (.long B1), .second, .val (.long A2), .second, .val (.long B2), .second, .val (.long A3), .second, .val (.long B3), .second, .val (.long r1), .second, .val (.long v1), .second, .val (.long r2), .second, .val (.long v2), .second, .val (.long r3), .second, .val (.long v3), .second, .val (.long (0 : Int64)), .second, .val (.long (0 : Int64)), .second, .unset] at_65 ?_
  refine Run.lload 69 at_67 rfl ?_
  refine Run.lload 71 at_69 rfl ?_
  refine Run.lload 73 at_71 rfl ?_
  refine Run.lload 75 at_73 rfl ?_
  refine Run.callS 78 0 (argsL := [(.long r1), (.long v1), (.long (0 : Int64)), (.long (0 : Int64))]) (st := []) (rmW hw r1 v1 (0 : Int64) (0 : Int64) h0 n0 Z0 ) (hw _ (List.mem_of_getElem? (i := 1) rfl)) (hw _ (List.mem_of_getElem? (i := 2) rfl)) (hw _ (List.mem_of_getElem? (i := 3) rfl)) (hw _ (List.mem_of_getElem? (i := 4) rfl)) pd_0 at_75 (fun v1 h1 => ?_)
  rintro ⟨rfl, rfl⟩
  show Run p l e _ s m _ below meth c Z _ _ _ _ _ n0 _ h0 0 0 (mkF m 78 #[.val (.long A1), .second, .val (.long B1), .second, .val (.long A2), .second, .val (.long B2), .second, .val (.long A3), .second, .val (.long B3), .second, .val (.long r1), .second, .val (.long v1), .second, .val (.long r2), .second, .val (.long v2), .second, .val (.long r3), .second, .val (.long v3), .second, .val (.long (0 : Int64)), .second, .val (.long (0 : Int64)), .second, .unset] [(.int (F_rmW r1 v1 (0 : Int64) (0 : Int64)))])
  refine Run.eq0N 81 at_78 (own_W1 r1 v1) ?_
  refine Run.lload 83 at_81 rfl ?_
  refine Run.lstore 85 #[.val (.long A1), .second, .val (.long B1), .second, .val (.long A2), .second, .val (.long B2), .second, .val (.long A3), .second, .val (.long B3), .second, .val (.long r1), .second, .val (.long v1), .second, .val (.long r2), .second, .val (.long v2), .second, .val (.long r3), .second, .val (.long v3), .second, .val (.long r1), .second, .val (.long (0 : Int64)), .second, .unset] at_83 ?_
  refine Run.lload 87 at_85 rfl ?_
  refine Run.lstore 89 #[.val (.long A1), .second, .val (.long B1), .second, .val (.long A2), .second, .val (.long B2), .second, .val (.long A3), .second, .val (.long B3), .second, .val (.long r1), .second, .val (.long v1), .second, .val (.long r2), .second, .val (.long v2), .second, .val (.long r3), .second, .val (.long v3), .second, .val (.long r1), .second, .val (.long v1), .second, .unset] at_87 ?_
  refine Run.lload 91 at_89 rfl ?_
  refine Run.lload 93 at_91 rfl ?_
  refine Run.lload 95 at_93 rfl ?_
  refine Run.lload 97 at_95 rfl ?_
  refine Run.callS 100 0 (argsL := [(.long r2), (.long v2), (.long r1), (.long v1)]) (st := []) (rmW hw r2 v2 r1 v1 h0 n0 Z0 ) (hw _ (List.mem_of_getElem? (i := 1) rfl)) (hw _ (List.mem_of_getElem? (i := 2) rfl)) (hw _ (List.mem_of_getElem? (i := 3) rfl)) (hw _ (List.mem_of_getElem? (i := 4) rfl)) pd_0 at_97 (fun v2 h2 => ?_)
  rintro ⟨rfl, rfl⟩
  show Run p l e _ s m _ below meth c Z _ _ _ _ _ n0 _ h0 0 0 (mkF m 100 #[.val (.long A1), .second, .val (.long B1), .second, .val (.long A2), .second, .val (.long B2), .second, .val (.long A3), .second, .val (.long B3), .second, .val (.long r1), .second, .val (.long v1), .second, .val (.long r2), .second, .val (.long v2), .second, .val (.long r3), .second, .val (.long v3), .second, .val (.long r1), .second, .val (.long v1), .second, .unset] [(.int (F_rmW r2 v2 r1 v1))])
  refine Run.eq0 111 103 at_100 (fun hc100 => ?_) (fun hc100 => ?_)
  · refine Run.lload 113 at_111 rfl ?_
    refine Run.lload 115 at_113 rfl ?_
    refine Run.lload 117 at_115 rfl ?_
    refine Run.lload 119 at_117 rfl ?_
    refine Run.callS 122 0 (argsL := [(.long r3), (.long v3), (.long r1), (.long v1)]) (st := []) (rmW hw r3 v3 r1 v1 h0 n0 Z0 ) (hw _ (List.mem_of_getElem? (i := 1) rfl)) (hw _ (List.mem_of_getElem? (i := 2) rfl)) (hw _ (List.mem_of_getElem? (i := 3) rfl)) (hw _ (List.mem_of_getElem? (i := 4) rfl)) pd_0 at_119 (fun v3 h3 => ?_)
    rintro ⟨rfl, rfl⟩
    show Run p l e _ s m _ below meth c Z _ _ _ _ _ n0 _ h0 0 0 (mkF m 122 #[.val (.long A1), .second, .val (.long B1), .second, .val (.long A2), .second, .val (.long B2), .second, .val (.long A3), .second, .val (.long B3), .second, .val (.long r1), .second, .val (.long v1), .second, .val (.long r2), .second, .val (.long v2), .second, .val (.long r3), .second, .val (.long v3), .second, .val (.long r1), .second, .val (.long v1), .second, .unset] [(.int (F_rmW r3 v3 r1 v1))])
    refine Run.eq0 133 125 at_122 (fun hc122 => ?_) (fun hc122 => ?_)
    · have k2 := (own_step r2 v2 r1 v1 hr2 hv2 hr1 hv1).1 hc100
      have k3 := (own_step r3 v3 r1 v1 hr3 hv3 hr1 hv1).1 hc122
      refine Run.new 136 (hw _ (List.mem_of_getElem? (i := 5) rfl)) (hw _ (List.mem_of_getElem? (i := 6) rfl)) (hw _ (List.mem_of_getElem? (i := 7) rfl)) at_133 (fun h4 ob4 g4 u4 E4 A4 D4 => ?_)
      have F_read_ob4 : Fld Z h4 ob4 "com/example/revisit/revisit/query/ReadCost" "read" "J" (.long (0 : Int64)) := D4 (Or.inl (hw _ (List.mem_of_getElem? (i := 20) rfl))) (ty := .long) (by decide)
      have F_valid_ob4 : Fld Z h4 ob4 "com/example/revisit/revisit/query/ReadCost" "valid" "J" (.long (0 : Int64)) := D4 (Or.inl (hw _ (List.mem_of_getElem? (i := 22) rfl))) (ty := .long) (by decide)
      have F_worstRead_ob4 : Fld Z h4 ob4 "com/example/revisit/revisit/query/ReadCost" "worstRead" "J" (.long (0 : Int64)) := D4 (Or.inl (hw _ (List.mem_of_getElem? (i := 24) rfl))) (ty := .long) (by decide)
      have F_worstValid_ob4 : Fld Z h4 ob4 "com/example/revisit/revisit/query/ReadCost" "worstValid" "J" (.long (0 : Int64)) := D4 (Or.inl (hw _ (List.mem_of_getElem? (i := 26) rfl))) (ty := .long) (by decide)
      show Run p l e _ s m _ below meth c Z _ _ _ _ _ n0 _ h4 1 4 (mkF m 136 #[.val (.long A1), .second, .val (.long B1), .second, .val (.long A2), .second, .val (.long B2), .second, .val (.long A3), .second, .val (.long B3), .second, .val (.long r1), .second, .val (.long v1), .second, .val (.long r2), .second, .val (.long v2), .second, .val (.long r3), .second, .val (.long v3), .second, .val (.long r1), .second, .val (.long v1), .second, .unset] [(.ref ob4)])
      refine Run.dup 137 at_136 ?_
      refine Run.sz fun hsz_h4 => ?_
      refine Run.callC 140 1 (a := ob4) (argsL := []) (st := [(.ref ob4)]) (rmI hw ob4 h4 n0 hsz_h4 ) (hw _ (List.mem_of_getElem? (i := 8) rfl)) (hw _ (List.mem_of_getElem? (i := 9) rfl)) (hw _ (List.mem_of_getElem? (i := 7) rfl)) (hw _ (List.mem_of_getElem? (i := 10) rfl)) pd_1 at_137 (fun v5 h5 => ?_)
      rintro ⟨rfl, rfl⟩
      show Run p l e _ s m _ below meth c Z _ _ _ _ _ n0 _ h4 1 4 (mkF m 140 #[.val (.long A1), .second, .val (.long B1), .second, .val (.long A2), .second, .val (.long B2), .second, .val (.long A3), .second, .val (.long B3), .second, .val (.long r1), .second, .val (.long v1), .second, .val (.long r2), .second, .val (.long v2), .second, .val (.long r3), .second, .val (.long v3), .second, .val (.long r1), .second, .val (.long v1), .second, .unset] [(.ref ob4)])
      refine Run.astore 142 #[.val (.long A1), .second, .val (.long B1), .second, .val (.long A2), .second, .val (.long B2), .second, .val (.long A3), .second, .val (.long B3), .second, .val (.long r1), .second, .val (.long v1), .second, .val (.long r2), .second, .val (.long v2), .second, .val (.long r3), .second, .val (.long v3), .second, .val (.long r1), .second, .val (.long v1), .second, .val (.ref ob4)] at_140 ?_
      refine Run.aload 144 at_142 rfl ?_
      refine Run.lload 146 at_144 rfl ?_
      refine Run.lload 148 at_146 rfl ?_
      refine Run.callV 151 0 (a := ob4) (argsL := [(.long r1), (.long v1)]) (st := []) (rmA hw ob4 r1 v1 (0 : Int64) (0 : Int64) (0 : Int64) (0 : Int64) h4 n0 hsz_h4 A4 F_read_ob4 F_valid_ob4 F_worstRead_ob4 F_worstValid_ob4 u4) A4 (hw _ (List.mem_of_getElem? (i := 14) rfl)) (hw _ (List.mem_of_getElem? (i := 15) rfl)) (hw _ (List.mem_of_getElem? (i := 17) rfl)) (hw _ (List.mem_of_getElem? (i := 16) rfl)) (hw _ (List.mem_of_getElem? (i := 7) rfl)) (hw _ (List.mem_of_getElem? (i := 18) rfl)) pd_2 at_148 (fun v6 h6 => ?_)
      rintro ⟨rfl, K6, G6_0, G6_1, G6_2, G6_3, G6_4⟩
      show Run p l e _ s m _ below meth c Z _ _ _ _ _ n0 _ h6 1 4 (mkF m 151 #[.val (.long A1), .second, .val (.long B1), .second, .val (.long A2), .second, .val (.long B2), .second, .val (.long A3), .second, .val (.long B3), .second, .val (.long r1), .second, .val (.long v1), .second, .val (.long r2), .second, .val (.long v2), .second, .val (.long r3), .second, .val (.long v3), .second, .val (.long r1), .second, .val (.long v1), .second, .val (.ref ob4)] [])
      refine Run.aload 153 at_151 rfl ?_
      refine Run.lload 155 at_153 rfl ?_
      refine Run.lload 157 at_155 rfl ?_
      refine Run.sz fun hsz_h6 => ?_
      refine Run.callV 160 0 (a := ob4) (argsL := [(.long r2), (.long v2)]) (st := []) (rmA hw ob4 r2 v2 ((0 : Int64) + r1) ((0 : Int64) + v1) (own_wr r1 v1 (0 : Int64) (0 : Int64)) (own_wv r1 v1 (0 : Int64) (0 : Int64)) h6 n0 hsz_h6 G6_0 G6_1 G6_2 G6_3 G6_4 u4) G6_0 (hw _ (List.mem_of_getElem? (i := 14) rfl)) (hw _ (List.mem_of_getElem? (i := 15) rfl)) (hw _ (List.mem_of_getElem? (i := 17) rfl)) (hw _ (List.mem_of_getElem? (i := 16) rfl)) (hw _ (List.mem_of_getElem? (i := 7) rfl)) (hw _ (List.mem_of_getElem? (i := 18) rfl)) pd_2 at_157 (fun v7 h7 => ?_)
      rintro ⟨rfl, K7, G7_0, G7_1, G7_2, G7_3, G7_4⟩
      show Run p l e _ s m _ below meth c Z _ _ _ _ _ n0 _ h7 1 4 (mkF m 160 #[.val (.long A1), .second, .val (.long B1), .second, .val (.long A2), .second, .val (.long B2), .second, .val (.long A3), .second, .val (.long B3), .second, .val (.long r1), .second, .val (.long v1), .second, .val (.long r2), .second, .val (.long v2), .second, .val (.long r3), .second, .val (.long v3), .second, .val (.long r1), .second, .val (.long v1), .second, .val (.ref ob4)] [])
      refine Run.aload 162 at_160 rfl ?_
      refine Run.lload 164 at_162 rfl ?_
      refine Run.lload 166 at_164 rfl ?_
      refine Run.sz fun hsz_h7 => ?_
      refine Run.callV 169 0 (a := ob4) (argsL := [(.long r3), (.long v3)]) (st := []) (rmA hw ob4 r3 v3 (((0 : Int64) + r1) + r2) (((0 : Int64) + v1) + v2) (own_wr r2 v2 (own_wr r1 v1 (0 : Int64) (0 : Int64)) (own_wv r1 v1 (0 : Int64) (0 : Int64))) (own_wv r2 v2 (own_wr r1 v1 (0 : Int64) (0 : Int64)) (own_wv r1 v1 (0 : Int64) (0 : Int64))) h7 n0 hsz_h7 G7_0 G7_1 G7_2 G7_3 G7_4 u4) G7_0 (hw _ (List.mem_of_getElem? (i := 14) rfl)) (hw _ (List.mem_of_getElem? (i := 15) rfl)) (hw _ (List.mem_of_getElem? (i := 17) rfl)) (hw _ (List.mem_of_getElem? (i := 16) rfl)) (hw _ (List.mem_of_getElem? (i := 7) rfl)) (hw _ (List.mem_of_getElem? (i := 18) rfl)) pd_2 at_166 (fun v8 h8 => ?_)
      rintro ⟨rfl, K8, G8_0, G8_1, G8_2, G8_3, G8_4⟩
      show Run p l e _ s m _ below meth c Z _ _ _ _ _ n0 _ h8 1 4 (mkF m 169 #[.val (.long A1), .second, .val (.long B1), .second, .val (.long A2), .second, .val (.long B2), .second, .val (.long A3), .second, .val (.long B3), .second, .val (.long r1), .second, .val (.long v1), .second, .val (.long r2), .second, .val (.long v2), .second, .val (.long r3), .second, .val (.long v3), .second, .val (.long r1), .second, .val (.long v1), .second, .val (.ref ob4)] [])
      refine Run.aload 171 at_169 rfl ?_
      refine Run.sz fun hsz_h8 => ?_
      refine Run.callV 174 0 (a := ob4) (argsL := []) (st := []) (rm_read hw ob4 ((((0 : Int64) + r1) + r2) + r3) h8 n0 hsz_h8 G8_1) G8_0 (hw _ (List.mem_of_getElem? (i := 27) rfl)) (hw _ (List.mem_of_getElem? (i := 28) rfl)) (hw _ (List.mem_of_getElem? (i := 30) rfl)) (hw _ (List.mem_of_getElem? (i := 29) rfl)) (hw _ (List.mem_of_getElem? (i := 7) rfl)) (hw _ (List.mem_of_getElem? (i := 31) rfl)) pd_3 at_171 (fun v9 h9 => ?_)
      rintro ⟨rfl, rfl⟩
      show Run p l e _ s m _ below meth c Z _ _ _ _ _ n0 _ h8 1 4 (mkF m 174 #[.val (.long A1), .second, .val (.long B1), .second, .val (.long A2), .second, .val (.long B2), .second, .val (.long A3), .second, .val (.long B3), .second, .val (.long r1), .second, .val (.long v1), .second, .val (.long r2), .second, .val (.long v2), .second, .val (.long r3), .second, .val (.long v3), .second, .val (.long r1), .second, .val (.long v1), .second, .val (.ref ob4)] [(.long ((((0 : Int64) + r1) + r2) + r3))])
      refine Run.lload 176 at_174 rfl ?_
      refine Run.lload 178 at_176 rfl ?_
      refine Run.ladd (r1 + r2) 179 at_178 ?_
      refine Run.lload 181 at_179 rfl ?_
      refine Run.ladd ((r1 + r2) + r3) 182 at_181 ?_
      refine Run.lneN 186 at_182 at_183 (by rw [Int64.zero_add]) ?_
      refine Run.aload 188 at_186 rfl ?_
      refine Run.callV 191 0 (a := ob4) (argsL := []) (st := []) (rm_valid hw ob4 ((((0 : Int64) + v1) + v2) + v3) h8 n0 hsz_h8 G8_2) G8_0 (hw _ (List.mem_of_getElem? (i := 32) rfl)) (hw _ (List.mem_of_getElem? (i := 33) rfl)) (hw _ (List.mem_of_getElem? (i := 35) rfl)) (hw _ (List.mem_of_getElem? (i := 34) rfl)) (hw _ (List.mem_of_getElem? (i := 7) rfl)) (hw _ (List.mem_of_getElem? (i := 36) rfl)) pd_3 at_188 (fun v10 h10 => ?_)
      rintro ⟨rfl, rfl⟩
      show Run p l e _ s m _ below meth c Z _ _ _ _ _ n0 _ h8 1 4 (mkF m 191 #[.val (.long A1), .second, .val (.long B1), .second, .val (.long A2), .second, .val (.long B2), .second, .val (.long A3), .second, .val (.long B3), .second, .val (.long r1), .second, .val (.long v1), .second, .val (.long r2), .second, .val (.long v2), .second, .val (.long r3), .second, .val (.long v3), .second, .val (.long r1), .second, .val (.long v1), .second, .val (.ref ob4)] [(.long ((((0 : Int64) + v1) + v2) + v3))])
      refine Run.lload 193 at_191 rfl ?_
      refine Run.lload 195 at_193 rfl ?_
      refine Run.ladd (v1 + v2) 196 at_195 ?_
      refine Run.lload 198 at_196 rfl ?_
      refine Run.ladd ((v1 + v2) + v3) 199 at_198 ?_
      refine Run.lneN 203 at_199 at_200 (by rw [Int64.zero_add]) ?_
      refine Run.aload 205 at_203 rfl ?_
      refine Run.callV 208 0 (a := ob4) (argsL := []) (st := []) (rm_worstRead hw ob4 (own_wr r3 v3 (own_wr r2 v2 (own_wr r1 v1 (0 : Int64) (0 : Int64)) (own_wv r1 v1 (0 : Int64) (0 : Int64))) (own_wv r2 v2 (own_wr r1 v1 (0 : Int64) (0 : Int64)) (own_wv r1 v1 (0 : Int64) (0 : Int64)))) h8 n0 hsz_h8 G8_3) G8_0 (hw _ (List.mem_of_getElem? (i := 37) rfl)) (hw _ (List.mem_of_getElem? (i := 38) rfl)) (hw _ (List.mem_of_getElem? (i := 40) rfl)) (hw _ (List.mem_of_getElem? (i := 39) rfl)) (hw _ (List.mem_of_getElem? (i := 7) rfl)) (hw _ (List.mem_of_getElem? (i := 41) rfl)) pd_3 at_205 (fun v11 h11 => ?_)
      rintro ⟨rfl, rfl⟩
      show Run p l e _ s m _ below meth c Z _ _ _ _ _ n0 _ h8 1 4 (mkF m 208 #[.val (.long A1), .second, .val (.long B1), .second, .val (.long A2), .second, .val (.long B2), .second, .val (.long A3), .second, .val (.long B3), .second, .val (.long r1), .second, .val (.long v1), .second, .val (.long r2), .second, .val (.long v2), .second, .val (.long r3), .second, .val (.long v3), .second, .val (.long r1), .second, .val (.long v1), .second, .val (.ref ob4)] [(.long (own_wr r3 v3 (own_wr r2 v2 (own_wr r1 v1 (0 : Int64) (0 : Int64)) (own_wv r1 v1 (0 : Int64) (0 : Int64))) (own_wv r2 v2 (own_wr r1 v1 (0 : Int64) (0 : Int64)) (own_wv r1 v1 (0 : Int64) (0 : Int64)))))])
      refine Run.lload 210 at_208 rfl ?_
      refine Run.lneN 214 at_210 at_211 (by rw [(own_one r1 v1).1, (own_one r1 v1).2, k2.1, k2.2, k3.1]) ?_
      refine Run.aload 216 at_214 rfl ?_
      refine Run.callV 219 0 (a := ob4) (argsL := []) (st := []) (rm_worstValid hw ob4 (own_wv r3 v3 (own_wr r2 v2 (own_wr r1 v1 (0 : Int64) (0 : Int64)) (own_wv r1 v1 (0 : Int64) (0 : Int64))) (own_wv r2 v2 (own_wr r1 v1 (0 : Int64) (0 : Int64)) (own_wv r1 v1 (0 : Int64) (0 : Int64)))) h8 n0 hsz_h8 G8_4) G8_0 (hw _ (List.mem_of_getElem? (i := 42) rfl)) (hw _ (List.mem_of_getElem? (i := 43) rfl)) (hw _ (List.mem_of_getElem? (i := 45) rfl)) (hw _ (List.mem_of_getElem? (i := 44) rfl)) (hw _ (List.mem_of_getElem? (i := 7) rfl)) (hw _ (List.mem_of_getElem? (i := 46) rfl)) pd_3 at_216 (fun v12 h12 => ?_)
      rintro ⟨rfl, rfl⟩
      show Run p l e _ s m _ below meth c Z _ _ _ _ _ n0 _ h8 1 4 (mkF m 219 #[.val (.long A1), .second, .val (.long B1), .second, .val (.long A2), .second, .val (.long B2), .second, .val (.long A3), .second, .val (.long B3), .second, .val (.long r1), .second, .val (.long v1), .second, .val (.long r2), .second, .val (.long v2), .second, .val (.long r3), .second, .val (.long v3), .second, .val (.long r1), .second, .val (.long v1), .second, .val (.ref ob4)] [(.long (own_wv r3 v3 (own_wr r2 v2 (own_wr r1 v1 (0 : Int64) (0 : Int64)) (own_wv r1 v1 (0 : Int64) (0 : Int64))) (own_wv r2 v2 (own_wr r1 v1 (0 : Int64) (0 : Int64)) (own_wv r1 v1 (0 : Int64) (0 : Int64)))))])
      refine Run.lload 221 at_219 rfl ?_
      refine Run.lneN 225 at_221 at_222 (by rw [(own_one r1 v1).1, (own_one r1 v1).2, k2.1, k2.2, k3.2]) ?_
      refine Run.iconst (1 : Int32) 226 at_225 ?_
      refine Run.goto 230 at_226 ?_
      exact Run.ret1 at_230 ⟨rfl, trivial⟩
    · refine Run.lload 127 at_125 rfl ?_
      refine Run.lstore 129 #[.val (.long A1), .second, .val (.long B1), .second, .val (.long A2), .second, .val (.long B2), .second, .val (.long A3), .second, .val (.long B3), .second, .val (.long r1), .second, .val (.long v1), .second, .val (.long r2), .second, .val (.long v2), .second, .val (.long r3), .second, .val (.long v3), .second, .val (.long r3), .second, .val (.long v1), .second, .unset] at_127 ?_
      refine Run.lload 131 at_129 rfl ?_
      refine Run.lstore 133 #[.val (.long A1), .second, .val (.long B1), .second, .val (.long A2), .second, .val (.long B2), .second, .val (.long A3), .second, .val (.long B3), .second, .val (.long r1), .second, .val (.long v1), .second, .val (.long r2), .second, .val (.long v2), .second, .val (.long r3), .second, .val (.long v3), .second, .val (.long r3), .second, .val (.long v3), .second, .unset] at_131 ?_
      have k2 := (own_step r2 v2 r1 v1 hr2 hv2 hr1 hv1).1 hc100
      have k3 := (own_step r3 v3 r1 v1 hr3 hv3 hr1 hv1).2 hc122
      refine Run.new 136 (hw _ (List.mem_of_getElem? (i := 5) rfl)) (hw _ (List.mem_of_getElem? (i := 6) rfl)) (hw _ (List.mem_of_getElem? (i := 7) rfl)) at_133 (fun h13 ob13 g13 u13 E13 A13 D13 => ?_)
      have F_read_ob13 : Fld Z h13 ob13 "com/example/revisit/revisit/query/ReadCost" "read" "J" (.long (0 : Int64)) := D13 (Or.inl (hw _ (List.mem_of_getElem? (i := 20) rfl))) (ty := .long) (by decide)
      have F_valid_ob13 : Fld Z h13 ob13 "com/example/revisit/revisit/query/ReadCost" "valid" "J" (.long (0 : Int64)) := D13 (Or.inl (hw _ (List.mem_of_getElem? (i := 22) rfl))) (ty := .long) (by decide)
      have F_worstRead_ob13 : Fld Z h13 ob13 "com/example/revisit/revisit/query/ReadCost" "worstRead" "J" (.long (0 : Int64)) := D13 (Or.inl (hw _ (List.mem_of_getElem? (i := 24) rfl))) (ty := .long) (by decide)
      have F_worstValid_ob13 : Fld Z h13 ob13 "com/example/revisit/revisit/query/ReadCost" "worstValid" "J" (.long (0 : Int64)) := D13 (Or.inl (hw _ (List.mem_of_getElem? (i := 26) rfl))) (ty := .long) (by decide)
      show Run p l e _ s m _ below meth c Z _ _ _ _ _ n0 _ h13 1 4 (mkF m 136 #[.val (.long A1), .second, .val (.long B1), .second, .val (.long A2), .second, .val (.long B2), .second, .val (.long A3), .second, .val (.long B3), .second, .val (.long r1), .second, .val (.long v1), .second, .val (.long r2), .second, .val (.long v2), .second, .val (.long r3), .second, .val (.long v3), .second, .val (.long r3), .second, .val (.long v3), .second, .unset] [(.ref ob13)])
      refine Run.dup 137 at_136 ?_
      refine Run.sz fun hsz_h13 => ?_
      refine Run.callC 140 1 (a := ob13) (argsL := []) (st := [(.ref ob13)]) (rmI hw ob13 h13 n0 hsz_h13 ) (hw _ (List.mem_of_getElem? (i := 8) rfl)) (hw _ (List.mem_of_getElem? (i := 9) rfl)) (hw _ (List.mem_of_getElem? (i := 7) rfl)) (hw _ (List.mem_of_getElem? (i := 10) rfl)) pd_1 at_137 (fun v14 h14 => ?_)
      rintro ⟨rfl, rfl⟩
      show Run p l e _ s m _ below meth c Z _ _ _ _ _ n0 _ h13 1 4 (mkF m 140 #[.val (.long A1), .second, .val (.long B1), .second, .val (.long A2), .second, .val (.long B2), .second, .val (.long A3), .second, .val (.long B3), .second, .val (.long r1), .second, .val (.long v1), .second, .val (.long r2), .second, .val (.long v2), .second, .val (.long r3), .second, .val (.long v3), .second, .val (.long r3), .second, .val (.long v3), .second, .unset] [(.ref ob13)])
      refine Run.astore 142 #[.val (.long A1), .second, .val (.long B1), .second, .val (.long A2), .second, .val (.long B2), .second, .val (.long A3), .second, .val (.long B3), .second, .val (.long r1), .second, .val (.long v1), .second, .val (.long r2), .second, .val (.long v2), .second, .val (.long r3), .second, .val (.long v3), .second, .val (.long r3), .second, .val (.long v3), .second, .val (.ref ob13)] at_140 ?_
      refine Run.aload 144 at_142 rfl ?_
      refine Run.lload 146 at_144 rfl ?_
      refine Run.lload 148 at_146 rfl ?_
      refine Run.callV 151 0 (a := ob13) (argsL := [(.long r1), (.long v1)]) (st := []) (rmA hw ob13 r1 v1 (0 : Int64) (0 : Int64) (0 : Int64) (0 : Int64) h13 n0 hsz_h13 A13 F_read_ob13 F_valid_ob13 F_worstRead_ob13 F_worstValid_ob13 u13) A13 (hw _ (List.mem_of_getElem? (i := 14) rfl)) (hw _ (List.mem_of_getElem? (i := 15) rfl)) (hw _ (List.mem_of_getElem? (i := 17) rfl)) (hw _ (List.mem_of_getElem? (i := 16) rfl)) (hw _ (List.mem_of_getElem? (i := 7) rfl)) (hw _ (List.mem_of_getElem? (i := 18) rfl)) pd_2 at_148 (fun v15 h15 => ?_)
      rintro ⟨rfl, K15, G15_0, G15_1, G15_2, G15_3, G15_4⟩
      show Run p l e _ s m _ below meth c Z _ _ _ _ _ n0 _ h15 1 4 (mkF m 151 #[.val (.long A1), .second, .val (.long B1), .second, .val (.long A2), .second, .val (.long B2), .second, .val (.long A3), .second, .val (.long B3), .second, .val (.long r1), .second, .val (.long v1), .second, .val (.long r2), .second, .val (.long v2), .second, .val (.long r3), .second, .val (.long v3), .second, .val (.long r3), .second, .val (.long v3), .second, .val (.ref ob13)] [])
      refine Run.aload 153 at_151 rfl ?_
      refine Run.lload 155 at_153 rfl ?_
      refine Run.lload 157 at_155 rfl ?_
      refine Run.sz fun hsz_h15 => ?_
      refine Run.callV 160 0 (a := ob13) (argsL := [(.long r2), (.long v2)]) (st := []) (rmA hw ob13 r2 v2 ((0 : Int64) + r1) ((0 : Int64) + v1) (own_wr r1 v1 (0 : Int64) (0 : Int64)) (own_wv r1 v1 (0 : Int64) (0 : Int64)) h15 n0 hsz_h15 G15_0 G15_1 G15_2 G15_3 G15_4 u13) G15_0 (hw _ (List.mem_of_getElem? (i := 14) rfl)) (hw _ (List.mem_of_getElem? (i := 15) rfl)) (hw _ (List.mem_of_getElem? (i := 17) rfl)) (hw _ (List.mem_of_getElem? (i := 16) rfl)) (hw _ (List.mem_of_getElem? (i := 7) rfl)) (hw _ (List.mem_of_getElem? (i := 18) rfl)) pd_2 at_157 (fun v16 h16 => ?_)
      rintro ⟨rfl, K16, G16_0, G16_1, G16_2, G16_3, G16_4⟩
      show Run p l e _ s m _ below meth c Z _ _ _ _ _ n0 _ h16 1 4 (mkF m 160 #[.val (.long A1), .second, .val (.long B1), .second, .val (.long A2), .second, .val (.long B2), .second, .val (.long A3), .second, .val (.long B3), .second, .val (.long r1), .second, .val (.long v1), .second, .val (.long r2), .second, .val (.long v2), .second, .val (.long r3), .second, .val (.long v3), .second, .val (.long r3), .second, .val (.long v3), .second, .val (.ref ob13)] [])
      refine Run.aload 162 at_160 rfl ?_
      refine Run.lload 164 at_162 rfl ?_
      refine Run.lload 166 at_164 rfl ?_
      refine Run.sz fun hsz_h16 => ?_
      refine Run.callV 169 0 (a := ob13) (argsL := [(.long r3), (.long v3)]) (st := []) (rmA hw ob13 r3 v3 (((0 : Int64) + r1) + r2) (((0 : Int64) + v1) + v2) (own_wr r2 v2 (own_wr r1 v1 (0 : Int64) (0 : Int64)) (own_wv r1 v1 (0 : Int64) (0 : Int64))) (own_wv r2 v2 (own_wr r1 v1 (0 : Int64) (0 : Int64)) (own_wv r1 v1 (0 : Int64) (0 : Int64))) h16 n0 hsz_h16 G16_0 G16_1 G16_2 G16_3 G16_4 u13) G16_0 (hw _ (List.mem_of_getElem? (i := 14) rfl)) (hw _ (List.mem_of_getElem? (i := 15) rfl)) (hw _ (List.mem_of_getElem? (i := 17) rfl)) (hw _ (List.mem_of_getElem? (i := 16) rfl)) (hw _ (List.mem_of_getElem? (i := 7) rfl)) (hw _ (List.mem_of_getElem? (i := 18) rfl)) pd_2 at_166 (fun v17 h17 => ?_)
      rintro ⟨rfl, K17, G17_0, G17_1, G17_2, G17_3, G17_4⟩
      show Run p l e _ s m _ below meth c Z _ _ _ _ _ n0 _ h17 1 4 (mkF m 169 #[.val (.long A1), .second, .val (.long B1), .second, .val (.long A2), .second, .val (.long B2), .second, .val (.long A3), .second, .val (.long B3), .second, .val (.long r1), .second, .val (.long v1), .second, .val (.long r2), .second, .val (.long v2), .second, .val (.long r3), .second, .val (.long v3), .second, .val (.long r3), .second, .val (.long v3), .second, .val (.ref ob13)] [])
      refine Run.aload 171 at_169 rfl ?_
      refine Run.sz fun hsz_h17 => ?_
      refine Run.callV 174 0 (a := ob13) (argsL := []) (st := []) (rm_read hw ob13 ((((0 : Int64) + r1) + r2) + r3) h17 n0 hsz_h17 G17_1) G17_0 (hw _ (List.mem_of_getElem? (i := 27) rfl)) (hw _ (List.mem_of_getElem? (i := 28) rfl)) (hw _ (List.mem_of_getElem? (i := 30) rfl)) (hw _ (List.mem_of_getElem? (i := 29) rfl)) (hw _ (List.mem_of_getElem? (i := 7) rfl)) (hw _ (List.mem_of_getElem? (i := 31) rfl)) pd_3 at_171 (fun v18 h18 => ?_)
      rintro ⟨rfl, rfl⟩
      show Run p l e _ s m _ below meth c Z _ _ _ _ _ n0 _ h17 1 4 (mkF m 174 #[.val (.long A1), .second, .val (.long B1), .second, .val (.long A2), .second, .val (.long B2), .second, .val (.long A3), .second, .val (.long B3), .second, .val (.long r1), .second, .val (.long v1), .second, .val (.long r2), .second, .val (.long v2), .second, .val (.long r3), .second, .val (.long v3), .second, .val (.long r3), .second, .val (.long v3), .second, .val (.ref ob13)] [(.long ((((0 : Int64) + r1) + r2) + r3))])
      refine Run.lload 176 at_174 rfl ?_
      refine Run.lload 178 at_176 rfl ?_
      refine Run.ladd (r1 + r2) 179 at_178 ?_
      refine Run.lload 181 at_179 rfl ?_
      refine Run.ladd ((r1 + r2) + r3) 182 at_181 ?_
      refine Run.lneN 186 at_182 at_183 (by rw [Int64.zero_add]) ?_
      refine Run.aload 188 at_186 rfl ?_
      refine Run.callV 191 0 (a := ob13) (argsL := []) (st := []) (rm_valid hw ob13 ((((0 : Int64) + v1) + v2) + v3) h17 n0 hsz_h17 G17_2) G17_0 (hw _ (List.mem_of_getElem? (i := 32) rfl)) (hw _ (List.mem_of_getElem? (i := 33) rfl)) (hw _ (List.mem_of_getElem? (i := 35) rfl)) (hw _ (List.mem_of_getElem? (i := 34) rfl)) (hw _ (List.mem_of_getElem? (i := 7) rfl)) (hw _ (List.mem_of_getElem? (i := 36) rfl)) pd_3 at_188 (fun v19 h19 => ?_)
      rintro ⟨rfl, rfl⟩
      show Run p l e _ s m _ below meth c Z _ _ _ _ _ n0 _ h17 1 4 (mkF m 191 #[.val (.long A1), .second, .val (.long B1), .second, .val (.long A2), .second, .val (.long B2), .second, .val (.long A3), .second, .val (.long B3), .second, .val (.long r1), .second, .val (.long v1), .second, .val (.long r2), .second, .val (.long v2), .second, .val (.long r3), .second, .val (.long v3), .second, .val (.long r3), .second, .val (.long v3), .second, .val (.ref ob13)] [(.long ((((0 : Int64) + v1) + v2) + v3))])
      refine Run.lload 193 at_191 rfl ?_
      refine Run.lload 195 at_193 rfl ?_
      refine Run.ladd (v1 + v2) 196 at_195 ?_
      refine Run.lload 198 at_196 rfl ?_
      refine Run.ladd ((v1 + v2) + v3) 199 at_198 ?_
      refine Run.lneN 203 at_199 at_200 (by rw [Int64.zero_add]) ?_
      refine Run.aload 205 at_203 rfl ?_
      refine Run.callV 208 0 (a := ob13) (argsL := []) (st := []) (rm_worstRead hw ob13 (own_wr r3 v3 (own_wr r2 v2 (own_wr r1 v1 (0 : Int64) (0 : Int64)) (own_wv r1 v1 (0 : Int64) (0 : Int64))) (own_wv r2 v2 (own_wr r1 v1 (0 : Int64) (0 : Int64)) (own_wv r1 v1 (0 : Int64) (0 : Int64)))) h17 n0 hsz_h17 G17_3) G17_0 (hw _ (List.mem_of_getElem? (i := 37) rfl)) (hw _ (List.mem_of_getElem? (i := 38) rfl)) (hw _ (List.mem_of_getElem? (i := 40) rfl)) (hw _ (List.mem_of_getElem? (i := 39) rfl)) (hw _ (List.mem_of_getElem? (i := 7) rfl)) (hw _ (List.mem_of_getElem? (i := 41) rfl)) pd_3 at_205 (fun v20 h20 => ?_)
      rintro ⟨rfl, rfl⟩
      show Run p l e _ s m _ below meth c Z _ _ _ _ _ n0 _ h17 1 4 (mkF m 208 #[.val (.long A1), .second, .val (.long B1), .second, .val (.long A2), .second, .val (.long B2), .second, .val (.long A3), .second, .val (.long B3), .second, .val (.long r1), .second, .val (.long v1), .second, .val (.long r2), .second, .val (.long v2), .second, .val (.long r3), .second, .val (.long v3), .second, .val (.long r3), .second, .val (.long v3), .second, .val (.ref ob13)] [(.long (own_wr r3 v3 (own_wr r2 v2 (own_wr r1 v1 (0 : Int64) (0 : Int64)) (own_wv r1 v1 (0 : Int64) (0 : Int64))) (own_wv r2 v2 (own_wr r1 v1 (0 : Int64) (0 : Int64)) (own_wv r1 v1 (0 : Int64) (0 : Int64)))))])
      refine Run.lload 210 at_208 rfl ?_
      refine Run.lneN 214 at_210 at_211 (by rw [(own_one r1 v1).1, (own_one r1 v1).2, k2.1, k2.2, k3.1]) ?_
      refine Run.aload 216 at_214 rfl ?_
      refine Run.callV 219 0 (a := ob13) (argsL := []) (st := []) (rm_worstValid hw ob13 (own_wv r3 v3 (own_wr r2 v2 (own_wr r1 v1 (0 : Int64) (0 : Int64)) (own_wv r1 v1 (0 : Int64) (0 : Int64))) (own_wv r2 v2 (own_wr r1 v1 (0 : Int64) (0 : Int64)) (own_wv r1 v1 (0 : Int64) (0 : Int64)))) h17 n0 hsz_h17 G17_4) G17_0 (hw _ (List.mem_of_getElem? (i := 42) rfl)) (hw _ (List.mem_of_getElem? (i := 43) rfl)) (hw _ (List.mem_of_getElem? (i := 45) rfl)) (hw _ (List.mem_of_getElem? (i := 44) rfl)) (hw _ (List.mem_of_getElem? (i := 7) rfl)) (hw _ (List.mem_of_getElem? (i := 46) rfl)) pd_3 at_216 (fun v21 h21 => ?_)
      rintro ⟨rfl, rfl⟩
      show Run p l e _ s m _ below meth c Z _ _ _ _ _ n0 _ h17 1 4 (mkF m 219 #[.val (.long A1), .second, .val (.long B1), .second, .val (.long A2), .second, .val (.long B2), .second, .val (.long A3), .second, .val (.long B3), .second, .val (.long r1), .second, .val (.long v1), .second, .val (.long r2), .second, .val (.long v2), .second, .val (.long r3), .second, .val (.long v3), .second, .val (.long r3), .second, .val (.long v3), .second, .val (.ref ob13)] [(.long (own_wv r3 v3 (own_wr r2 v2 (own_wr r1 v1 (0 : Int64) (0 : Int64)) (own_wv r1 v1 (0 : Int64) (0 : Int64))) (own_wv r2 v2 (own_wr r1 v1 (0 : Int64) (0 : Int64)) (own_wv r1 v1 (0 : Int64) (0 : Int64)))))])
      refine Run.lload 221 at_219 rfl ?_
      refine Run.lneN 225 at_221 at_222 (by rw [(own_one r1 v1).1, (own_one r1 v1).2, k2.1, k2.2, k3.2]) ?_
      refine Run.iconst (1 : Int32) 226 at_225 ?_
      refine Run.goto 230 at_226 ?_
      exact Run.ret1 at_230 ⟨rfl, trivial⟩
  · refine Run.lload 105 at_103 rfl ?_
    refine Run.lstore 107 #[.val (.long A1), .second, .val (.long B1), .second, .val (.long A2), .second, .val (.long B2), .second, .val (.long A3), .second, .val (.long B3), .second, .val (.long r1), .second, .val (.long v1), .second, .val (.long r2), .second, .val (.long v2), .second, .val (.long r3), .second, .val (.long v3), .second, .val (.long r2), .second, .val (.long v1), .second, .unset] at_105 ?_
    refine Run.lload 109 at_107 rfl ?_
    refine Run.lstore 111 #[.val (.long A1), .second, .val (.long B1), .second, .val (.long A2), .second, .val (.long B2), .second, .val (.long A3), .second, .val (.long B3), .second, .val (.long r1), .second, .val (.long v1), .second, .val (.long r2), .second, .val (.long v2), .second, .val (.long r3), .second, .val (.long v3), .second, .val (.long r2), .second, .val (.long v2), .second, .unset] at_109 ?_
    refine Run.lload 113 at_111 rfl ?_
    refine Run.lload 115 at_113 rfl ?_
    refine Run.lload 117 at_115 rfl ?_
    refine Run.lload 119 at_117 rfl ?_
    refine Run.callS 122 0 (argsL := [(.long r3), (.long v3), (.long r2), (.long v2)]) (st := []) (rmW hw r3 v3 r2 v2 h0 n0 Z0 ) (hw _ (List.mem_of_getElem? (i := 1) rfl)) (hw _ (List.mem_of_getElem? (i := 2) rfl)) (hw _ (List.mem_of_getElem? (i := 3) rfl)) (hw _ (List.mem_of_getElem? (i := 4) rfl)) pd_0 at_119 (fun v22 h22 => ?_)
    rintro ⟨rfl, rfl⟩
    show Run p l e _ s m _ below meth c Z _ _ _ _ _ n0 _ h0 0 0 (mkF m 122 #[.val (.long A1), .second, .val (.long B1), .second, .val (.long A2), .second, .val (.long B2), .second, .val (.long A3), .second, .val (.long B3), .second, .val (.long r1), .second, .val (.long v1), .second, .val (.long r2), .second, .val (.long v2), .second, .val (.long r3), .second, .val (.long v3), .second, .val (.long r2), .second, .val (.long v2), .second, .unset] [(.int (F_rmW r3 v3 r2 v2))])
    refine Run.eq0 133 125 at_122 (fun hc122 => ?_) (fun hc122 => ?_)
    · have k2 := (own_step r2 v2 r1 v1 hr2 hv2 hr1 hv1).2 hc100
      have k3 := (own_step r3 v3 r2 v2 hr3 hv3 hr2 hv2).1 hc122
      refine Run.new 136 (hw _ (List.mem_of_getElem? (i := 5) rfl)) (hw _ (List.mem_of_getElem? (i := 6) rfl)) (hw _ (List.mem_of_getElem? (i := 7) rfl)) at_133 (fun h23 ob23 g23 u23 E23 A23 D23 => ?_)
      have F_read_ob23 : Fld Z h23 ob23 "com/example/revisit/revisit/query/ReadCost" "read" "J" (.long (0 : Int64)) := D23 (Or.inl (hw _ (List.mem_of_getElem? (i := 20) rfl))) (ty := .long) (by decide)
      have F_valid_ob23 : Fld Z h23 ob23 "com/example/revisit/revisit/query/ReadCost" "valid" "J" (.long (0 : Int64)) := D23 (Or.inl (hw _ (List.mem_of_getElem? (i := 22) rfl))) (ty := .long) (by decide)
      have F_worstRead_ob23 : Fld Z h23 ob23 "com/example/revisit/revisit/query/ReadCost" "worstRead" "J" (.long (0 : Int64)) := D23 (Or.inl (hw _ (List.mem_of_getElem? (i := 24) rfl))) (ty := .long) (by decide)
      have F_worstValid_ob23 : Fld Z h23 ob23 "com/example/revisit/revisit/query/ReadCost" "worstValid" "J" (.long (0 : Int64)) := D23 (Or.inl (hw _ (List.mem_of_getElem? (i := 26) rfl))) (ty := .long) (by decide)
      show Run p l e _ s m _ below meth c Z _ _ _ _ _ n0 _ h23 1 4 (mkF m 136 #[.val (.long A1), .second, .val (.long B1), .second, .val (.long A2), .second, .val (.long B2), .second, .val (.long A3), .second, .val (.long B3), .second, .val (.long r1), .second, .val (.long v1), .second, .val (.long r2), .second, .val (.long v2), .second, .val (.long r3), .second, .val (.long v3), .second, .val (.long r2), .second, .val (.long v2), .second, .unset] [(.ref ob23)])
      refine Run.dup 137 at_136 ?_
      refine Run.sz fun hsz_h23 => ?_
      refine Run.callC 140 1 (a := ob23) (argsL := []) (st := [(.ref ob23)]) (rmI hw ob23 h23 n0 hsz_h23 ) (hw _ (List.mem_of_getElem? (i := 8) rfl)) (hw _ (List.mem_of_getElem? (i := 9) rfl)) (hw _ (List.mem_of_getElem? (i := 7) rfl)) (hw _ (List.mem_of_getElem? (i := 10) rfl)) pd_1 at_137 (fun v24 h24 => ?_)
      rintro ⟨rfl, rfl⟩
      show Run p l e _ s m _ below meth c Z _ _ _ _ _ n0 _ h23 1 4 (mkF m 140 #[.val (.long A1), .second, .val (.long B1), .second, .val (.long A2), .second, .val (.long B2), .second, .val (.long A3), .second, .val (.long B3), .second, .val (.long r1), .second, .val (.long v1), .second, .val (.long r2), .second, .val (.long v2), .second, .val (.long r3), .second, .val (.long v3), .second, .val (.long r2), .second, .val (.long v2), .second, .unset] [(.ref ob23)])
      refine Run.astore 142 #[.val (.long A1), .second, .val (.long B1), .second, .val (.long A2), .second, .val (.long B2), .second, .val (.long A3), .second, .val (.long B3), .second, .val (.long r1), .second, .val (.long v1), .second, .val (.long r2), .second, .val (.long v2), .second, .val (.long r3), .second, .val (.long v3), .second, .val (.long r2), .second, .val (.long v2), .second, .val (.ref ob23)] at_140 ?_
      refine Run.aload 144 at_142 rfl ?_
      refine Run.lload 146 at_144 rfl ?_
      refine Run.lload 148 at_146 rfl ?_
      refine Run.callV 151 0 (a := ob23) (argsL := [(.long r1), (.long v1)]) (st := []) (rmA hw ob23 r1 v1 (0 : Int64) (0 : Int64) (0 : Int64) (0 : Int64) h23 n0 hsz_h23 A23 F_read_ob23 F_valid_ob23 F_worstRead_ob23 F_worstValid_ob23 u23) A23 (hw _ (List.mem_of_getElem? (i := 14) rfl)) (hw _ (List.mem_of_getElem? (i := 15) rfl)) (hw _ (List.mem_of_getElem? (i := 17) rfl)) (hw _ (List.mem_of_getElem? (i := 16) rfl)) (hw _ (List.mem_of_getElem? (i := 7) rfl)) (hw _ (List.mem_of_getElem? (i := 18) rfl)) pd_2 at_148 (fun v25 h25 => ?_)
      rintro ⟨rfl, K25, G25_0, G25_1, G25_2, G25_3, G25_4⟩
      show Run p l e _ s m _ below meth c Z _ _ _ _ _ n0 _ h25 1 4 (mkF m 151 #[.val (.long A1), .second, .val (.long B1), .second, .val (.long A2), .second, .val (.long B2), .second, .val (.long A3), .second, .val (.long B3), .second, .val (.long r1), .second, .val (.long v1), .second, .val (.long r2), .second, .val (.long v2), .second, .val (.long r3), .second, .val (.long v3), .second, .val (.long r2), .second, .val (.long v2), .second, .val (.ref ob23)] [])
      refine Run.aload 153 at_151 rfl ?_
      refine Run.lload 155 at_153 rfl ?_
      refine Run.lload 157 at_155 rfl ?_
      refine Run.sz fun hsz_h25 => ?_
      refine Run.callV 160 0 (a := ob23) (argsL := [(.long r2), (.long v2)]) (st := []) (rmA hw ob23 r2 v2 ((0 : Int64) + r1) ((0 : Int64) + v1) (own_wr r1 v1 (0 : Int64) (0 : Int64)) (own_wv r1 v1 (0 : Int64) (0 : Int64)) h25 n0 hsz_h25 G25_0 G25_1 G25_2 G25_3 G25_4 u23) G25_0 (hw _ (List.mem_of_getElem? (i := 14) rfl)) (hw _ (List.mem_of_getElem? (i := 15) rfl)) (hw _ (List.mem_of_getElem? (i := 17) rfl)) (hw _ (List.mem_of_getElem? (i := 16) rfl)) (hw _ (List.mem_of_getElem? (i := 7) rfl)) (hw _ (List.mem_of_getElem? (i := 18) rfl)) pd_2 at_157 (fun v26 h26 => ?_)
      rintro ⟨rfl, K26, G26_0, G26_1, G26_2, G26_3, G26_4⟩
      show Run p l e _ s m _ below meth c Z _ _ _ _ _ n0 _ h26 1 4 (mkF m 160 #[.val (.long A1), .second, .val (.long B1), .second, .val (.long A2), .second, .val (.long B2), .second, .val (.long A3), .second, .val (.long B3), .second, .val (.long r1), .second, .val (.long v1), .second, .val (.long r2), .second, .val (.long v2), .second, .val (.long r3), .second, .val (.long v3), .second, .val (.long r2), .second, .val (.long v2), .second, .val (.ref ob23)] [])
      refine Run.aload 162 at_160 rfl ?_
      refine Run.lload 164 at_162 rfl ?_
      refine Run.lload 166 at_164 rfl ?_
      refine Run.sz fun hsz_h26 => ?_
      refine Run.callV 169 0 (a := ob23) (argsL := [(.long r3), (.long v3)]) (st := []) (rmA hw ob23 r3 v3 (((0 : Int64) + r1) + r2) (((0 : Int64) + v1) + v2) (own_wr r2 v2 (own_wr r1 v1 (0 : Int64) (0 : Int64)) (own_wv r1 v1 (0 : Int64) (0 : Int64))) (own_wv r2 v2 (own_wr r1 v1 (0 : Int64) (0 : Int64)) (own_wv r1 v1 (0 : Int64) (0 : Int64))) h26 n0 hsz_h26 G26_0 G26_1 G26_2 G26_3 G26_4 u23) G26_0 (hw _ (List.mem_of_getElem? (i := 14) rfl)) (hw _ (List.mem_of_getElem? (i := 15) rfl)) (hw _ (List.mem_of_getElem? (i := 17) rfl)) (hw _ (List.mem_of_getElem? (i := 16) rfl)) (hw _ (List.mem_of_getElem? (i := 7) rfl)) (hw _ (List.mem_of_getElem? (i := 18) rfl)) pd_2 at_166 (fun v27 h27 => ?_)
      rintro ⟨rfl, K27, G27_0, G27_1, G27_2, G27_3, G27_4⟩
      show Run p l e _ s m _ below meth c Z _ _ _ _ _ n0 _ h27 1 4 (mkF m 169 #[.val (.long A1), .second, .val (.long B1), .second, .val (.long A2), .second, .val (.long B2), .second, .val (.long A3), .second, .val (.long B3), .second, .val (.long r1), .second, .val (.long v1), .second, .val (.long r2), .second, .val (.long v2), .second, .val (.long r3), .second, .val (.long v3), .second, .val (.long r2), .second, .val (.long v2), .second, .val (.ref ob23)] [])
      refine Run.aload 171 at_169 rfl ?_
      refine Run.sz fun hsz_h27 => ?_
      refine Run.callV 174 0 (a := ob23) (argsL := []) (st := []) (rm_read hw ob23 ((((0 : Int64) + r1) + r2) + r3) h27 n0 hsz_h27 G27_1) G27_0 (hw _ (List.mem_of_getElem? (i := 27) rfl)) (hw _ (List.mem_of_getElem? (i := 28) rfl)) (hw _ (List.mem_of_getElem? (i := 30) rfl)) (hw _ (List.mem_of_getElem? (i := 29) rfl)) (hw _ (List.mem_of_getElem? (i := 7) rfl)) (hw _ (List.mem_of_getElem? (i := 31) rfl)) pd_3 at_171 (fun v28 h28 => ?_)
      rintro ⟨rfl, rfl⟩
      show Run p l e _ s m _ below meth c Z _ _ _ _ _ n0 _ h27 1 4 (mkF m 174 #[.val (.long A1), .second, .val (.long B1), .second, .val (.long A2), .second, .val (.long B2), .second, .val (.long A3), .second, .val (.long B3), .second, .val (.long r1), .second, .val (.long v1), .second, .val (.long r2), .second, .val (.long v2), .second, .val (.long r3), .second, .val (.long v3), .second, .val (.long r2), .second, .val (.long v2), .second, .val (.ref ob23)] [(.long ((((0 : Int64) + r1) + r2) + r3))])
      refine Run.lload 176 at_174 rfl ?_
      refine Run.lload 178 at_176 rfl ?_
      refine Run.ladd (r1 + r2) 179 at_178 ?_
      refine Run.lload 181 at_179 rfl ?_
      refine Run.ladd ((r1 + r2) + r3) 182 at_181 ?_
      refine Run.lneN 186 at_182 at_183 (by rw [Int64.zero_add]) ?_
      refine Run.aload 188 at_186 rfl ?_
      refine Run.callV 191 0 (a := ob23) (argsL := []) (st := []) (rm_valid hw ob23 ((((0 : Int64) + v1) + v2) + v3) h27 n0 hsz_h27 G27_2) G27_0 (hw _ (List.mem_of_getElem? (i := 32) rfl)) (hw _ (List.mem_of_getElem? (i := 33) rfl)) (hw _ (List.mem_of_getElem? (i := 35) rfl)) (hw _ (List.mem_of_getElem? (i := 34) rfl)) (hw _ (List.mem_of_getElem? (i := 7) rfl)) (hw _ (List.mem_of_getElem? (i := 36) rfl)) pd_3 at_188 (fun v29 h29 => ?_)
      rintro ⟨rfl, rfl⟩
      show Run p l e _ s m _ below meth c Z _ _ _ _ _ n0 _ h27 1 4 (mkF m 191 #[.val (.long A1), .second, .val (.long B1), .second, .val (.long A2), .second, .val (.long B2), .second, .val (.long A3), .second, .val (.long B3), .second, .val (.long r1), .second, .val (.long v1), .second, .val (.long r2), .second, .val (.long v2), .second, .val (.long r3), .second, .val (.long v3), .second, .val (.long r2), .second, .val (.long v2), .second, .val (.ref ob23)] [(.long ((((0 : Int64) + v1) + v2) + v3))])
      refine Run.lload 193 at_191 rfl ?_
      refine Run.lload 195 at_193 rfl ?_
      refine Run.ladd (v1 + v2) 196 at_195 ?_
      refine Run.lload 198 at_196 rfl ?_
      refine Run.ladd ((v1 + v2) + v3) 199 at_198 ?_
      refine Run.lneN 203 at_199 at_200 (by rw [Int64.zero_add]) ?_
      refine Run.aload 205 at_203 rfl ?_
      refine Run.callV 208 0 (a := ob23) (argsL := []) (st := []) (rm_worstRead hw ob23 (own_wr r3 v3 (own_wr r2 v2 (own_wr r1 v1 (0 : Int64) (0 : Int64)) (own_wv r1 v1 (0 : Int64) (0 : Int64))) (own_wv r2 v2 (own_wr r1 v1 (0 : Int64) (0 : Int64)) (own_wv r1 v1 (0 : Int64) (0 : Int64)))) h27 n0 hsz_h27 G27_3) G27_0 (hw _ (List.mem_of_getElem? (i := 37) rfl)) (hw _ (List.mem_of_getElem? (i := 38) rfl)) (hw _ (List.mem_of_getElem? (i := 40) rfl)) (hw _ (List.mem_of_getElem? (i := 39) rfl)) (hw _ (List.mem_of_getElem? (i := 7) rfl)) (hw _ (List.mem_of_getElem? (i := 41) rfl)) pd_3 at_205 (fun v30 h30 => ?_)
      rintro ⟨rfl, rfl⟩
      show Run p l e _ s m _ below meth c Z _ _ _ _ _ n0 _ h27 1 4 (mkF m 208 #[.val (.long A1), .second, .val (.long B1), .second, .val (.long A2), .second, .val (.long B2), .second, .val (.long A3), .second, .val (.long B3), .second, .val (.long r1), .second, .val (.long v1), .second, .val (.long r2), .second, .val (.long v2), .second, .val (.long r3), .second, .val (.long v3), .second, .val (.long r2), .second, .val (.long v2), .second, .val (.ref ob23)] [(.long (own_wr r3 v3 (own_wr r2 v2 (own_wr r1 v1 (0 : Int64) (0 : Int64)) (own_wv r1 v1 (0 : Int64) (0 : Int64))) (own_wv r2 v2 (own_wr r1 v1 (0 : Int64) (0 : Int64)) (own_wv r1 v1 (0 : Int64) (0 : Int64)))))])
      refine Run.lload 210 at_208 rfl ?_
      refine Run.lneN 214 at_210 at_211 (by rw [(own_one r1 v1).1, (own_one r1 v1).2, k2.1, k2.2, k3.1]) ?_
      refine Run.aload 216 at_214 rfl ?_
      refine Run.callV 219 0 (a := ob23) (argsL := []) (st := []) (rm_worstValid hw ob23 (own_wv r3 v3 (own_wr r2 v2 (own_wr r1 v1 (0 : Int64) (0 : Int64)) (own_wv r1 v1 (0 : Int64) (0 : Int64))) (own_wv r2 v2 (own_wr r1 v1 (0 : Int64) (0 : Int64)) (own_wv r1 v1 (0 : Int64) (0 : Int64)))) h27 n0 hsz_h27 G27_4) G27_0 (hw _ (List.mem_of_getElem? (i := 42) rfl)) (hw _ (List.mem_of_getElem? (i := 43) rfl)) (hw _ (List.mem_of_getElem? (i := 45) rfl)) (hw _ (List.mem_of_getElem? (i := 44) rfl)) (hw _ (List.mem_of_getElem? (i := 7) rfl)) (hw _ (List.mem_of_getElem? (i := 46) rfl)) pd_3 at_216 (fun v31 h31 => ?_)
      rintro ⟨rfl, rfl⟩
      show Run p l e _ s m _ below meth c Z _ _ _ _ _ n0 _ h27 1 4 (mkF m 219 #[.val (.long A1), .second, .val (.long B1), .second, .val (.long A2), .second, .val (.long B2), .second, .val (.long A3), .second, .val (.long B3), .second, .val (.long r1), .second, .val (.long v1), .second, .val (.long r2), .second, .val (.long v2), .second, .val (.long r3), .second, .val (.long v3), .second, .val (.long r2), .second, .val (.long v2), .second, .val (.ref ob23)] [(.long (own_wv r3 v3 (own_wr r2 v2 (own_wr r1 v1 (0 : Int64) (0 : Int64)) (own_wv r1 v1 (0 : Int64) (0 : Int64))) (own_wv r2 v2 (own_wr r1 v1 (0 : Int64) (0 : Int64)) (own_wv r1 v1 (0 : Int64) (0 : Int64)))))])
      refine Run.lload 221 at_219 rfl ?_
      refine Run.lneN 225 at_221 at_222 (by rw [(own_one r1 v1).1, (own_one r1 v1).2, k2.1, k2.2, k3.2]) ?_
      refine Run.iconst (1 : Int32) 226 at_225 ?_
      refine Run.goto 230 at_226 ?_
      exact Run.ret1 at_230 ⟨rfl, trivial⟩
    · refine Run.lload 127 at_125 rfl ?_
      refine Run.lstore 129 #[.val (.long A1), .second, .val (.long B1), .second, .val (.long A2), .second, .val (.long B2), .second, .val (.long A3), .second, .val (.long B3), .second, .val (.long r1), .second, .val (.long v1), .second, .val (.long r2), .second, .val (.long v2), .second, .val (.long r3), .second, .val (.long v3), .second, .val (.long r3), .second, .val (.long v2), .second, .unset] at_127 ?_
      refine Run.lload 131 at_129 rfl ?_
      refine Run.lstore 133 #[.val (.long A1), .second, .val (.long B1), .second, .val (.long A2), .second, .val (.long B2), .second, .val (.long A3), .second, .val (.long B3), .second, .val (.long r1), .second, .val (.long v1), .second, .val (.long r2), .second, .val (.long v2), .second, .val (.long r3), .second, .val (.long v3), .second, .val (.long r3), .second, .val (.long v3), .second, .unset] at_131 ?_
      have k2 := (own_step r2 v2 r1 v1 hr2 hv2 hr1 hv1).2 hc100
      have k3 := (own_step r3 v3 r2 v2 hr3 hv3 hr2 hv2).2 hc122
      refine Run.new 136 (hw _ (List.mem_of_getElem? (i := 5) rfl)) (hw _ (List.mem_of_getElem? (i := 6) rfl)) (hw _ (List.mem_of_getElem? (i := 7) rfl)) at_133 (fun h32 ob32 g32 u32 E32 A32 D32 => ?_)
      have F_read_ob32 : Fld Z h32 ob32 "com/example/revisit/revisit/query/ReadCost" "read" "J" (.long (0 : Int64)) := D32 (Or.inl (hw _ (List.mem_of_getElem? (i := 20) rfl))) (ty := .long) (by decide)
      have F_valid_ob32 : Fld Z h32 ob32 "com/example/revisit/revisit/query/ReadCost" "valid" "J" (.long (0 : Int64)) := D32 (Or.inl (hw _ (List.mem_of_getElem? (i := 22) rfl))) (ty := .long) (by decide)
      have F_worstRead_ob32 : Fld Z h32 ob32 "com/example/revisit/revisit/query/ReadCost" "worstRead" "J" (.long (0 : Int64)) := D32 (Or.inl (hw _ (List.mem_of_getElem? (i := 24) rfl))) (ty := .long) (by decide)
      have F_worstValid_ob32 : Fld Z h32 ob32 "com/example/revisit/revisit/query/ReadCost" "worstValid" "J" (.long (0 : Int64)) := D32 (Or.inl (hw _ (List.mem_of_getElem? (i := 26) rfl))) (ty := .long) (by decide)
      show Run p l e _ s m _ below meth c Z _ _ _ _ _ n0 _ h32 1 4 (mkF m 136 #[.val (.long A1), .second, .val (.long B1), .second, .val (.long A2), .second, .val (.long B2), .second, .val (.long A3), .second, .val (.long B3), .second, .val (.long r1), .second, .val (.long v1), .second, .val (.long r2), .second, .val (.long v2), .second, .val (.long r3), .second, .val (.long v3), .second, .val (.long r3), .second, .val (.long v3), .second, .unset] [(.ref ob32)])
      refine Run.dup 137 at_136 ?_
      refine Run.sz fun hsz_h32 => ?_
      refine Run.callC 140 1 (a := ob32) (argsL := []) (st := [(.ref ob32)]) (rmI hw ob32 h32 n0 hsz_h32 ) (hw _ (List.mem_of_getElem? (i := 8) rfl)) (hw _ (List.mem_of_getElem? (i := 9) rfl)) (hw _ (List.mem_of_getElem? (i := 7) rfl)) (hw _ (List.mem_of_getElem? (i := 10) rfl)) pd_1 at_137 (fun v33 h33 => ?_)
      rintro ⟨rfl, rfl⟩
      show Run p l e _ s m _ below meth c Z _ _ _ _ _ n0 _ h32 1 4 (mkF m 140 #[.val (.long A1), .second, .val (.long B1), .second, .val (.long A2), .second, .val (.long B2), .second, .val (.long A3), .second, .val (.long B3), .second, .val (.long r1), .second, .val (.long v1), .second, .val (.long r2), .second, .val (.long v2), .second, .val (.long r3), .second, .val (.long v3), .second, .val (.long r3), .second, .val (.long v3), .second, .unset] [(.ref ob32)])
      refine Run.astore 142 #[.val (.long A1), .second, .val (.long B1), .second, .val (.long A2), .second, .val (.long B2), .second, .val (.long A3), .second, .val (.long B3), .second, .val (.long r1), .second, .val (.long v1), .second, .val (.long r2), .second, .val (.long v2), .second, .val (.long r3), .second, .val (.long v3), .second, .val (.long r3), .second, .val (.long v3), .second, .val (.ref ob32)] at_140 ?_
      refine Run.aload 144 at_142 rfl ?_
      refine Run.lload 146 at_144 rfl ?_
      refine Run.lload 148 at_146 rfl ?_
      refine Run.callV 151 0 (a := ob32) (argsL := [(.long r1), (.long v1)]) (st := []) (rmA hw ob32 r1 v1 (0 : Int64) (0 : Int64) (0 : Int64) (0 : Int64) h32 n0 hsz_h32 A32 F_read_ob32 F_valid_ob32 F_worstRead_ob32 F_worstValid_ob32 u32) A32 (hw _ (List.mem_of_getElem? (i := 14) rfl)) (hw _ (List.mem_of_getElem? (i := 15) rfl)) (hw _ (List.mem_of_getElem? (i := 17) rfl)) (hw _ (List.mem_of_getElem? (i := 16) rfl)) (hw _ (List.mem_of_getElem? (i := 7) rfl)) (hw _ (List.mem_of_getElem? (i := 18) rfl)) pd_2 at_148 (fun v34 h34 => ?_)
      rintro ⟨rfl, K34, G34_0, G34_1, G34_2, G34_3, G34_4⟩
      show Run p l e _ s m _ below meth c Z _ _ _ _ _ n0 _ h34 1 4 (mkF m 151 #[.val (.long A1), .second, .val (.long B1), .second, .val (.long A2), .second, .val (.long B2), .second, .val (.long A3), .second, .val (.long B3), .second, .val (.long r1), .second, .val (.long v1), .second, .val (.long r2), .second, .val (.long v2), .second, .val (.long r3), .second, .val (.long v3), .second, .val (.long r3), .second, .val (.long v3), .second, .val (.ref ob32)] [])
      refine Run.aload 153 at_151 rfl ?_
      refine Run.lload 155 at_153 rfl ?_
      refine Run.lload 157 at_155 rfl ?_
      refine Run.sz fun hsz_h34 => ?_
      refine Run.callV 160 0 (a := ob32) (argsL := [(.long r2), (.long v2)]) (st := []) (rmA hw ob32 r2 v2 ((0 : Int64) + r1) ((0 : Int64) + v1) (own_wr r1 v1 (0 : Int64) (0 : Int64)) (own_wv r1 v1 (0 : Int64) (0 : Int64)) h34 n0 hsz_h34 G34_0 G34_1 G34_2 G34_3 G34_4 u32) G34_0 (hw _ (List.mem_of_getElem? (i := 14) rfl)) (hw _ (List.mem_of_getElem? (i := 15) rfl)) (hw _ (List.mem_of_getElem? (i := 17) rfl)) (hw _ (List.mem_of_getElem? (i := 16) rfl)) (hw _ (List.mem_of_getElem? (i := 7) rfl)) (hw _ (List.mem_of_getElem? (i := 18) rfl)) pd_2 at_157 (fun v35 h35 => ?_)
      rintro ⟨rfl, K35, G35_0, G35_1, G35_2, G35_3, G35_4⟩
      show Run p l e _ s m _ below meth c Z _ _ _ _ _ n0 _ h35 1 4 (mkF m 160 #[.val (.long A1), .second, .val (.long B1), .second, .val (.long A2), .second, .val (.long B2), .second, .val (.long A3), .second, .val (.long B3), .second, .val (.long r1), .second, .val (.long v1), .second, .val (.long r2), .second, .val (.long v2), .second, .val (.long r3), .second, .val (.long v3), .second, .val (.long r3), .second, .val (.long v3), .second, .val (.ref ob32)] [])
      refine Run.aload 162 at_160 rfl ?_
      refine Run.lload 164 at_162 rfl ?_
      refine Run.lload 166 at_164 rfl ?_
      refine Run.sz fun hsz_h35 => ?_
      refine Run.callV 169 0 (a := ob32) (argsL := [(.long r3), (.long v3)]) (st := []) (rmA hw ob32 r3 v3 (((0 : Int64) + r1) + r2) (((0 : Int64) + v1) + v2) (own_wr r2 v2 (own_wr r1 v1 (0 : Int64) (0 : Int64)) (own_wv r1 v1 (0 : Int64) (0 : Int64))) (own_wv r2 v2 (own_wr r1 v1 (0 : Int64) (0 : Int64)) (own_wv r1 v1 (0 : Int64) (0 : Int64))) h35 n0 hsz_h35 G35_0 G35_1 G35_2 G35_3 G35_4 u32) G35_0 (hw _ (List.mem_of_getElem? (i := 14) rfl)) (hw _ (List.mem_of_getElem? (i := 15) rfl)) (hw _ (List.mem_of_getElem? (i := 17) rfl)) (hw _ (List.mem_of_getElem? (i := 16) rfl)) (hw _ (List.mem_of_getElem? (i := 7) rfl)) (hw _ (List.mem_of_getElem? (i := 18) rfl)) pd_2 at_166 (fun v36 h36 => ?_)
      rintro ⟨rfl, K36, G36_0, G36_1, G36_2, G36_3, G36_4⟩
      show Run p l e _ s m _ below meth c Z _ _ _ _ _ n0 _ h36 1 4 (mkF m 169 #[.val (.long A1), .second, .val (.long B1), .second, .val (.long A2), .second, .val (.long B2), .second, .val (.long A3), .second, .val (.long B3), .second, .val (.long r1), .second, .val (.long v1), .second, .val (.long r2), .second, .val (.long v2), .second, .val (.long r3), .second, .val (.long v3), .second, .val (.long r3), .second, .val (.long v3), .second, .val (.ref ob32)] [])
      refine Run.aload 171 at_169 rfl ?_
      refine Run.sz fun hsz_h36 => ?_
      refine Run.callV 174 0 (a := ob32) (argsL := []) (st := []) (rm_read hw ob32 ((((0 : Int64) + r1) + r2) + r3) h36 n0 hsz_h36 G36_1) G36_0 (hw _ (List.mem_of_getElem? (i := 27) rfl)) (hw _ (List.mem_of_getElem? (i := 28) rfl)) (hw _ (List.mem_of_getElem? (i := 30) rfl)) (hw _ (List.mem_of_getElem? (i := 29) rfl)) (hw _ (List.mem_of_getElem? (i := 7) rfl)) (hw _ (List.mem_of_getElem? (i := 31) rfl)) pd_3 at_171 (fun v37 h37 => ?_)
      rintro ⟨rfl, rfl⟩
      show Run p l e _ s m _ below meth c Z _ _ _ _ _ n0 _ h36 1 4 (mkF m 174 #[.val (.long A1), .second, .val (.long B1), .second, .val (.long A2), .second, .val (.long B2), .second, .val (.long A3), .second, .val (.long B3), .second, .val (.long r1), .second, .val (.long v1), .second, .val (.long r2), .second, .val (.long v2), .second, .val (.long r3), .second, .val (.long v3), .second, .val (.long r3), .second, .val (.long v3), .second, .val (.ref ob32)] [(.long ((((0 : Int64) + r1) + r2) + r3))])
      refine Run.lload 176 at_174 rfl ?_
      refine Run.lload 178 at_176 rfl ?_
      refine Run.ladd (r1 + r2) 179 at_178 ?_
      refine Run.lload 181 at_179 rfl ?_
      refine Run.ladd ((r1 + r2) + r3) 182 at_181 ?_
      refine Run.lneN 186 at_182 at_183 (by rw [Int64.zero_add]) ?_
      refine Run.aload 188 at_186 rfl ?_
      refine Run.callV 191 0 (a := ob32) (argsL := []) (st := []) (rm_valid hw ob32 ((((0 : Int64) + v1) + v2) + v3) h36 n0 hsz_h36 G36_2) G36_0 (hw _ (List.mem_of_getElem? (i := 32) rfl)) (hw _ (List.mem_of_getElem? (i := 33) rfl)) (hw _ (List.mem_of_getElem? (i := 35) rfl)) (hw _ (List.mem_of_getElem? (i := 34) rfl)) (hw _ (List.mem_of_getElem? (i := 7) rfl)) (hw _ (List.mem_of_getElem? (i := 36) rfl)) pd_3 at_188 (fun v38 h38 => ?_)
      rintro ⟨rfl, rfl⟩
      show Run p l e _ s m _ below meth c Z _ _ _ _ _ n0 _ h36 1 4 (mkF m 191 #[.val (.long A1), .second, .val (.long B1), .second, .val (.long A2), .second, .val (.long B2), .second, .val (.long A3), .second, .val (.long B3), .second, .val (.long r1), .second, .val (.long v1), .second, .val (.long r2), .second, .val (.long v2), .second, .val (.long r3), .second, .val (.long v3), .second, .val (.long r3), .second, .val (.long v3), .second, .val (.ref ob32)] [(.long ((((0 : Int64) + v1) + v2) + v3))])
      refine Run.lload 193 at_191 rfl ?_
      refine Run.lload 195 at_193 rfl ?_
      refine Run.ladd (v1 + v2) 196 at_195 ?_
      refine Run.lload 198 at_196 rfl ?_
      refine Run.ladd ((v1 + v2) + v3) 199 at_198 ?_
      refine Run.lneN 203 at_199 at_200 (by rw [Int64.zero_add]) ?_
      refine Run.aload 205 at_203 rfl ?_
      refine Run.callV 208 0 (a := ob32) (argsL := []) (st := []) (rm_worstRead hw ob32 (own_wr r3 v3 (own_wr r2 v2 (own_wr r1 v1 (0 : Int64) (0 : Int64)) (own_wv r1 v1 (0 : Int64) (0 : Int64))) (own_wv r2 v2 (own_wr r1 v1 (0 : Int64) (0 : Int64)) (own_wv r1 v1 (0 : Int64) (0 : Int64)))) h36 n0 hsz_h36 G36_3) G36_0 (hw _ (List.mem_of_getElem? (i := 37) rfl)) (hw _ (List.mem_of_getElem? (i := 38) rfl)) (hw _ (List.mem_of_getElem? (i := 40) rfl)) (hw _ (List.mem_of_getElem? (i := 39) rfl)) (hw _ (List.mem_of_getElem? (i := 7) rfl)) (hw _ (List.mem_of_getElem? (i := 41) rfl)) pd_3 at_205 (fun v39 h39 => ?_)
      rintro ⟨rfl, rfl⟩
      show Run p l e _ s m _ below meth c Z _ _ _ _ _ n0 _ h36 1 4 (mkF m 208 #[.val (.long A1), .second, .val (.long B1), .second, .val (.long A2), .second, .val (.long B2), .second, .val (.long A3), .second, .val (.long B3), .second, .val (.long r1), .second, .val (.long v1), .second, .val (.long r2), .second, .val (.long v2), .second, .val (.long r3), .second, .val (.long v3), .second, .val (.long r3), .second, .val (.long v3), .second, .val (.ref ob32)] [(.long (own_wr r3 v3 (own_wr r2 v2 (own_wr r1 v1 (0 : Int64) (0 : Int64)) (own_wv r1 v1 (0 : Int64) (0 : Int64))) (own_wv r2 v2 (own_wr r1 v1 (0 : Int64) (0 : Int64)) (own_wv r1 v1 (0 : Int64) (0 : Int64)))))])
      refine Run.lload 210 at_208 rfl ?_
      refine Run.lneN 214 at_210 at_211 (by rw [(own_one r1 v1).1, (own_one r1 v1).2, k2.1, k2.2, k3.1]) ?_
      refine Run.aload 216 at_214 rfl ?_
      refine Run.callV 219 0 (a := ob32) (argsL := []) (st := []) (rm_worstValid hw ob32 (own_wv r3 v3 (own_wr r2 v2 (own_wr r1 v1 (0 : Int64) (0 : Int64)) (own_wv r1 v1 (0 : Int64) (0 : Int64))) (own_wv r2 v2 (own_wr r1 v1 (0 : Int64) (0 : Int64)) (own_wv r1 v1 (0 : Int64) (0 : Int64)))) h36 n0 hsz_h36 G36_4) G36_0 (hw _ (List.mem_of_getElem? (i := 42) rfl)) (hw _ (List.mem_of_getElem? (i := 43) rfl)) (hw _ (List.mem_of_getElem? (i := 45) rfl)) (hw _ (List.mem_of_getElem? (i := 44) rfl)) (hw _ (List.mem_of_getElem? (i := 7) rfl)) (hw _ (List.mem_of_getElem? (i := 46) rfl)) pd_3 at_216 (fun v40 h40 => ?_)
      rintro ⟨rfl, rfl⟩
      show Run p l e _ s m _ below meth c Z _ _ _ _ _ n0 _ h36 1 4 (mkF m 219 #[.val (.long A1), .second, .val (.long B1), .second, .val (.long A2), .second, .val (.long B2), .second, .val (.long A3), .second, .val (.long B3), .second, .val (.long r1), .second, .val (.long v1), .second, .val (.long r2), .second, .val (.long v2), .second, .val (.long r3), .second, .val (.long v3), .second, .val (.long r3), .second, .val (.long v3), .second, .val (.ref ob32)] [(.long (own_wv r3 v3 (own_wr r2 v2 (own_wr r1 v1 (0 : Int64) (0 : Int64)) (own_wv r1 v1 (0 : Int64) (0 : Int64))) (own_wv r2 v2 (own_wr r1 v1 (0 : Int64) (0 : Int64)) (own_wv r1 v1 (0 : Int64) (0 : Int64)))))])
      refine Run.lload 221 at_219 rfl ?_
      refine Run.lneN 225 at_221 at_222 (by rw [(own_one r1 v1).1, (own_one r1 v1).2, k2.1, k2.2, k3.2]) ?_
      refine Run.iconst (1 : Int32) 226 at_225 ?_
      refine Run.goto 230 at_226 ?_
      exact Run.ret1 at_230 ⟨rfl, trivial⟩
set_option maxRecDepth 65536 in
set_option maxHeartbeats 40000000 in
theorem comes_1 {Post : Tables → Env → Array Value → State → Outcome → State → Prop} (hpost : ∀ tb e args s v u, (limb_1_1.after args s (.returned v) u = true ∧ limb_1_2.after args s (.returned v) u = true ∧ True) → FrameEnd s (.returned v) u (Jvm.fieldLocs frame_1_writes args s ++ Jvm.arrayLocs frame_1_arrays args s ++ Jvm.staticLocs frame_1_statics s) 16 128 → Post tb e args s (.returned v) u) :
    ArmFor flags0 classFile x code maxLocals ret World_1 tables_1 room_1 Calls_1 rest_1 Pre_1 Post := by
  intro l hfl _ _ p e ha hc hk s m args below hf hA hF happ hP
  obtain ⟨hcalls, hrest, hpre⟩ := hP
  obtain ⟨-, -, -, hnamed, -, -, -, hat⟩ := (Spec.applies_iff hf).mp happ
  obtain ⟨hg, hn⟩ := and_e (Cond.before_iff.mp (show (Jvm.Cond.and given_1 narrow_1).before args s = true from hpre))
  obtain ⟨g1, g2⟩ := and_e hg
  obtain ⟨g3, g4⟩ := and_e g2
  obtain ⟨g5, g6⟩ := and_e g4
  obtain ⟨g7, g8⟩ := and_e g6
  obtain ⟨g9, g10⟩ := and_e g8
  obtain ⟨g11, g12⟩ := and_e g10
  obtain ⟨w0, w1, w2, w3, w4, w5, rfl⟩ : ∃ w0 w1 w2 w3 w4 w5 : Value, args = #[w0, w1, w2, w3, w4, w5] := by
    have hs : args.size = 6 := by simpa [Cond.value, given_1] using g1
    obtain ⟨L⟩ := args
    match L, hs with
    | [w0, w1, w2, w3, w4, w5], _ => exact ⟨w0, w1, w2, w3, w4, w5, rfl⟩
  have hw := fun d (hd : d ∈ tables_1) => atoms_spec (ws := Jvm.Cond.code x code maxLocals ret :: tables_1) hat d (List.mem_cons_of_mem _ hd)
  obtain ⟨i0, ei0⟩ := isL_v g3
  obtain rfl : w0 = (.long i0) := Option.some.inj ei0
  obtain ⟨i1, ei1⟩ := isL_v g5
  obtain rfl : w1 = (.long i1) := Option.some.inj ei1
  obtain ⟨i2, ei2⟩ := isL_v g7
  obtain rfl : w2 = (.long i2) := Option.some.inj ei2
  obtain ⟨i3, ei3⟩ := isL_v g9
  obtain rfl : w3 = (.long i3) := Option.some.inj ei3
  obtain ⟨i4, ei4⟩ := isL_v g11
  obtain rfl : w4 = (.long i4) := Option.some.inj ei4
  obtain ⟨i5, ei5⟩ := isL_v g12
  obtain rfl : w5 = (.long i5) := Option.some.inj ei5
  obtain ⟨n, o, h1, h2, h3, _, L, rfl, ⟨⟨rfl, _⟩, N⟩, hq⟩ := rm0 (l := l) hw i0 i1 i2 i3 i4 i5 s.heap s.heap.size (Nat.le_refl _) tables_1 p e ha hc hk s m _ below hf ((Spec.applies_iff_loose hf).mp happ).1 ⟨rfl, State.Warmed39.refl s, rfl⟩ trivial
  refine ⟨n, _, h1, h2, h3, hpost _ _ _ _ _ _ ⟨Cond.after_iff.mpr rfl, Cond.after_iff.mpr (eq_i res_at (Term.int_eval (1)) rfl), trivial⟩ ⟨hq.1, hq.2.1, (hq.2.2.sift fun y hy => Or.inr (N y hy)).mono (by decide) (by decide)⟩⟩
theorem main_1_1 : Claimed_1_1 := comes_1 fun _ _ _ _ _ _ h hF => ⟨h.1, hF⟩
theorem main_1_2 : Claimed_1_2 := comes_1 fun _ _ _ _ _ _ h hF => ⟨h.2.1, hF⟩
end Jvm.Pilot.@@N@@
namespace Jvm.Pilot.@@N@@
open Jvm Jvm.ClassFile Sem Op Lib Jvm.Free Jvm.Stand Jvm.Pilot.@@N@@.Jvm.D
/-! MADE BY PROGRAM (witnessworld.py) out of the Statement's table words and the real class files: 9 classes; the members and pool entries that the words name. The judged class is class 1, her method 2. -/
namespace start1
open Jvm.ClassFile
def u (s : String) : CpInfo := .utf8 (stringToUtf16 s)
/-- a pool by its gaps: so many unusable entries, then the entry; so many at the end -/
def gap : Nat → List CpInfo → List CpInfo
  | 0, r => r
  | n + 1, r => .unusable :: gap n r
def poolList (es : List (Nat × CpInfo)) (last : Nat) : List CpInfo := es.foldr (fun e r => gap e.1 (e.2 :: r)) (gap last [])
def pool (es : List (Nat × CpInfo)) (last : Nat) : Array CpInfo := ⟨poolList es last⟩
def fileOf (pool : Array CpInfo) (this : Nat) (attrs : Array Attribute := #[]) (ms : Array MethodInfo := #[]) (fl : Nat := 33) (sup : Nat := 0) (ifs : Array Nat := #[]) (fds : Array FieldInfo := #[]) : ClassFile where
  minorVersion := 0
  majorVersion := 65
  constantPool := pool
  accessFlags := fl
  thisClass := this
  superClass := sup
  interfaces := ifs
  fields := fds
  methods := ms
  attributes := attrs
def plain (name : String) (sup : Option ClassId) : Class where
  name := name
  kind := .ordinary
  loader := none
  accessFlags := 33
  super := sup
  interfaces := #[]
  cf := none
  fields := #[]
  methods := #[]
  instanceTypes := #[]
  staticTypes := #[]
  resolved := #[]
  callSites := []
  init := .initialized
  statics := none
  mirror := none

def pool0 : Array CpInfo := pool [(5, u "<init>"), (0, u "()V"), (1, .class_ 10), (1, u "java/lang/Object")] 113

def k0c0 : Code := { maxStack := 0, maxLocals := 1, code := object_method_1_code, exceptionTable := #[], attributes := #[] }
def k0m0 : Method := { name := "<init>", desc := "()V", sig := { parameters := [], returnType := none }, accessFlags := 1, code := some k0c0 }
/-- java/lang/Object -/
def k0 : Class := { plain "java/lang/Object" none with
  accessFlags := 33
  interfaces := #[]
  cf := some (fileOf pool0 8 #[] #[{ accessFlags := 1, nameIndex := 5, descriptorIndex := 6, attributes := #[] }] 33 0 #[] #[])
  fields := #[]
  methods := #[k0m0]
  instanceTypes := #[]
  staticTypes := #[]
  resolved := Array.replicate 124 none
  statics := none }

def pool1 : Array CpInfo := pool [(2, .class_ 4), (0, .nameAndType 5 6), (0, u "java/lang/Object"), (0, u "<init>"), (0, u "()V"), (0, .class_ 8), (0, u "com/example/revisit/revisit/query/ReadCostAddPinLaw"), (0, .long 2147483647), (1, .methodref 7 12), (0, .nameAndType 13 14), (0, u "worse"), (0, u "(JJJJ)Z"), (0, .class_ 16), (0, u "com/example/revisit/revisit/query/ReadCost"), (0, .methodref 15 3), (0, .methodref 15 19), (0, .nameAndType 20 21), (0, u "add"), (0, u "(JJ)V"), (0, .methodref 15 23), (0, .nameAndType 24 25), (0, u "read"), (0, u "()J"), (0, .methodref 15 27), (0, .nameAndType 28 25), (0, u "valid"), (0, .methodref 15 30), (0, .nameAndType 31 25), (0, u "worstRead"), (0, .methodref 15 33), (0, .nameAndType 34 25), (0, u "worstValid"), (0, u "M"), (0, u "J"), (4, u "law"), (0, u "(JJJJJJ)Z")] 2

def k1m0 : Method := { name := "<init>", desc := "()V", sig := { parameters := [], returnType := none }, accessFlags := 1, code := none }
def k1c1 : Code := { maxStack := 6, maxLocals := 10, code := method_2_code, exceptionTable := #[], attributes := #[] }
def k1m1 : Method := { name := "worse", desc := "(JJJJ)Z", sig := { parameters := [.long, .long, .long, .long], returnType := some .boolean }, accessFlags := 10, code := some k1c1 }
def k1c2 : Code := { maxStack := 8, maxLocals := 29, code := code, exceptionTable := #[], attributes := #[] }
def k1m2 : Method := { name := "law", desc := "(JJJJJJ)Z", sig := { parameters := [.long, .long, .long, .long, .long, .long], returnType := some .boolean }, accessFlags := 9, code := some k1c2 }
/-- com/example/revisit/revisit/query/ReadCostAddPinLaw -/
def k1 : Class := { plain "com/example/revisit/revisit/query/ReadCostAddPinLaw" (some 0) with
  accessFlags := 49
  interfaces := #[]
  cf := some (fileOf pool1 7 #[] #[{ accessFlags := 1, nameIndex := 5, descriptorIndex := 6, attributes := #[] }, { accessFlags := 10, nameIndex := 13, descriptorIndex := 14, attributes := #[] }, { accessFlags := 9, nameIndex := 41, descriptorIndex := 42, attributes := #[] }] 49 2 #[] #[{ accessFlags := 26, nameIndex := 35, descriptorIndex := 36, attributes := #[] }])
  fields := #[{ name := "M", type := .long, accessFlags := 26, slot := 0, constantValue := 0 }]
  methods := #[k1m0, k1m1, k1m2]
  instanceTypes := #[]
  staticTypes := #[.long]
  resolved := Array.replicate 45 none
  statics := none }

def pool2 : Array CpInfo := pool [(1, .methodref 2 3), (0, .class_ 4), (0, .nameAndType 5 6), (0, u "java/lang/Object"), (0, u "<init>"), (0, u "()V"), (0, .fieldref 8 9), (0, .class_ 10), (0, .nameAndType 11 12), (0, u "com/example/revisit/revisit/query/ReadCost"), (0, u "read"), (0, u "J"), (0, .fieldref 8 14), (0, .nameAndType 15 12), (0, u "valid"), (0, .fieldref 8 17), (0, .nameAndType 18 12), (0, u "worstRead"), (0, .fieldref 8 20), (0, .nameAndType 21 12), (0, u "worstValid"), (2, u "add"), (0, u "(JJ)V"), (1, u "()J")] 2

def k2c0 : Code := { maxStack := 1, maxLocals := 1, code := prog_64_method_1_code, exceptionTable := #[], attributes := #[] }
def k2m0 : Method := { name := "<init>", desc := "()V", sig := { parameters := [], returnType := none }, accessFlags := 1, code := some k2c0 }
def k2c1 : Code := { maxStack := 6, maxLocals := 5, code := prog_64_method_2_code, exceptionTable := #[], attributes := #[] }
def k2m1 : Method := { name := "add", desc := "(JJ)V", sig := { parameters := [.long, .long], returnType := none }, accessFlags := 0, code := some k2c1 }
def k2c2 : Code := { maxStack := 2, maxLocals := 1, code := prog_64_method_3_code, exceptionTable := #[], attributes := #[] }
def k2m2 : Method := { name := "read", desc := "()J", sig := { parameters := [], returnType := some .long }, accessFlags := 1, code := some k2c2 }
def k2c3 : Code := { maxStack := 2, maxLocals := 1, code := prog_64_method_4_code, exceptionTable := #[], attributes := #[] }
def k2m3 : Method := { name := "valid", desc := "()J", sig := { parameters := [], returnType := some .long }, accessFlags := 1, code := some k2c3 }
def k2c4 : Code := { maxStack := 2, maxLocals := 1, code := prog_64_method_5_code, exceptionTable := #[], attributes := #[] }
def k2m4 : Method := { name := "worstRead", desc := "()J", sig := { parameters := [], returnType := some .long }, accessFlags := 1, code := some k2c4 }
def k2c5 : Code := { maxStack := 2, maxLocals := 1, code := prog_64_method_6_code, exceptionTable := #[], attributes := #[] }
def k2m5 : Method := { name := "worstValid", desc := "()J", sig := { parameters := [], returnType := some .long }, accessFlags := 1, code := some k2c5 }
/-- com/example/revisit/revisit/query/ReadCost -/
def k2 : Class := { plain "com/example/revisit/revisit/query/ReadCost" (some 0) with
  accessFlags := 49
  interfaces := #[]
  cf := some (fileOf pool2 8 #[] #[{ accessFlags := 1, nameIndex := 5, descriptorIndex := 6, attributes := #[] }, { accessFlags := 0, nameIndex := 24, descriptorIndex := 25, attributes := #[] }, { accessFlags := 1, nameIndex := 11, descriptorIndex := 27, attributes := #[] }, { accessFlags := 1, nameIndex := 15, descriptorIndex := 27, attributes := #[] }, { accessFlags := 1, nameIndex := 18, descriptorIndex := 27, attributes := #[] }, { accessFlags := 1, nameIndex := 21, descriptorIndex := 27, attributes := #[] }] 49 2 #[] #[{ accessFlags := 2, nameIndex := 11, descriptorIndex := 12, attributes := #[] }, { accessFlags := 2, nameIndex := 15, descriptorIndex := 12, attributes := #[] }, { accessFlags := 2, nameIndex := 18, descriptorIndex := 12, attributes := #[] }, { accessFlags := 2, nameIndex := 21, descriptorIndex := 12, attributes := #[] }])
  fields := #[{ name := "read", type := .long, accessFlags := 2, slot := 0, constantValue := 0 }, { name := "valid", type := .long, accessFlags := 2, slot := 1, constantValue := 0 }, { name := "worstRead", type := .long, accessFlags := 2, slot := 2, constantValue := 0 }, { name := "worstValid", type := .long, accessFlags := 2, slot := 3, constantValue := 0 }]
  methods := #[k2m0, k2m1, k2m2, k2m3, k2m4, k2m5]
  instanceTypes := #[.long, .long, .long, .long]
  staticTypes := #[]
  resolved := Array.replicate 30 none
  statics := none }

def pool3 : Array CpInfo := pool [(1, u "java/lang/Cloneable"), (0, .class_ 1), (0, u "java/lang/Object"), (0, .class_ 3)] 3

/-- java/lang/Cloneable -/
def k3 : Class := { plain "java/lang/Cloneable" (some 0) with
  accessFlags := 1537
  interfaces := #[]
  cf := some (fileOf pool3 2 #[] #[] 1537 4 #[] #[])
  fields := #[]
  methods := #[]
  instanceTypes := #[]
  staticTypes := #[]
  resolved := Array.replicate 8 none
  statics := none }

def pool4 : Array CpInfo := pool [(1, u "java/io/Serializable"), (0, .class_ 1), (0, u "java/lang/Object"), (0, .class_ 3)] 3

/-- java/io/Serializable -/
def k4 : Class := { plain "java/io/Serializable" (some 0) with
  accessFlags := 1537
  interfaces := #[]
  cf := some (fileOf pool4 2 #[] #[] 1537 4 #[] #[])
  fields := #[]
  methods := #[]
  instanceTypes := #[]
  staticTypes := #[]
  resolved := Array.replicate 8 none
  statics := none }

/-- the primitive byte -/
def k5 : Class := { plain "byte" none with kind := .primitive 'B', accessFlags := 0x411 }
/-- [B -/
def k6 : Class := { plain "[B" (some 0) with kind := .array 5 .byte, interfaces := #[3, 4], accessFlags := 1041 }

/-- the primitive int -/
def k7 : Class := { plain "int" none with kind := .primitive 'I', accessFlags := 0x411 }
/-- [I -/
def k8 : Class := { plain "[I" (some 0) with kind := .array 7 .int, interfaces := #[3, 4], accessFlags := 1041 }

def heap : Heap := #[]
def classes : Array Class := #[k0, k1, k2, k3, k4, k5, k6, k7, k8]
def interned : List (Array UInt16 × Addr) := []
def slotsUsed : Nat := 0
def theMethod : MethodId := ⟨1, 2⟩
def args0 : Array Value := #[.long 5, .long 3, .long 7, .long 2, .long 9, .long 1]
def aboutOver (below : List Frame) : State where
  vm := { classes := classes, interned := interned.toArray }
  heap := heap
  slotsUsed := slotsUsed
  threads := #[{ frames := .invoking theMethod args0 :: below }]
def below0 : List Frame := [.native { method := ⟨0, 0⟩, args := #[] }]
def about1 : State := aboutOver below0
def p0 : Program := .bare "" "" ""
def e0 : Env := launch0.env 0 0 0
theorem w_frames : about1.frames = Frame.invoking theMethod args0 :: below0 := rfl
set_option maxRecDepth 65536 in
theorem w_args : argsFit about1.vm theMethod args0 = true := by decide +kernel
set_option maxRecDepth 65536 in
theorem w_heap : heapFits about1 = true := by decide +kernel
set_option maxRecDepth 65536 in
theorem w_runnable : about1.curStatus? = some .runnable := by decide +kernel
set_option maxRecDepth 65536 in
theorem w_alone : about1.alone = true := by decide +kernel
set_option maxRecDepth 65536 in
theorem w_named : about1.methodNamed? x = some theMethod := by decide +kernel
set_option maxRecDepth 65536 in
theorem w_hears : about1.hears theMethod below0 = true := by decide +kernel
set_option maxRecDepth 65536 in
theorem w_ripe : about1.ripe theMethod args0 below0 = true := by decide +kernel
theorem w_running : about1.status = .running := rfl
set_option maxRecDepth 65536 in
theorem w_room : about1.hasRoom e0.platform room_1 = true :=
  launch0.hasRoom_least _ room_1 (by decide +kernel) (by decide +kernel) (by decide +kernel) (by decide +kernel) (by decide +kernel) (by decide +kernel)
theorem allAtoms_all (ts : List Jvm.Cond) (a : Array Jvm.Value) (st : Jvm.State) : (allAtoms ts).before a st = ts.all (fun c => c.before a st) := by
  induction ts with
  | nil => rfl
  | cons c t ih =>
    show (Jvm.Cond.and c (allAtoms t)).before a st = _
    rw [Jvm.Cond.before_and, ih, List.all_cons]
def words1 : List Jvm.Cond := Jvm.Cond.code x code maxLocals ret :: tables_1
/-- a 'code' word, met by the world's own term for the bytes: nothing is compared byte by byte -/
theorem code_word {y : MethodName} {bytes : ByteArray} {mx : Nat} {rt : Option FieldType} {a : Array Value} {s : State} {m : MethodId} {meth : Method} {c : Code} (h1 : s.methodNamed? y = some m) (h2 : s.vm.method? m = some meth) (h3 : meth.code = some c) (h4 : c.code = bytes)
    (h5 : (c.maxLocals == mx && c.exceptionTable.isEmpty && decide (c.maxStack ≤ mostOperands) && decide (meth.sig.returnType = rt) && !meth.locks && decide (parseMethodDescriptor y.desc = some meth.sig)) = true) : (Jvm.Cond.code y bytes mx rt).before a s = true := by
  simp only [Bool.and_eq_true, beq_iff_eq, Bool.not_eq_true', decide_eq_true_eq] at h5
  obtain ⟨⟨⟨⟨⟨g1, g2⟩, g3⟩, g4⟩, g5⟩, g6⟩ := h5
  simp [Cond.before, Cond.holds, Cond.value, h1, h2, h3, h4, g1, g2, g3, g4, g5, g6]
def isCode : Jvm.Cond → Bool
  | .code _ _ _ _ => true
  | _ => false
theorem all_split {L : List Jvm.Cond} {P : Jvm.Cond → Bool} (h1 : L.all (fun c => isCode c || P c) = true) (h2 : ∀ c ∈ L.filter isCode, P c = true) : L.all P = true := by
  refine List.all_eq_true.mpr fun c hc => ?_
  have h := List.all_eq_true.mp h1 c hc
  rcases Bool.eq_false_or_eq_true (isCode c) with hi | hi
  · exact h2 c (List.mem_filter.mpr ⟨hc, hi⟩)
  · simpa [hi] using h
set_option maxRecDepth 65536 in
theorem w_c0 : (Jvm.Cond.code x code maxLocals ret).before args0 about1 = true := code_word (m := ⟨1, 2⟩) (meth := k1m2) (c := k1c2) (by decide +kernel) rfl rfl rfl (by decide +kernel)
set_option maxRecDepth 65536 in
theorem w_c1 : (Jvm.Cond.code ({ cls := "com/example/revisit/revisit/query/ReadCostAddPinLaw", name := "worse", desc := "(JJJJ)Z" } : Jvm.MethodName) method_2_code (10 : Nat) (Option.some Jvm.ClassFile.FieldType.boolean)).before args0 about1 = true := code_word (m := ⟨1, 1⟩) (meth := k1m1) (c := k1c1) (by decide +kernel) rfl rfl rfl (by decide +kernel)
set_option maxRecDepth 65536 in
theorem w_c2 : (Jvm.Cond.code ({ cls := "com/example/revisit/revisit/query/ReadCost", name := "<init>", desc := "()V" } : Jvm.MethodName) prog_64_method_1_code (1 : Nat) (Option.none : Option Jvm.ClassFile.FieldType)).before args0 about1 = true := code_word (m := ⟨2, 0⟩) (meth := k2m0) (c := k2c0) (by decide +kernel) rfl rfl rfl (by decide +kernel)
set_option maxRecDepth 65536 in
theorem w_c3 : (Jvm.Cond.code ({ cls := "java/lang/Object", name := "<init>", desc := "()V" } : Jvm.MethodName) object_method_1_code (1 : Nat) (Option.none : Option Jvm.ClassFile.FieldType)).before args0 about1 = true := code_word (m := ⟨0, 0⟩) (meth := k0m0) (c := k0c0) (by decide +kernel) rfl rfl rfl (by decide +kernel)
set_option maxRecDepth 65536 in
theorem w_c4 : (Jvm.Cond.code ({ cls := "com/example/revisit/revisit/query/ReadCost", name := "add", desc := "(JJ)V" } : Jvm.MethodName) prog_64_method_2_code (5 : Nat) (Option.none : Option Jvm.ClassFile.FieldType)).before args0 about1 = true := code_word (m := ⟨2, 1⟩) (meth := k2m1) (c := k2c1) (by decide +kernel) rfl rfl rfl (by decide +kernel)
set_option maxRecDepth 65536 in
theorem w_c5 : (Jvm.Cond.code ({ cls := "com/example/revisit/revisit/query/ReadCost", name := "read", desc := "()J" } : Jvm.MethodName) prog_64_method_3_code (1 : Nat) (Option.some Jvm.ClassFile.FieldType.long)).before args0 about1 = true := code_word (m := ⟨2, 2⟩) (meth := k2m2) (c := k2c2) (by decide +kernel) rfl rfl rfl (by decide +kernel)
set_option maxRecDepth 65536 in
theorem w_c6 : (Jvm.Cond.code ({ cls := "com/example/revisit/revisit/query/ReadCost", name := "valid", desc := "()J" } : Jvm.MethodName) prog_64_method_4_code (1 : Nat) (Option.some Jvm.ClassFile.FieldType.long)).before args0 about1 = true := code_word (m := ⟨2, 3⟩) (meth := k2m3) (c := k2c3) (by decide +kernel) rfl rfl rfl (by decide +kernel)
set_option maxRecDepth 65536 in
theorem w_c7 : (Jvm.Cond.code ({ cls := "com/example/revisit/revisit/query/ReadCost", name := "worstRead", desc := "()J" } : Jvm.MethodName) prog_64_method_5_code (1 : Nat) (Option.some Jvm.ClassFile.FieldType.long)).before args0 about1 = true := code_word (m := ⟨2, 4⟩) (meth := k2m4) (c := k2c4) (by decide +kernel) rfl rfl rfl (by decide +kernel)
set_option maxRecDepth 65536 in
theorem w_c8 : (Jvm.Cond.code ({ cls := "com/example/revisit/revisit/query/ReadCost", name := "worstValid", desc := "()J" } : Jvm.MethodName) prog_64_method_6_code (1 : Nat) (Option.some Jvm.ClassFile.FieldType.long)).before args0 about1 = true := code_word (m := ⟨2, 5⟩) (meth := k2m5) (c := k2c5) (by decide +kernel) rfl rfl rfl (by decide +kernel)
def codes1 : List Jvm.Cond := [Jvm.Cond.code x code maxLocals ret, Jvm.Cond.code ({ cls := "com/example/revisit/revisit/query/ReadCostAddPinLaw", name := "worse", desc := "(JJJJ)Z" } : Jvm.MethodName) method_2_code (10 : Nat) (Option.some Jvm.ClassFile.FieldType.boolean), Jvm.Cond.code ({ cls := "com/example/revisit/revisit/query/ReadCost", name := "<init>", desc := "()V" } : Jvm.MethodName) prog_64_method_1_code (1 : Nat) (Option.none : Option Jvm.ClassFile.FieldType), Jvm.Cond.code ({ cls := "java/lang/Object", name := "<init>", desc := "()V" } : Jvm.MethodName) object_method_1_code (1 : Nat) (Option.none : Option Jvm.ClassFile.FieldType), Jvm.Cond.code ({ cls := "com/example/revisit/revisit/query/ReadCost", name := "add", desc := "(JJ)V" } : Jvm.MethodName) prog_64_method_2_code (5 : Nat) (Option.none : Option Jvm.ClassFile.FieldType), Jvm.Cond.code ({ cls := "com/example/revisit/revisit/query/ReadCost", name := "read", desc := "()J" } : Jvm.MethodName) prog_64_method_3_code (1 : Nat) (Option.some Jvm.ClassFile.FieldType.long), Jvm.Cond.code ({ cls := "com/example/revisit/revisit/query/ReadCost", name := "valid", desc := "()J" } : Jvm.MethodName) prog_64_method_4_code (1 : Nat) (Option.some Jvm.ClassFile.FieldType.long), Jvm.Cond.code ({ cls := "com/example/revisit/revisit/query/ReadCost", name := "worstRead", desc := "()J" } : Jvm.MethodName) prog_64_method_5_code (1 : Nat) (Option.some Jvm.ClassFile.FieldType.long), Jvm.Cond.code ({ cls := "com/example/revisit/revisit/query/ReadCost", name := "worstValid", desc := "()J" } : Jvm.MethodName) prog_64_method_6_code (1 : Nat) (Option.some Jvm.ClassFile.FieldType.long)]
set_option maxRecDepth 65536 in
theorem codes_eq : words1.filter isCode = codes1 := rfl
theorem w_codes : ∀ c ∈ words1.filter isCode, c.before args0 about1 = true := by
  rw [codes_eq]
  intro c hc
  simp only [codes1, List.mem_cons, List.not_mem_nil, or_false] at hc
  rcases hc with rfl | rfl | rfl | rfl | rfl | rfl | rfl | rfl | rfl
  · exact w_c0
  · exact w_c1
  · exact w_c2
  · exact w_c3
  · exact w_c4
  · exact w_c5
  · exact w_c6
  · exact w_c7
  · exact w_c8
set_option maxRecDepth 65536 in
theorem w_t1 : (words1.take 24).all (fun c => isCode c || c.before args0 about1) = true := by decide +kernel
set_option maxRecDepth 65536 in
theorem w_t2 : (words1.drop 24).all (fun c => isCode c || c.before args0 about1) = true := by decide +kernel
theorem w_tables : (allAtoms (Jvm.Cond.code x code maxLocals ret :: tables_1)).before args0 about1 = true := by
  rw [allAtoms_all]
  show words1.all (fun c => c.before args0 about1) = true
  refine all_split ?_ w_codes
  rw [← List.take_append_drop 24 words1, List.all_append, w_t1, w_t2]
  rfl
set_option maxRecDepth 65536 in
theorem w_case : (Jvm.Cond.and given_1 narrow_1).before args0 about1 = true := by decide +kernel
theorem w_applies : (headSpec (Jvm.Cond.code x code maxLocals ret :: tables_1) room_1).applies x e0.platform about1 = true :=
  (Spec.applies_iff w_frames).mpr ⟨w_running, w_runnable, w_alone, w_named, w_hears, w_ripe, w_room, w_tables⟩
theorem atStart : AtStart classFile x code maxLocals ret World_1 tables_1 room_1 Calls_1 rest_1 Pre_1 launch0 p0 e0 about1 theMethod args0 below0 :=
  ⟨lists_1, trivial, launch0.admits_env _ _ _, launch0.least_env, fairChoices_fair.cas, fairChoices_fair.clock, w_frames, w_args, w_heap, w_applies, trivial, trivial, w_case⟩
end start1
theorem witness_1 : WitnessClaimed_1 := ⟨start1.p0, start1.e0, start1.about1, start1.theMethod, start1.args0, start1.below0, start1.atStart⟩
end Jvm.Pilot.@@N@@
