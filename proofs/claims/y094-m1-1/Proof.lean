import JvmDerived
import JvmDerived.Pilot.@@N@@Statement
import JvmDerived.Pilot.@@N@@Code
set_option linter.unusedVariables false
set_option linter.unusedSimpArgs false
namespace Jvm.Own
open Sem ClassFile Op Lib Jvm.Stand Jvm.Free Jvm.LawKit Jvm.RoadKit
section Layer
variable {p : Program} {l : Launch} {e : Env} {R : Room} {s : State} {m : MethodId} {args : Array Value} {below : List Frame} {meth : Method} {c : Code} {Z : State} {own nm : String} {bytes : ByteArray} {maxL : Nat} {ret : Option FieldType} {n0 : Nat} {EE : Outcome → State → Prop} {h : Heap} {k n : Nat} {a0 : Array Value} {pc : Nat} {ls : Array Slot} {st : List Value}
def Cx (p : Program) (s : State) (m : MethodId) (meth : Method) (c : Code) (Z : State) (own nm : String) (bytes : ByteArray) (maxL : Nat) (ret : Option FieldType) (n0 : Nat) : Prop :=
  p.tables.exec = Jvm.exec ∧ c.code = bytes ∧ c.maxLocals = maxL ∧ s.vm.findClass own = some m.cls ∧ meth.name = nm ∧ Z.Warmed39 s.vm ∧ meth.sig.returnType = ret ∧ meth.locks = false ∧ n0 ≤ s.heap.size
def EndN (s : State) (n0 : Nat) (Q : Option Value → Heap → Prop) (K N : Nat) (o : Outcome) (t : State) : Prop := ∃ v L, o = .returned v ∧ (Q v t.heap ∧ Fr n0 L) ∧ FrameEnd s o t L K N
def Run (p : Program) (l : Launch) (e : Env) (R : Room) (s : State) (m : MethodId) (args : Array Value) (below : List Frame) (meth : Method) (c : Code) (Z : State) (own nm : String) (bytes : ByteArray) (maxL : Nat) (ret : Option FieldType) (n0 : Nat) (EE : Outcome → State → Prop) (h : Heap) (k n : Nat) (g : JFrame) : Prop :=
  Cx p s m meth c Z own nm bytes maxL ret n0 → ∀ (T : State) (locs : List Loc), Stand p l e R s m args below meth c T locs k n → Fr n0 locs → T.heap = h →
    ∃ s₂ o, Steps p.tables e below (T.setTop g) s₂ ∧ s₂.status = .running ∧ Ended s₂ below o ∧ EE o s₂
/-- a callee's contract: from heap h with the arguments as it returns with what Q says, nothing older than n0 written -/
def Pays (l : Launch) (Z : State) (y : MethodName) (bytes : ByteArray) (maxL : Nat) (ret : Option FieldType) (rm : Room) (as' : Array Value) (h : Heap) (n0 : Nat) (Q : Option Value → Heap → Prop) : Prop :=
  ∀ ws : List Jvm.Cond, MetFree l y (head1 (Jvm.Cond.code y bytes maxL ret :: ws) rm) (fun a U => a = as' ∧ Z.Warmed39 U.vm ∧ U.heap = h) (fun _ _ _ _ _ => True) (fun _ U o U' => ∃ v L, o = .returned v ∧ (Q v U'.heap ∧ Fr n0 L) ∧ FrameEnd U o U' L rm.cells rm.slots)
theorem Pays.of {Q : Option Value → Heap → Prop} {y : MethodName} {rm : Room} {as' : Array Value} (hpl : plainFor y = true) (ef : ∀ m, entryFrame m as' maxL = mkF m 0 ls []) (hn0 : n0 ≤ h.size)
    (body : ∀ p e s m below meth c, Run p l e rm s m as' below meth c Z y.cls y.name bytes maxL ret n0 (EndN s n0 Q rm.cells rm.slots) h 0 0 (mkF m 0 ls [])) : Pays l Z y bytes maxL ret rm as' h n0 Q := fun ws => by
  refine MetFree.of_bodySF hpl hisR ?_
  intro p e s m args below meth c s₁ Bd hml0 hP hK
  obtain ⟨rfl, hZ, hh⟩ := hP
  have hown : s.vm.findClass y.cls = some m.cls := findClass_of_methodNamed Bd.named
  have hnm := (name_of_methodNamed Bd.named Bd.method).1
  have e0 : s₁.heap = h := by rw [← hh, Bd.state]; rfl
  have q := body p e s m below meth c ⟨Bd.exec, Bd.bytes, hml0, hown, hnm, hZ, Bd.returns, Bd.notSynchronized, by rw [hh]; exact hn0⟩ s₁ [] (Stand.of_body Bd) (Fr.nil n0) e0
  obtain ⟨s₂, o, q1, q2⟩ := q
  exact ⟨s₂, o, castTop (ef m) q1, q2⟩
theorem Run.sz {g : JFrame} (hr : n0 ≤ h.size → Run p l e R s m args below meth c Z own nm bytes maxL ret n0 EE h k n g) : Run p l e R s m args below meth c Z own nm bytes maxL ret n0 EE h k n g := fun C T locs X F E =>
  hr (by subst E; exact Nat.le_trans C.2.2.2.2.2.2.2.2 X.same.2.1) C T locs X F E
theorem Run.step {g g' : JFrame} (hs : ∀ T target, p.tables.exec = Jvm.exec → c.code = bytes → At T m c below → Steps p.tables e below (T.setTop g') target → Steps p.tables e below (T.setTop g) target) (hr : Run p l e R s m args below meth c Z own nm bytes maxL ret n0 EE h k n g') : Run p l e R s m args below meth c Z own nm bytes maxL ret n0 EE h k n g := fun C T locs X F E => by
  obtain ⟨s₂, o, q1, q2⟩ := hr C T locs X F E
  exact ⟨s₂, o, hs T s₂ C.1 C.2.1 X.here q1, q2⟩
theorem Run.cut {g : JFrame} (g' : JFrame) (hj : Run p l e R s m args below meth c Z own nm bytes maxL ret n0 EE h k n g') (hr : Run p l e R s m args below meth c Z own nm bytes maxL ret n0 EE h k n g' → Run p l e R s m args below meth c Z own nm bytes maxL ret n0 EE h k n g) : Run p l e R s m args below meth c Z own nm bytes maxL ret n0 EE h k n g := hr hj
theorem Run.cast {g g' : JFrame} (q : g = g') (hr : Run p l e R s m args below meth c Z own nm bytes maxL ret n0 EE h k n g') : Run p l e R s m args below meth c Z own nm bytes maxL ret n0 EE h k n g := q ▸ hr

theorem Run.aloadN {i : Fin 4} {v : Value} (q : Nat) (hd : decode bytes pc = .ok (.aload_n i, 1)) (hl : ls[i.val]? = some (.val v)) (hr : Run p l e R s m args below meth c Z own nm bytes maxL ret n0 EE h k n (mkF m q ls (v :: st))) (hv : v.isRef = true := by rfl) (hq : q = pc + 1 := by rfl) : Run p l e R s m args below meth c Z own nm bytes maxL ret n0 EE h k n (mkF m pc ls st) := by
  subst hq; exact Run.step (fun T t hx hb A z => XS.aloadN A hx rfl (hb ▸ hd) hl hv z) hr
theorem Run.aload {i : Nat} {v : Value} (q : Nat) (hd : decode bytes pc = .ok (.aload i, 2)) (hl : ls[i]? = some (.val v)) (hr : Run p l e R s m args below meth c Z own nm bytes maxL ret n0 EE h k n (mkF m q ls (v :: st))) (hv : v.isRef = true := by rfl) (hq : q = pc + 2 := by rfl) : Run p l e R s m args below meth c Z own nm bytes maxL ret n0 EE h k n (mkF m pc ls st) := by
  subst hq; exact Run.step (fun T t hx hb A z => XS.aload A hx rfl (hb ▸ hd) hl hv z) hr
theorem Run.iloadN {i : Fin 4} {v : Int32} (q : Nat) (hd : decode bytes pc = .ok (.iload_n i, 1)) (hl : ls[i.val]? = some (.val (.int v))) (hr : Run p l e R s m args below meth c Z own nm bytes maxL ret n0 EE h k n (mkF m q ls (.int v :: st))) (hq : q = pc + 1 := by rfl) : Run p l e R s m args below meth c Z own nm bytes maxL ret n0 EE h k n (mkF m pc ls st) := by
  subst hq; exact Run.step (fun T t hx hb A z => XS.iloadN A hx rfl (hb ▸ hd) hl z) hr
theorem Run.iload {i : Nat} {v : Int32} (q : Nat) (hd : decode bytes pc = .ok (.iload i, 2)) (hl : ls[i]? = some (.val (.int v))) (hr : Run p l e R s m args below meth c Z own nm bytes maxL ret n0 EE h k n (mkF m q ls (.int v :: st))) (hq : q = pc + 2 := by rfl) : Run p l e R s m args below meth c Z own nm bytes maxL ret n0 EE h k n (mkF m pc ls st) := by
  subst hq; exact Run.step (fun T t hx hb A z => XS.iload A hx rfl (hb ▸ hd) hl z) hr
theorem Run.lloadN {i : Fin 4} {v : Int64} (q : Nat) (hd : decode bytes pc = .ok (.lload_n i, 1)) (hl : ls[i.val]? = some (.val (.long v))) (hr : Run p l e R s m args below meth c Z own nm bytes maxL ret n0 EE h k n (mkF m q ls (.long v :: st))) (hq : q = pc + 1 := by rfl) : Run p l e R s m args below meth c Z own nm bytes maxL ret n0 EE h k n (mkF m pc ls st) := by
  subst hq; exact Run.step (fun T t hx hb A z => XS.lloadN A hx rfl (hb ▸ hd) hl z) hr
theorem Run.lload {i : Nat} {v : Int64} (q : Nat) (hd : decode bytes pc = .ok (.lload i, 2)) (hl : ls[i]? = some (.val (.long v))) (hr : Run p l e R s m args below meth c Z own nm bytes maxL ret n0 EE h k n (mkF m q ls (.long v :: st))) (hq : q = pc + 2 := by rfl) : Run p l e R s m args below meth c Z own nm bytes maxL ret n0 EE h k n (mkF m pc ls st) := by
  subst hq; exact Run.step (fun T t hx hb A z => XS.lload A hx rfl (hb ▸ hd) hl z) hr
theorem Run.istoreN {i : Fin 4} {x : Int32} (q : Nat) (ls' : Array Slot) (hd : decode bytes pc = .ok (.istore_n i, 1)) (hr : Run p l e R s m args below meth c Z own nm bytes maxL ret n0 EE h k n (mkF m q ls' st)) (hl : storeLocals ls i.val (.int x) = some ls' := by rfl) (hq : q = pc + 1 := by rfl) : Run p l e R s m args below meth c Z own nm bytes maxL ret n0 EE h k n (mkF m pc ls (.int x :: st)) := by
  subst hq; exact Run.step (fun T t hx hb A z => XS.istoreN A hx rfl (hb ▸ hd) rfl hl z) hr
theorem Run.istore {i : Nat} {x : Int32} (q : Nat) (ls' : Array Slot) (hd : decode bytes pc = .ok (.istore i, 2)) (hr : Run p l e R s m args below meth c Z own nm bytes maxL ret n0 EE h k n (mkF m q ls' st)) (hl : storeLocals ls i (.int x) = some ls' := by rfl) (hq : q = pc + 2 := by rfl) : Run p l e R s m args below meth c Z own nm bytes maxL ret n0 EE h k n (mkF m pc ls (.int x :: st)) := by
  subst hq; exact Run.step (fun T t hx hb A z => XS.istore A hx rfl (hb ▸ hd) rfl hl z) hr
theorem Run.lstoreN {i : Fin 4} {x : Int64} (q : Nat) (ls' : Array Slot) (hd : decode bytes pc = .ok (.lstore_n i, 1)) (hr : Run p l e R s m args below meth c Z own nm bytes maxL ret n0 EE h k n (mkF m q ls' st)) (hl : storeLocals ls i.val (.long x) = some ls' := by rfl) (hq : q = pc + 1 := by rfl) : Run p l e R s m args below meth c Z own nm bytes maxL ret n0 EE h k n (mkF m pc ls (.long x :: st)) := by
  subst hq; exact Run.step (fun T t hx hb A z => XS.lstoreN A hx rfl (hb ▸ hd) rfl hl z) hr
theorem Run.lstore {i : Nat} {x : Int64} (q : Nat) (ls' : Array Slot) (hd : decode bytes pc = .ok (.lstore i, 2)) (hr : Run p l e R s m args below meth c Z own nm bytes maxL ret n0 EE h k n (mkF m q ls' st)) (hl : storeLocals ls i (.long x) = some ls' := by rfl) (hq : q = pc + 2 := by rfl) : Run p l e R s m args below meth c Z own nm bytes maxL ret n0 EE h k n (mkF m pc ls (.long x :: st)) := by
  subst hq; exact Run.step (fun T t hx hb A z => XS.lstore A hx rfl (hb ▸ hd) rfl hl z) hr
theorem Run.astoreN {i : Fin 4} {x : Value} (q : Nat) (ls' : Array Slot) (hd : decode bytes pc = .ok (.astore_n i, 1)) (hr : Run p l e R s m args below meth c Z own nm bytes maxL ret n0 EE h k n (mkF m q ls' st)) (hv : x.isRef = true := by rfl) (hl : storeLocals ls i.val x = some ls' := by rfl) (hq : q = pc + 1 := by rfl) : Run p l e R s m args below meth c Z own nm bytes maxL ret n0 EE h k n (mkF m pc ls (x :: st)) := by
  subst hq; exact Run.step (fun T t hx hb A z => XS.astoreN A hx rfl (hb ▸ hd) rfl hv hl z) hr
theorem Run.astore {i : Nat} {x : Value} (q : Nat) (ls' : Array Slot) (hd : decode bytes pc = .ok (.astore i, 2)) (hr : Run p l e R s m args below meth c Z own nm bytes maxL ret n0 EE h k n (mkF m q ls' st)) (hv : x.isRef = true := by rfl) (hl : storeLocals ls i x = some ls' := by rfl) (hq : q = pc + 2 := by rfl) : Run p l e R s m args below meth c Z own nm bytes maxL ret n0 EE h k n (mkF m pc ls (x :: st)) := by
  subst hq; exact Run.step (fun T t hx hb A z => XS.astore A hx rfl (hb ▸ hd) rfl hv hl z) hr
theorem Run.iconst {i : Int} (x : Int32) (q : Nat) (hd : decode bytes pc = .ok (.iconst i, 1)) (hr : Run p l e R s m args below meth c Z own nm bytes maxL ret n0 EE h k n (mkF m q ls (.int x :: st))) (hv : Int32.ofInt i = x := by first | rfl | decide) (hq : q = pc + 1 := by rfl) : Run p l e R s m args below meth c Z own nm bytes maxL ret n0 EE h k n (mkF m pc ls st) := by
  subst hq hv; exact Run.step (fun T t hx hb A z => XS.iconst A hx rfl (hb ▸ hd) z) hr
theorem Run.bipush {i : Int} (x : Int32) (q : Nat) (hd : decode bytes pc = .ok (.bipush i, 2)) (hr : Run p l e R s m args below meth c Z own nm bytes maxL ret n0 EE h k n (mkF m q ls (.int x :: st))) (hv : (Int8.ofInt i).toInt32 = x := by first | rfl | decide) (hq : q = pc + 2 := by rfl) : Run p l e R s m args below meth c Z own nm bytes maxL ret n0 EE h k n (mkF m pc ls st) := by
  subst hq hv; exact Run.step (fun T t hx hb A z => XS.bipush A hx rfl (hb ▸ hd) z) hr
theorem Run.sipush {i : Int} (x : Int32) (q : Nat) (hd : decode bytes pc = .ok (.sipush i, 3)) (hr : Run p l e R s m args below meth c Z own nm bytes maxL ret n0 EE h k n (mkF m q ls (.int x :: st))) (hv : (Int16.ofInt i).toInt32 = x := by first | rfl | decide) (hq : q = pc + 3 := by rfl) : Run p l e R s m args below meth c Z own nm bytes maxL ret n0 EE h k n (mkF m pc ls st) := by
  subst hq hv; exact Run.step (fun T t hx hb A z => XS.sipush A hx rfl (hb ▸ hd) z) hr
theorem Run.lconst {i : Fin 2} (x : Int64) (q : Nat) (hd : decode bytes pc = .ok (.lconst i, 1)) (hr : Run p l e R s m args below meth c Z own nm bytes maxL ret n0 EE h k n (mkF m q ls (.long x :: st))) (hv : Int64.ofNat i = x := by first | rfl | decide) (hq : q = pc + 1 := by rfl) : Run p l e R s m args below meth c Z own nm bytes maxL ret n0 EE h k n (mkF m pc ls st) := by
  subst hq hv; exact Run.step (fun T t hx hb A z => XS.lconst A hx rfl (hb ▸ hd) z) hr
theorem Run.aconstNull (q : Nat) (hd : decode bytes pc = .ok (.aconst_null, 1)) (hr : Run p l e R s m args below meth c Z own nm bytes maxL ret n0 EE h k n (mkF m q ls (.null :: st))) (hq : q = pc + 1 := by rfl) : Run p l e R s m args below meth c Z own nm bytes maxL ret n0 EE h k n (mkF m pc ls st) := by
  subst hq; exact Run.step (fun T t hx hb A z => XS.aconstNull A hx rfl (hb ▸ hd) z) hr
theorem Run.iadd {x y : Int32} (w : Int32) (q : Nat) (hd : decode bytes pc = .ok (.iadd, 1)) (hr : Run p l e R s m args below meth c Z own nm bytes maxL ret n0 EE h k n (mkF m q ls (.int w :: st))) (hv : x + y = w := by rfl) (hq : q = pc + 1 := by rfl) : Run p l e R s m args below meth c Z own nm bytes maxL ret n0 EE h k n (mkF m pc ls (.int y :: .int x :: st)) := by
  subst hq hv; exact Run.step (fun T t hx hb A z => XS.iadd A hx rfl (hb ▸ hd) rfl z) hr
theorem Run.isub {x y : Int32} (w : Int32) (q : Nat) (hd : decode bytes pc = .ok (.isub, 1)) (hr : Run p l e R s m args below meth c Z own nm bytes maxL ret n0 EE h k n (mkF m q ls (.int w :: st))) (hv : x - y = w := by rfl) (hq : q = pc + 1 := by rfl) : Run p l e R s m args below meth c Z own nm bytes maxL ret n0 EE h k n (mkF m pc ls (.int y :: .int x :: st)) := by
  subst hq hv; exact Run.step (fun T t hx hb A z => XS.isub A hx rfl (hb ▸ hd) rfl z) hr
theorem Run.imul {x y : Int32} (w : Int32) (q : Nat) (hd : decode bytes pc = .ok (.imul, 1)) (hr : Run p l e R s m args below meth c Z own nm bytes maxL ret n0 EE h k n (mkF m q ls (.int w :: st))) (hv : x * y = w := by rfl) (hq : q = pc + 1 := by rfl) : Run p l e R s m args below meth c Z own nm bytes maxL ret n0 EE h k n (mkF m pc ls (.int y :: .int x :: st)) := by
  subst hq hv; exact Run.step (fun T t hx hb A z => XS.imul A hx rfl (hb ▸ hd) rfl z) hr
theorem Run.iand {x y : Int32} (w : Int32) (q : Nat) (hd : decode bytes pc = .ok (.iand, 1)) (hr : Run p l e R s m args below meth c Z own nm bytes maxL ret n0 EE h k n (mkF m q ls (.int w :: st))) (hv : x &&& y = w := by rfl) (hq : q = pc + 1 := by rfl) : Run p l e R s m args below meth c Z own nm bytes maxL ret n0 EE h k n (mkF m pc ls (.int y :: .int x :: st)) := by
  subst hq hv; exact Run.step (fun T t hx hb A z => XS.iand A hx rfl (hb ▸ hd) rfl z) hr
theorem Run.ior {x y : Int32} (w : Int32) (q : Nat) (hd : decode bytes pc = .ok (.ior, 1)) (hr : Run p l e R s m args below meth c Z own nm bytes maxL ret n0 EE h k n (mkF m q ls (.int w :: st))) (hv : x ||| y = w := by rfl) (hq : q = pc + 1 := by rfl) : Run p l e R s m args below meth c Z own nm bytes maxL ret n0 EE h k n (mkF m pc ls (.int y :: .int x :: st)) := by
  subst hq hv; exact Run.step (fun T t hx hb A z => XS.ior A hx rfl (hb ▸ hd) rfl z) hr
theorem Run.ixor {x y : Int32} (w : Int32) (q : Nat) (hd : decode bytes pc = .ok (.ixor, 1)) (hr : Run p l e R s m args below meth c Z own nm bytes maxL ret n0 EE h k n (mkF m q ls (.int w :: st))) (hv : x ^^^ y = w := by rfl) (hq : q = pc + 1 := by rfl) : Run p l e R s m args below meth c Z own nm bytes maxL ret n0 EE h k n (mkF m pc ls (.int y :: .int x :: st)) := by
  subst hq hv; exact Run.step (fun T t hx hb A z => XS.ixor A hx rfl (hb ▸ hd) rfl z) hr
theorem Run.ishl {x y : Int32} (w : Int32) (q : Nat) (hd : decode bytes pc = .ok (.ishl, 1)) (hr : Run p l e R s m args below meth c Z own nm bytes maxL ret n0 EE h k n (mkF m q ls (.int w :: st))) (hv : x <<< (y &&& 31) = w := by rfl) (hq : q = pc + 1 := by rfl) : Run p l e R s m args below meth c Z own nm bytes maxL ret n0 EE h k n (mkF m pc ls (.int y :: .int x :: st)) := by
  subst hq hv; exact Run.step (fun T t hx hb A z => XS.ishl A hx rfl (hb ▸ hd) rfl z) hr
theorem Run.ishr {x y : Int32} (w : Int32) (q : Nat) (hd : decode bytes pc = .ok (.ishr, 1)) (hr : Run p l e R s m args below meth c Z own nm bytes maxL ret n0 EE h k n (mkF m q ls (.int w :: st))) (hv : x >>> (y &&& 31) = w := by rfl) (hq : q = pc + 1 := by rfl) : Run p l e R s m args below meth c Z own nm bytes maxL ret n0 EE h k n (mkF m pc ls (.int y :: .int x :: st)) := by
  subst hq hv; exact Run.step (fun T t hx hb A z => XS.ishr A hx rfl (hb ▸ hd) rfl z) hr
theorem Run.iushr {x y : Int32} (w : Int32) (q : Nat) (hd : decode bytes pc = .ok (.iushr, 1)) (hr : Run p l e R s m args below meth c Z own nm bytes maxL ret n0 EE h k n (mkF m q ls (.int w :: st))) (hv : (x.toUInt32 >>> (y &&& 31).toUInt32).toInt32 = w := by rfl) (hq : q = pc + 1 := by rfl) : Run p l e R s m args below meth c Z own nm bytes maxL ret n0 EE h k n (mkF m pc ls (.int y :: .int x :: st)) := by
  subst hq hv; exact Run.step (fun T t hx hb A z => XS.iushr A hx rfl (hb ▸ hd) rfl z) hr
theorem Run.idiv {x y : Int32} (w : Int32) (q : Nat) (hd : decode bytes pc = .ok (.idiv, 1)) (hy : y ≠ 0) (hr : Run p l e R s m args below meth c Z own nm bytes maxL ret n0 EE h k n (mkF m q ls (.int w :: st))) (hv : x / y = w := by rfl) (hq : q = pc + 1 := by rfl) : Run p l e R s m args below meth c Z own nm bytes maxL ret n0 EE h k n (mkF m pc ls (.int y :: .int x :: st)) := by
  subst hq hv; exact Run.step (fun T t hx hb A z => XS.idiv A hx rfl (hb ▸ hd) rfl hy z) hr
theorem Run.irem {x y : Int32} (w : Int32) (q : Nat) (hd : decode bytes pc = .ok (.irem, 1)) (hy : y ≠ 0) (hr : Run p l e R s m args below meth c Z own nm bytes maxL ret n0 EE h k n (mkF m q ls (.int w :: st))) (hv : x - (x / y) * y = w := by rfl) (hq : q = pc + 1 := by rfl) : Run p l e R s m args below meth c Z own nm bytes maxL ret n0 EE h k n (mkF m pc ls (.int y :: .int x :: st)) := by
  subst hq hv; exact Run.step (fun T t hx hb A z => XS.irem A hx rfl (hb ▸ hd) rfl hy z) hr
theorem Run.ladd {x y : Int64} (w : Int64) (q : Nat) (hd : decode bytes pc = .ok (.ladd, 1)) (hr : Run p l e R s m args below meth c Z own nm bytes maxL ret n0 EE h k n (mkF m q ls (.long w :: st))) (hv : x + y = w := by rfl) (hq : q = pc + 1 := by rfl) : Run p l e R s m args below meth c Z own nm bytes maxL ret n0 EE h k n (mkF m pc ls (.long y :: .long x :: st)) := by
  subst hq hv; exact Run.step (fun T t hx hb A z => XS.ladd A hx rfl (hb ▸ hd) rfl z) hr
theorem Run.lsub {x y : Int64} (w : Int64) (q : Nat) (hd : decode bytes pc = .ok (.lsub, 1)) (hr : Run p l e R s m args below meth c Z own nm bytes maxL ret n0 EE h k n (mkF m q ls (.long w :: st))) (hv : x - y = w := by rfl) (hq : q = pc + 1 := by rfl) : Run p l e R s m args below meth c Z own nm bytes maxL ret n0 EE h k n (mkF m pc ls (.long y :: .long x :: st)) := by
  subst hq hv; exact Run.step (fun T t hx hb A z => XS.lsub A hx rfl (hb ▸ hd) rfl z) hr
theorem Run.lmul {x y : Int64} (w : Int64) (q : Nat) (hd : decode bytes pc = .ok (.lmul, 1)) (hr : Run p l e R s m args below meth c Z own nm bytes maxL ret n0 EE h k n (mkF m q ls (.long w :: st))) (hv : x * y = w := by rfl) (hq : q = pc + 1 := by rfl) : Run p l e R s m args below meth c Z own nm bytes maxL ret n0 EE h k n (mkF m pc ls (.long y :: .long x :: st)) := by
  subst hq hv; exact Run.step (fun T t hx hb A z => XS.lmul A hx rfl (hb ▸ hd) rfl z) hr
theorem Run.land {x y : Int64} (w : Int64) (q : Nat) (hd : decode bytes pc = .ok (.land, 1)) (hr : Run p l e R s m args below meth c Z own nm bytes maxL ret n0 EE h k n (mkF m q ls (.long w :: st))) (hv : x &&& y = w := by rfl) (hq : q = pc + 1 := by rfl) : Run p l e R s m args below meth c Z own nm bytes maxL ret n0 EE h k n (mkF m pc ls (.long y :: .long x :: st)) := by
  subst hq hv; exact Run.step (fun T t hx hb A z => XS.land A hx rfl (hb ▸ hd) rfl z) hr
theorem Run.lor {x y : Int64} (w : Int64) (q : Nat) (hd : decode bytes pc = .ok (.lor, 1)) (hr : Run p l e R s m args below meth c Z own nm bytes maxL ret n0 EE h k n (mkF m q ls (.long w :: st))) (hv : x ||| y = w := by rfl) (hq : q = pc + 1 := by rfl) : Run p l e R s m args below meth c Z own nm bytes maxL ret n0 EE h k n (mkF m pc ls (.long y :: .long x :: st)) := by
  subst hq hv; exact Run.step (fun T t hx hb A z => XS.lor A hx rfl (hb ▸ hd) rfl z) hr
theorem Run.lxor {x y : Int64} (w : Int64) (q : Nat) (hd : decode bytes pc = .ok (.lxor, 1)) (hr : Run p l e R s m args below meth c Z own nm bytes maxL ret n0 EE h k n (mkF m q ls (.long w :: st))) (hv : x ^^^ y = w := by rfl) (hq : q = pc + 1 := by rfl) : Run p l e R s m args below meth c Z own nm bytes maxL ret n0 EE h k n (mkF m pc ls (.long y :: .long x :: st)) := by
  subst hq hv; exact Run.step (fun T t hx hb A z => XS.lxor A hx rfl (hb ▸ hd) rfl z) hr
theorem Run.ldiv {x y : Int64} (w : Int64) (q : Nat) (hd : decode bytes pc = .ok (.ldiv, 1)) (hy : y ≠ 0) (hr : Run p l e R s m args below meth c Z own nm bytes maxL ret n0 EE h k n (mkF m q ls (.long w :: st))) (hv : x / y = w := by rfl) (hq : q = pc + 1 := by rfl) : Run p l e R s m args below meth c Z own nm bytes maxL ret n0 EE h k n (mkF m pc ls (.long y :: .long x :: st)) := by
  subst hq hv; exact Run.step (fun T t hx hb A z => XS.ldiv A hx rfl (hb ▸ hd) rfl hy z) hr
theorem Run.lrem {x y : Int64} (w : Int64) (q : Nat) (hd : decode bytes pc = .ok (.lrem, 1)) (hy : y ≠ 0) (hr : Run p l e R s m args below meth c Z own nm bytes maxL ret n0 EE h k n (mkF m q ls (.long w :: st))) (hv : x - (x / y) * y = w := by rfl) (hq : q = pc + 1 := by rfl) : Run p l e R s m args below meth c Z own nm bytes maxL ret n0 EE h k n (mkF m pc ls (.long y :: .long x :: st)) := by
  subst hq hv; exact Run.step (fun T t hx hb A z => XS.lrem A hx rfl (hb ▸ hd) rfl hy z) hr
theorem Run.lshl {x : Int64} {y : Int32} (w : Int64) (q : Nat) (hd : decode bytes pc = .ok (.lshl, 1)) (hr : Run p l e R s m args below meth c Z own nm bytes maxL ret n0 EE h k n (mkF m q ls (.long w :: st))) (hv : x <<< (y &&& 0x3f).toInt64 = w := by rfl) (hq : q = pc + 1 := by rfl) : Run p l e R s m args below meth c Z own nm bytes maxL ret n0 EE h k n (mkF m pc ls (.int y :: .long x :: st)) := by
  subst hq hv; exact Run.step (fun T t hx hb A z => XS.lshl A hx rfl (hb ▸ hd) rfl z) hr
theorem Run.lshr {x : Int64} {y : Int32} (w : Int64) (q : Nat) (hd : decode bytes pc = .ok (.lshr, 1)) (hr : Run p l e R s m args below meth c Z own nm bytes maxL ret n0 EE h k n (mkF m q ls (.long w :: st))) (hv : x >>> (y &&& 0x3f).toInt64 = w := by rfl) (hq : q = pc + 1 := by rfl) : Run p l e R s m args below meth c Z own nm bytes maxL ret n0 EE h k n (mkF m pc ls (.int y :: .long x :: st)) := by
  subst hq hv; exact Run.step (fun T t hx hb A z => XS.lshr A hx rfl (hb ▸ hd) rfl z) hr
theorem Run.lushr {x : Int64} {y : Int32} (w : Int64) (q : Nat) (hd : decode bytes pc = .ok (.lushr, 1)) (hr : Run p l e R s m args below meth c Z own nm bytes maxL ret n0 EE h k n (mkF m q ls (.long w :: st))) (hv : (x.toUInt64 >>> (y &&& 0x3f).toInt64.toUInt64).toInt64 = w := by rfl) (hq : q = pc + 1 := by rfl) : Run p l e R s m args below meth c Z own nm bytes maxL ret n0 EE h k n (mkF m pc ls (.int y :: .long x :: st)) := by
  subst hq hv; exact Run.step (fun T t hx hb A z => XS.lushr A hx rfl (hb ▸ hd) rfl z) hr
theorem Run.i2b {x : Int32} (w : Int32) (q : Nat) (hd : decode bytes pc = .ok (.i2b, 1)) (hr : Run p l e R s m args below meth c Z own nm bytes maxL ret n0 EE h k n (mkF m q ls (.int w :: st))) (hv : x.toInt8.toInt32 = w := by rfl) (hq : q = pc + 1 := by rfl) : Run p l e R s m args below meth c Z own nm bytes maxL ret n0 EE h k n (mkF m pc ls (.int x :: st)) := by
  subst hq hv; exact Run.step (fun T t hx hb A z => XS.i2b A hx rfl (hb ▸ hd) rfl z) hr
theorem Run.i2c {x : Int32} (w : Int32) (q : Nat) (hd : decode bytes pc = .ok (.i2c, 1)) (hr : Run p l e R s m args below meth c Z own nm bytes maxL ret n0 EE h k n (mkF m q ls (.int w :: st))) (hv : x.toUInt32.toUInt16.toUInt32.toInt32 = w := by rfl) (hq : q = pc + 1 := by rfl) : Run p l e R s m args below meth c Z own nm bytes maxL ret n0 EE h k n (mkF m pc ls (.int x :: st)) := by
  subst hq hv; exact Run.step (fun T t hx hb A z => XS.i2c A hx rfl (hb ▸ hd) rfl z) hr
theorem Run.i2s {x : Int32} (w : Int32) (q : Nat) (hd : decode bytes pc = .ok (.i2s, 1)) (hr : Run p l e R s m args below meth c Z own nm bytes maxL ret n0 EE h k n (mkF m q ls (.int w :: st))) (hv : x.toInt16.toInt32 = w := by rfl) (hq : q = pc + 1 := by rfl) : Run p l e R s m args below meth c Z own nm bytes maxL ret n0 EE h k n (mkF m pc ls (.int x :: st)) := by
  subst hq hv; exact Run.step (fun T t hx hb A z => XS.i2s A hx rfl (hb ▸ hd) rfl z) hr
theorem Run.i2l {x : Int32} (w : Int64) (q : Nat) (hd : decode bytes pc = .ok (.i2l, 1)) (hr : Run p l e R s m args below meth c Z own nm bytes maxL ret n0 EE h k n (mkF m q ls (.long w :: st))) (hv : x.toInt64 = w := by rfl) (hq : q = pc + 1 := by rfl) : Run p l e R s m args below meth c Z own nm bytes maxL ret n0 EE h k n (mkF m pc ls (.int x :: st)) := by
  subst hq hv; exact Run.step (fun T t hx hb A z => XS.i2l A hx rfl (hb ▸ hd) rfl z) hr
theorem Run.l2i {x : Int64} (w : Int32) (q : Nat) (hd : decode bytes pc = .ok (.l2i, 1)) (hr : Run p l e R s m args below meth c Z own nm bytes maxL ret n0 EE h k n (mkF m q ls (.int w :: st))) (hv : x.toInt32 = w := by rfl) (hq : q = pc + 1 := by rfl) : Run p l e R s m args below meth c Z own nm bytes maxL ret n0 EE h k n (mkF m pc ls (.long x :: st)) := by
  subst hq hv; exact Run.step (fun T t hx hb A z => XS.l2i A hx rfl (hb ▸ hd) rfl z) hr
theorem Run.ineg {x : Int32} (w : Int32) (q : Nat) (hd : decode bytes pc = .ok (.ineg, 1)) (hr : Run p l e R s m args below meth c Z own nm bytes maxL ret n0 EE h k n (mkF m q ls (.int w :: st))) (hv : -x = w := by rfl) (hq : q = pc + 1 := by rfl) : Run p l e R s m args below meth c Z own nm bytes maxL ret n0 EE h k n (mkF m pc ls (.int x :: st)) := by
  subst hq hv; exact Run.step (fun T t hx hb A z => XS.ineg A hx rfl (hb ▸ hd) rfl z) hr
theorem Run.lneg {x : Int64} (w : Int64) (q : Nat) (hd : decode bytes pc = .ok (.lneg, 1)) (hr : Run p l e R s m args below meth c Z own nm bytes maxL ret n0 EE h k n (mkF m q ls (.long w :: st))) (hv : -x = w := by rfl) (hq : q = pc + 1 := by rfl) : Run p l e R s m args below meth c Z own nm bytes maxL ret n0 EE h k n (mkF m pc ls (.long x :: st)) := by
  subst hq hv; exact Run.step (fun T t hx hb A z => XS.lneg A hx rfl (hb ▸ hd) rfl z) hr
theorem Run.iinc {i : Nat} {cst : Int} {x : Int32} (w : Int32) (q : Nat) (ls' : Array Slot) (hd : decode bytes pc = .ok (.iinc i cst, 3)) (hl : ls[i]? = some (.val (.int x))) (hr : Run p l e R s m args below meth c Z own nm bytes maxL ret n0 EE h k n (mkF m q ls' st)) (hv : x + Int32.ofInt cst = w := by first | rfl | decide) (hs : storeLocals ls i (.int w) = some ls' := by rfl) (hq : q = pc + 3 := by rfl) : Run p l e R s m args below meth c Z own nm bytes maxL ret n0 EE h k n (mkF m pc ls st) := by
  subst hq hv; exact Run.step (fun T t hx hb A z => XS.iinc A hx rfl (hb ▸ hd) hl hs z) hr
theorem Run.dup {x : Value} (q : Nat) (hd : decode bytes pc = .ok (.dup, 1)) (hr : Run p l e R s m args below meth c Z own nm bytes maxL ret n0 EE h k n (mkF m q ls (x :: x :: st))) (hc : x.category = 1 := by rfl) (hq : q = pc + 1 := by rfl) : Run p l e R s m args below meth c Z own nm bytes maxL ret n0 EE h k n (mkF m pc ls (x :: st)) := by
  subst hq; exact Run.step (fun T t hx hb A z => XS.dup A hx rfl (hb ▸ hd) rfl hc z) hr
theorem Run.pop {x : Value} (q : Nat) (hd : decode bytes pc = .ok (.pop, 1)) (hr : Run p l e R s m args below meth c Z own nm bytes maxL ret n0 EE h k n (mkF m q ls st)) (hc : x.category = 1 := by rfl) (hq : q = pc + 1 := by rfl) : Run p l e R s m args below meth c Z own nm bytes maxL ret n0 EE h k n (mkF m pc ls (x :: st)) := by
  subst hq; exact Run.step (fun T t hx hb A z => XS.pop A hx rfl (hb ▸ hd) rfl hc z) hr
theorem Run.dupX1 {x y : Value} (q : Nat) (hd : decode bytes pc = .ok (.dup_x1, 1)) (hr : Run p l e R s m args below meth c Z own nm bytes maxL ret n0 EE h k n (mkF m q ls (x :: y :: x :: st))) (hc : x.category = 1 := by rfl) (hc' : y.category = 1 := by rfl) (hq : q = pc + 1 := by rfl) : Run p l e R s m args below meth c Z own nm bytes maxL ret n0 EE h k n (mkF m pc ls (x :: y :: st)) := by
  subst hq; exact Run.step (fun T t hx hb A z => XS.dupX1 A hx rfl (hb ▸ hd) rfl hc hc' z) hr
theorem Run.goto {o : Int} (q : Nat) (hd : decode bytes pc = .ok (.goto o, 3)) (hr : Run p l e R s m args below meth c Z own nm bytes maxL ret n0 EE h k n (mkF m q ls st)) (ho : 0 ≤ (pc : Int) + o := by decide) (hq : ((pc : Int) + o).toNat = q := by rfl) : Run p l e R s m args below meth c Z own nm bytes maxL ret n0 EE h k n (mkF m pc ls st) :=
  Run.step (fun T t hx hb A z => XS.goto A hx rfl rfl (hb ▸ hd) ho hq z) hr
theorem Run.ltY {x y : Int32} {o : Int} (q : Nat) (hd : decode bytes pc = .ok (.if_icmp .lt o, 3)) (hc : x < y) (hr : Run p l e R s m args below meth c Z own nm bytes maxL ret n0 EE h k n (mkF m q ls st)) (ho : 0 ≤ (pc : Int) + o := by decide) (hq : ((pc : Int) + o).toNat = q := by rfl) : Run p l e R s m args below meth c Z own nm bytes maxL ret n0 EE h k n (mkF m pc ls (.int y :: .int x :: st)) :=
  Run.step (fun T t hx hb A z => XS.icmpYes A hx rfl rfl (hb ▸ hd) rfl (tlt hc).1 ho hq z) hr
theorem Run.ltN {x y : Int32} {o : Int} (q : Nat) (hd : decode bytes pc = .ok (.if_icmp .lt o, 3)) (hc : ¬ (x < y)) (hr : Run p l e R s m args below meth c Z own nm bytes maxL ret n0 EE h k n (mkF m q ls st)) (hq : q = pc + 3 := by rfl) : Run p l e R s m args below meth c Z own nm bytes maxL ret n0 EE h k n (mkF m pc ls (.int y :: .int x :: st)) := by
  subst hq; exact Run.step (fun T t hx hb A z => XS.icmpNo A hx rfl (hb ▸ hd) rfl (flt hc).1 z) hr
theorem Run.lt {x y : Int32} {o : Int} (q q' : Nat) (hd : decode bytes pc = .ok (.if_icmp .lt o, 3)) (hr : x < y → Run p l e R s m args below meth c Z own nm bytes maxL ret n0 EE h k n (mkF m q ls st)) (hr' : ¬ (x < y) → Run p l e R s m args below meth c Z own nm bytes maxL ret n0 EE h k n (mkF m q' ls st)) (ho : 0 ≤ (pc : Int) + o := by decide) (hq : ((pc : Int) + o).toNat = q := by rfl) (hq' : q' = pc + 3 := by rfl) : Run p l e R s m args below meth c Z own nm bytes maxL ret n0 EE h k n (mkF m pc ls (.int y :: .int x :: st)) := by
  by_cases hc : x < y
  · exact Run.ltY q hd hc (hr hc) ho hq
  · exact Run.ltN q' hd hc (hr' hc) hq'
theorem Run.lt0Y {x : Int32} {o : Int} (q : Nat) (hd : decode bytes pc = .ok (.ifCond .lt o, 3)) (hc : x < (0 : Int32)) (hr : Run p l e R s m args below meth c Z own nm bytes maxL ret n0 EE h k n (mkF m q ls st)) (ho : 0 ≤ (pc : Int) + o := by decide) (hq : ((pc : Int) + o).toNat = q := by rfl) : Run p l e R s m args below meth c Z own nm bytes maxL ret n0 EE h k n (mkF m pc ls (.int x :: st)) :=
  Run.step (fun T t hx hb A z => XS.ifYes A hx rfl rfl (hb ▸ hd) rfl ((if0 _ _).trans (tlt hc).1) ho hq z) hr
theorem Run.lt0N {x : Int32} {o : Int} (q : Nat) (hd : decode bytes pc = .ok (.ifCond .lt o, 3)) (hc : ¬ (x < (0 : Int32))) (hr : Run p l e R s m args below meth c Z own nm bytes maxL ret n0 EE h k n (mkF m q ls st)) (hq : q = pc + 3 := by rfl) : Run p l e R s m args below meth c Z own nm bytes maxL ret n0 EE h k n (mkF m pc ls (.int x :: st)) := by
  subst hq; exact Run.step (fun T t hx hb A z => XS.ifNo A hx rfl (hb ▸ hd) rfl ((if0 _ _).trans (flt hc).1) z) hr
theorem Run.lt0 {x : Int32} {o : Int} (q q' : Nat) (hd : decode bytes pc = .ok (.ifCond .lt o, 3)) (hr : x < (0 : Int32) → Run p l e R s m args below meth c Z own nm bytes maxL ret n0 EE h k n (mkF m q ls st)) (hr' : ¬ (x < (0 : Int32)) → Run p l e R s m args below meth c Z own nm bytes maxL ret n0 EE h k n (mkF m q' ls st)) (ho : 0 ≤ (pc : Int) + o := by decide) (hq : ((pc : Int) + o).toNat = q := by rfl) (hq' : q' = pc + 3 := by rfl) : Run p l e R s m args below meth c Z own nm bytes maxL ret n0 EE h k n (mkF m pc ls (.int x :: st)) := by
  by_cases hc : x < (0 : Int32)
  · exact Run.lt0Y q hd hc (hr hc) ho hq
  · exact Run.lt0N q' hd hc (hr' hc) hq'
theorem Run.geY {x y : Int32} {o : Int} (q : Nat) (hd : decode bytes pc = .ok (.if_icmp .ge o, 3)) (hc : ¬ (x < y)) (hr : Run p l e R s m args below meth c Z own nm bytes maxL ret n0 EE h k n (mkF m q ls st)) (ho : 0 ≤ (pc : Int) + o := by decide) (hq : ((pc : Int) + o).toNat = q := by rfl) : Run p l e R s m args below meth c Z own nm bytes maxL ret n0 EE h k n (mkF m pc ls (.int y :: .int x :: st)) :=
  Run.step (fun T t hx hb A z => XS.icmpYes A hx rfl rfl (hb ▸ hd) rfl (flt hc).2.1 ho hq z) hr
theorem Run.geN {x y : Int32} {o : Int} (q : Nat) (hd : decode bytes pc = .ok (.if_icmp .ge o, 3)) (hc : x < y) (hr : Run p l e R s m args below meth c Z own nm bytes maxL ret n0 EE h k n (mkF m q ls st)) (hq : q = pc + 3 := by rfl) : Run p l e R s m args below meth c Z own nm bytes maxL ret n0 EE h k n (mkF m pc ls (.int y :: .int x :: st)) := by
  subst hq; exact Run.step (fun T t hx hb A z => XS.icmpNo A hx rfl (hb ▸ hd) rfl (tlt hc).2.1 z) hr
theorem Run.ge {x y : Int32} {o : Int} (q q' : Nat) (hd : decode bytes pc = .ok (.if_icmp .ge o, 3)) (hr : ¬ (x < y) → Run p l e R s m args below meth c Z own nm bytes maxL ret n0 EE h k n (mkF m q ls st)) (hr' : x < y → Run p l e R s m args below meth c Z own nm bytes maxL ret n0 EE h k n (mkF m q' ls st)) (ho : 0 ≤ (pc : Int) + o := by decide) (hq : ((pc : Int) + o).toNat = q := by rfl) (hq' : q' = pc + 3 := by rfl) : Run p l e R s m args below meth c Z own nm bytes maxL ret n0 EE h k n (mkF m pc ls (.int y :: .int x :: st)) := by
  by_cases hc : x < y
  · exact Run.geN q' hd hc (hr' hc) hq'
  · exact Run.geY q hd hc (hr hc) ho hq
theorem Run.ge0Y {x : Int32} {o : Int} (q : Nat) (hd : decode bytes pc = .ok (.ifCond .ge o, 3)) (hc : ¬ (x < (0 : Int32))) (hr : Run p l e R s m args below meth c Z own nm bytes maxL ret n0 EE h k n (mkF m q ls st)) (ho : 0 ≤ (pc : Int) + o := by decide) (hq : ((pc : Int) + o).toNat = q := by rfl) : Run p l e R s m args below meth c Z own nm bytes maxL ret n0 EE h k n (mkF m pc ls (.int x :: st)) :=
  Run.step (fun T t hx hb A z => XS.ifYes A hx rfl rfl (hb ▸ hd) rfl ((if0 _ _).trans (flt hc).2.1) ho hq z) hr
theorem Run.ge0N {x : Int32} {o : Int} (q : Nat) (hd : decode bytes pc = .ok (.ifCond .ge o, 3)) (hc : x < (0 : Int32)) (hr : Run p l e R s m args below meth c Z own nm bytes maxL ret n0 EE h k n (mkF m q ls st)) (hq : q = pc + 3 := by rfl) : Run p l e R s m args below meth c Z own nm bytes maxL ret n0 EE h k n (mkF m pc ls (.int x :: st)) := by
  subst hq; exact Run.step (fun T t hx hb A z => XS.ifNo A hx rfl (hb ▸ hd) rfl ((if0 _ _).trans (tlt hc).2.1) z) hr
theorem Run.ge0 {x : Int32} {o : Int} (q q' : Nat) (hd : decode bytes pc = .ok (.ifCond .ge o, 3)) (hr : ¬ (x < (0 : Int32)) → Run p l e R s m args below meth c Z own nm bytes maxL ret n0 EE h k n (mkF m q ls st)) (hr' : x < (0 : Int32) → Run p l e R s m args below meth c Z own nm bytes maxL ret n0 EE h k n (mkF m q' ls st)) (ho : 0 ≤ (pc : Int) + o := by decide) (hq : ((pc : Int) + o).toNat = q := by rfl) (hq' : q' = pc + 3 := by rfl) : Run p l e R s m args below meth c Z own nm bytes maxL ret n0 EE h k n (mkF m pc ls (.int x :: st)) := by
  by_cases hc : x < (0 : Int32)
  · exact Run.ge0N q' hd hc (hr' hc) hq'
  · exact Run.ge0Y q hd hc (hr hc) ho hq
theorem Run.gtY {x y : Int32} {o : Int} (q : Nat) (hd : decode bytes pc = .ok (.if_icmp .gt o, 3)) (hc : y < x) (hr : Run p l e R s m args below meth c Z own nm bytes maxL ret n0 EE h k n (mkF m q ls st)) (ho : 0 ≤ (pc : Int) + o := by decide) (hq : ((pc : Int) + o).toNat = q := by rfl) : Run p l e R s m args below meth c Z own nm bytes maxL ret n0 EE h k n (mkF m pc ls (.int y :: .int x :: st)) :=
  Run.step (fun T t hx hb A z => XS.icmpYes A hx rfl rfl (hb ▸ hd) rfl (tlt hc).2.2.1 ho hq z) hr
theorem Run.gtN {x y : Int32} {o : Int} (q : Nat) (hd : decode bytes pc = .ok (.if_icmp .gt o, 3)) (hc : ¬ (y < x)) (hr : Run p l e R s m args below meth c Z own nm bytes maxL ret n0 EE h k n (mkF m q ls st)) (hq : q = pc + 3 := by rfl) : Run p l e R s m args below meth c Z own nm bytes maxL ret n0 EE h k n (mkF m pc ls (.int y :: .int x :: st)) := by
  subst hq; exact Run.step (fun T t hx hb A z => XS.icmpNo A hx rfl (hb ▸ hd) rfl (flt hc).2.2.1 z) hr
theorem Run.gt {x y : Int32} {o : Int} (q q' : Nat) (hd : decode bytes pc = .ok (.if_icmp .gt o, 3)) (hr : y < x → Run p l e R s m args below meth c Z own nm bytes maxL ret n0 EE h k n (mkF m q ls st)) (hr' : ¬ (y < x) → Run p l e R s m args below meth c Z own nm bytes maxL ret n0 EE h k n (mkF m q' ls st)) (ho : 0 ≤ (pc : Int) + o := by decide) (hq : ((pc : Int) + o).toNat = q := by rfl) (hq' : q' = pc + 3 := by rfl) : Run p l e R s m args below meth c Z own nm bytes maxL ret n0 EE h k n (mkF m pc ls (.int y :: .int x :: st)) := by
  by_cases hc : y < x
  · exact Run.gtY q hd hc (hr hc) ho hq
  · exact Run.gtN q' hd hc (hr' hc) hq'
theorem Run.gt0Y {x : Int32} {o : Int} (q : Nat) (hd : decode bytes pc = .ok (.ifCond .gt o, 3)) (hc : (0 : Int32) < x) (hr : Run p l e R s m args below meth c Z own nm bytes maxL ret n0 EE h k n (mkF m q ls st)) (ho : 0 ≤ (pc : Int) + o := by decide) (hq : ((pc : Int) + o).toNat = q := by rfl) : Run p l e R s m args below meth c Z own nm bytes maxL ret n0 EE h k n (mkF m pc ls (.int x :: st)) :=
  Run.step (fun T t hx hb A z => XS.ifYes A hx rfl rfl (hb ▸ hd) rfl ((if0 _ _).trans (tlt hc).2.2.1) ho hq z) hr
theorem Run.gt0N {x : Int32} {o : Int} (q : Nat) (hd : decode bytes pc = .ok (.ifCond .gt o, 3)) (hc : ¬ ((0 : Int32) < x)) (hr : Run p l e R s m args below meth c Z own nm bytes maxL ret n0 EE h k n (mkF m q ls st)) (hq : q = pc + 3 := by rfl) : Run p l e R s m args below meth c Z own nm bytes maxL ret n0 EE h k n (mkF m pc ls (.int x :: st)) := by
  subst hq; exact Run.step (fun T t hx hb A z => XS.ifNo A hx rfl (hb ▸ hd) rfl ((if0 _ _).trans (flt hc).2.2.1) z) hr
theorem Run.gt0 {x : Int32} {o : Int} (q q' : Nat) (hd : decode bytes pc = .ok (.ifCond .gt o, 3)) (hr : (0 : Int32) < x → Run p l e R s m args below meth c Z own nm bytes maxL ret n0 EE h k n (mkF m q ls st)) (hr' : ¬ ((0 : Int32) < x) → Run p l e R s m args below meth c Z own nm bytes maxL ret n0 EE h k n (mkF m q' ls st)) (ho : 0 ≤ (pc : Int) + o := by decide) (hq : ((pc : Int) + o).toNat = q := by rfl) (hq' : q' = pc + 3 := by rfl) : Run p l e R s m args below meth c Z own nm bytes maxL ret n0 EE h k n (mkF m pc ls (.int x :: st)) := by
  by_cases hc : (0 : Int32) < x
  · exact Run.gt0Y q hd hc (hr hc) ho hq
  · exact Run.gt0N q' hd hc (hr' hc) hq'
theorem Run.leY {x y : Int32} {o : Int} (q : Nat) (hd : decode bytes pc = .ok (.if_icmp .le o, 3)) (hc : ¬ (y < x)) (hr : Run p l e R s m args below meth c Z own nm bytes maxL ret n0 EE h k n (mkF m q ls st)) (ho : 0 ≤ (pc : Int) + o := by decide) (hq : ((pc : Int) + o).toNat = q := by rfl) : Run p l e R s m args below meth c Z own nm bytes maxL ret n0 EE h k n (mkF m pc ls (.int y :: .int x :: st)) :=
  Run.step (fun T t hx hb A z => XS.icmpYes A hx rfl rfl (hb ▸ hd) rfl (flt hc).2.2.2 ho hq z) hr
theorem Run.leN {x y : Int32} {o : Int} (q : Nat) (hd : decode bytes pc = .ok (.if_icmp .le o, 3)) (hc : y < x) (hr : Run p l e R s m args below meth c Z own nm bytes maxL ret n0 EE h k n (mkF m q ls st)) (hq : q = pc + 3 := by rfl) : Run p l e R s m args below meth c Z own nm bytes maxL ret n0 EE h k n (mkF m pc ls (.int y :: .int x :: st)) := by
  subst hq; exact Run.step (fun T t hx hb A z => XS.icmpNo A hx rfl (hb ▸ hd) rfl (tlt hc).2.2.2 z) hr
theorem Run.le {x y : Int32} {o : Int} (q q' : Nat) (hd : decode bytes pc = .ok (.if_icmp .le o, 3)) (hr : ¬ (y < x) → Run p l e R s m args below meth c Z own nm bytes maxL ret n0 EE h k n (mkF m q ls st)) (hr' : y < x → Run p l e R s m args below meth c Z own nm bytes maxL ret n0 EE h k n (mkF m q' ls st)) (ho : 0 ≤ (pc : Int) + o := by decide) (hq : ((pc : Int) + o).toNat = q := by rfl) (hq' : q' = pc + 3 := by rfl) : Run p l e R s m args below meth c Z own nm bytes maxL ret n0 EE h k n (mkF m pc ls (.int y :: .int x :: st)) := by
  by_cases hc : y < x
  · exact Run.leN q' hd hc (hr' hc) hq'
  · exact Run.leY q hd hc (hr hc) ho hq
theorem Run.le0Y {x : Int32} {o : Int} (q : Nat) (hd : decode bytes pc = .ok (.ifCond .le o, 3)) (hc : ¬ ((0 : Int32) < x)) (hr : Run p l e R s m args below meth c Z own nm bytes maxL ret n0 EE h k n (mkF m q ls st)) (ho : 0 ≤ (pc : Int) + o := by decide) (hq : ((pc : Int) + o).toNat = q := by rfl) : Run p l e R s m args below meth c Z own nm bytes maxL ret n0 EE h k n (mkF m pc ls (.int x :: st)) :=
  Run.step (fun T t hx hb A z => XS.ifYes A hx rfl rfl (hb ▸ hd) rfl ((if0 _ _).trans (flt hc).2.2.2) ho hq z) hr
theorem Run.le0N {x : Int32} {o : Int} (q : Nat) (hd : decode bytes pc = .ok (.ifCond .le o, 3)) (hc : (0 : Int32) < x) (hr : Run p l e R s m args below meth c Z own nm bytes maxL ret n0 EE h k n (mkF m q ls st)) (hq : q = pc + 3 := by rfl) : Run p l e R s m args below meth c Z own nm bytes maxL ret n0 EE h k n (mkF m pc ls (.int x :: st)) := by
  subst hq; exact Run.step (fun T t hx hb A z => XS.ifNo A hx rfl (hb ▸ hd) rfl ((if0 _ _).trans (tlt hc).2.2.2) z) hr
theorem Run.le0 {x : Int32} {o : Int} (q q' : Nat) (hd : decode bytes pc = .ok (.ifCond .le o, 3)) (hr : ¬ ((0 : Int32) < x) → Run p l e R s m args below meth c Z own nm bytes maxL ret n0 EE h k n (mkF m q ls st)) (hr' : (0 : Int32) < x → Run p l e R s m args below meth c Z own nm bytes maxL ret n0 EE h k n (mkF m q' ls st)) (ho : 0 ≤ (pc : Int) + o := by decide) (hq : ((pc : Int) + o).toNat = q := by rfl) (hq' : q' = pc + 3 := by rfl) : Run p l e R s m args below meth c Z own nm bytes maxL ret n0 EE h k n (mkF m pc ls (.int x :: st)) := by
  by_cases hc : (0 : Int32) < x
  · exact Run.le0N q' hd hc (hr' hc) hq'
  · exact Run.le0Y q hd hc (hr hc) ho hq
theorem Run.eqY {x y : Int32} {o : Int} (q : Nat) (hd : decode bytes pc = .ok (.if_icmp .eq o, 3)) (hc : x = y) (hr : Run p l e R s m args below meth c Z own nm bytes maxL ret n0 EE h k n (mkF m q ls st)) (ho : 0 ≤ (pc : Int) + o := by decide) (hq : ((pc : Int) + o).toNat = q := by rfl) : Run p l e R s m args below meth c Z own nm bytes maxL ret n0 EE h k n (mkF m pc ls (.int y :: .int x :: st)) :=
  Run.step (fun T t hx hb A z => XS.icmpYes A hx rfl rfl (hb ▸ hd) rfl (teq hc).1 ho hq z) hr
theorem Run.eqN {x y : Int32} {o : Int} (q : Nat) (hd : decode bytes pc = .ok (.if_icmp .eq o, 3)) (hc : ¬ (x = y)) (hr : Run p l e R s m args below meth c Z own nm bytes maxL ret n0 EE h k n (mkF m q ls st)) (hq : q = pc + 3 := by rfl) : Run p l e R s m args below meth c Z own nm bytes maxL ret n0 EE h k n (mkF m pc ls (.int y :: .int x :: st)) := by
  subst hq; exact Run.step (fun T t hx hb A z => XS.icmpNo A hx rfl (hb ▸ hd) rfl (feq hc).1 z) hr
theorem Run.eq {x y : Int32} {o : Int} (q q' : Nat) (hd : decode bytes pc = .ok (.if_icmp .eq o, 3)) (hr : x = y → Run p l e R s m args below meth c Z own nm bytes maxL ret n0 EE h k n (mkF m q ls st)) (hr' : ¬ (x = y) → Run p l e R s m args below meth c Z own nm bytes maxL ret n0 EE h k n (mkF m q' ls st)) (ho : 0 ≤ (pc : Int) + o := by decide) (hq : ((pc : Int) + o).toNat = q := by rfl) (hq' : q' = pc + 3 := by rfl) : Run p l e R s m args below meth c Z own nm bytes maxL ret n0 EE h k n (mkF m pc ls (.int y :: .int x :: st)) := by
  by_cases hc : x = y
  · exact Run.eqY q hd hc (hr hc) ho hq
  · exact Run.eqN q' hd hc (hr' hc) hq'
theorem Run.eq0Y {x : Int32} {o : Int} (q : Nat) (hd : decode bytes pc = .ok (.ifCond .eq o, 3)) (hc : x = (0 : Int32)) (hr : Run p l e R s m args below meth c Z own nm bytes maxL ret n0 EE h k n (mkF m q ls st)) (ho : 0 ≤ (pc : Int) + o := by decide) (hq : ((pc : Int) + o).toNat = q := by rfl) : Run p l e R s m args below meth c Z own nm bytes maxL ret n0 EE h k n (mkF m pc ls (.int x :: st)) :=
  Run.step (fun T t hx hb A z => XS.ifYes A hx rfl rfl (hb ▸ hd) rfl ((if0 _ _).trans (teq hc).1) ho hq z) hr
theorem Run.eq0N {x : Int32} {o : Int} (q : Nat) (hd : decode bytes pc = .ok (.ifCond .eq o, 3)) (hc : ¬ (x = (0 : Int32))) (hr : Run p l e R s m args below meth c Z own nm bytes maxL ret n0 EE h k n (mkF m q ls st)) (hq : q = pc + 3 := by rfl) : Run p l e R s m args below meth c Z own nm bytes maxL ret n0 EE h k n (mkF m pc ls (.int x :: st)) := by
  subst hq; exact Run.step (fun T t hx hb A z => XS.ifNo A hx rfl (hb ▸ hd) rfl ((if0 _ _).trans (feq hc).1) z) hr
theorem Run.eq0 {x : Int32} {o : Int} (q q' : Nat) (hd : decode bytes pc = .ok (.ifCond .eq o, 3)) (hr : x = (0 : Int32) → Run p l e R s m args below meth c Z own nm bytes maxL ret n0 EE h k n (mkF m q ls st)) (hr' : ¬ (x = (0 : Int32)) → Run p l e R s m args below meth c Z own nm bytes maxL ret n0 EE h k n (mkF m q' ls st)) (ho : 0 ≤ (pc : Int) + o := by decide) (hq : ((pc : Int) + o).toNat = q := by rfl) (hq' : q' = pc + 3 := by rfl) : Run p l e R s m args below meth c Z own nm bytes maxL ret n0 EE h k n (mkF m pc ls (.int x :: st)) := by
  by_cases hc : x = (0 : Int32)
  · exact Run.eq0Y q hd hc (hr hc) ho hq
  · exact Run.eq0N q' hd hc (hr' hc) hq'
theorem Run.neY {x y : Int32} {o : Int} (q : Nat) (hd : decode bytes pc = .ok (.if_icmp .ne o, 3)) (hc : ¬ (x = y)) (hr : Run p l e R s m args below meth c Z own nm bytes maxL ret n0 EE h k n (mkF m q ls st)) (ho : 0 ≤ (pc : Int) + o := by decide) (hq : ((pc : Int) + o).toNat = q := by rfl) : Run p l e R s m args below meth c Z own nm bytes maxL ret n0 EE h k n (mkF m pc ls (.int y :: .int x :: st)) :=
  Run.step (fun T t hx hb A z => XS.icmpYes A hx rfl rfl (hb ▸ hd) rfl (feq hc).2 ho hq z) hr
theorem Run.neN {x y : Int32} {o : Int} (q : Nat) (hd : decode bytes pc = .ok (.if_icmp .ne o, 3)) (hc : x = y) (hr : Run p l e R s m args below meth c Z own nm bytes maxL ret n0 EE h k n (mkF m q ls st)) (hq : q = pc + 3 := by rfl) : Run p l e R s m args below meth c Z own nm bytes maxL ret n0 EE h k n (mkF m pc ls (.int y :: .int x :: st)) := by
  subst hq; exact Run.step (fun T t hx hb A z => XS.icmpNo A hx rfl (hb ▸ hd) rfl (teq hc).2 z) hr
theorem Run.ne {x y : Int32} {o : Int} (q q' : Nat) (hd : decode bytes pc = .ok (.if_icmp .ne o, 3)) (hr : ¬ (x = y) → Run p l e R s m args below meth c Z own nm bytes maxL ret n0 EE h k n (mkF m q ls st)) (hr' : x = y → Run p l e R s m args below meth c Z own nm bytes maxL ret n0 EE h k n (mkF m q' ls st)) (ho : 0 ≤ (pc : Int) + o := by decide) (hq : ((pc : Int) + o).toNat = q := by rfl) (hq' : q' = pc + 3 := by rfl) : Run p l e R s m args below meth c Z own nm bytes maxL ret n0 EE h k n (mkF m pc ls (.int y :: .int x :: st)) := by
  by_cases hc : x = y
  · exact Run.neN q' hd hc (hr' hc) hq'
  · exact Run.neY q hd hc (hr hc) ho hq
theorem Run.ne0Y {x : Int32} {o : Int} (q : Nat) (hd : decode bytes pc = .ok (.ifCond .ne o, 3)) (hc : ¬ (x = (0 : Int32))) (hr : Run p l e R s m args below meth c Z own nm bytes maxL ret n0 EE h k n (mkF m q ls st)) (ho : 0 ≤ (pc : Int) + o := by decide) (hq : ((pc : Int) + o).toNat = q := by rfl) : Run p l e R s m args below meth c Z own nm bytes maxL ret n0 EE h k n (mkF m pc ls (.int x :: st)) :=
  Run.step (fun T t hx hb A z => XS.ifYes A hx rfl rfl (hb ▸ hd) rfl ((if0 _ _).trans (feq hc).2) ho hq z) hr
theorem Run.ne0N {x : Int32} {o : Int} (q : Nat) (hd : decode bytes pc = .ok (.ifCond .ne o, 3)) (hc : x = (0 : Int32)) (hr : Run p l e R s m args below meth c Z own nm bytes maxL ret n0 EE h k n (mkF m q ls st)) (hq : q = pc + 3 := by rfl) : Run p l e R s m args below meth c Z own nm bytes maxL ret n0 EE h k n (mkF m pc ls (.int x :: st)) := by
  subst hq; exact Run.step (fun T t hx hb A z => XS.ifNo A hx rfl (hb ▸ hd) rfl ((if0 _ _).trans (teq hc).2) z) hr
theorem Run.ne0 {x : Int32} {o : Int} (q q' : Nat) (hd : decode bytes pc = .ok (.ifCond .ne o, 3)) (hr : ¬ (x = (0 : Int32)) → Run p l e R s m args below meth c Z own nm bytes maxL ret n0 EE h k n (mkF m q ls st)) (hr' : x = (0 : Int32) → Run p l e R s m args below meth c Z own nm bytes maxL ret n0 EE h k n (mkF m q' ls st)) (ho : 0 ≤ (pc : Int) + o := by decide) (hq : ((pc : Int) + o).toNat = q := by rfl) (hq' : q' = pc + 3 := by rfl) : Run p l e R s m args below meth c Z own nm bytes maxL ret n0 EE h k n (mkF m pc ls (.int x :: st)) := by
  by_cases hc : x = (0 : Int32)
  · exact Run.ne0N q' hd hc (hr' hc) hq'
  · exact Run.ne0Y q hd hc (hr hc) ho hq
theorem Run.lltY {x y : Int64} {o : Int} (q : Nat) (hd1 : decode bytes pc = .ok (.lcmp, 1)) (hd : decode bytes (pc + 1) = .ok (.ifCond .lt o, 3)) (hc : x < y) (hr : Run p l e R s m args below meth c Z own nm bytes maxL ret n0 EE h k n (mkF m q ls st)) (ho : 0 ≤ ((pc + 1 : Nat) : Int) + o := by decide) (hq : (((pc + 1 : Nat) : Int) + o).toNat = q := by rfl) : Run p l e R s m args below meth c Z own nm bytes maxL ret n0 EE h k n (mkF m pc ls (.long y :: .long x :: st)) :=
  Run.step (fun T t hx hb A z => XS.lcmp A hx rfl (hb ▸ hd1) rfl (XS.ifYes (x := lcmpW x y) (rest := st) (g := mkF m (pc + 1) ls (.int (lcmpW x y) :: st)) A hx rfl rfl (hb ▸ hd) rfl ((if0 _ _).trans (tlt ((lw_lt x y).mpr hc)).1) ho hq z)) hr
theorem Run.lltN {x y : Int64} {o : Int} (q : Nat) (hd1 : decode bytes pc = .ok (.lcmp, 1)) (hd : decode bytes (pc + 1) = .ok (.ifCond .lt o, 3)) (hc : ¬ (x < y)) (hr : Run p l e R s m args below meth c Z own nm bytes maxL ret n0 EE h k n (mkF m q ls st)) (hq : q = pc + 4 := by rfl) : Run p l e R s m args below meth c Z own nm bytes maxL ret n0 EE h k n (mkF m pc ls (.long y :: .long x :: st)) := by
  subst hq; exact Run.step (fun T t hx hb A z => XS.lcmp A hx rfl (hb ▸ hd1) rfl (XS.ifNo (x := lcmpW x y) (rest := st) (g := mkF m (pc + 1) ls (.int (lcmpW x y) :: st)) A hx rfl (hb ▸ hd) rfl ((if0 _ _).trans (flt (fun z => hc ((lw_lt x y).mp z))).1) z)) hr
theorem Run.llt {x y : Int64} {o : Int} (q q' : Nat) (hd1 : decode bytes pc = .ok (.lcmp, 1)) (hd : decode bytes (pc + 1) = .ok (.ifCond .lt o, 3)) (hr : x < y → Run p l e R s m args below meth c Z own nm bytes maxL ret n0 EE h k n (mkF m q ls st)) (hr' : ¬ (x < y) → Run p l e R s m args below meth c Z own nm bytes maxL ret n0 EE h k n (mkF m q' ls st)) (ho : 0 ≤ ((pc + 1 : Nat) : Int) + o := by decide) (hq : (((pc + 1 : Nat) : Int) + o).toNat = q := by rfl) (hq' : q' = pc + 4 := by rfl) : Run p l e R s m args below meth c Z own nm bytes maxL ret n0 EE h k n (mkF m pc ls (.long y :: .long x :: st)) := by
  by_cases hc : x < y
  · exact Run.lltY q hd1 hd hc (hr hc) ho hq
  · exact Run.lltN q' hd1 hd hc (hr' hc) hq'
theorem Run.lgeY {x y : Int64} {o : Int} (q : Nat) (hd1 : decode bytes pc = .ok (.lcmp, 1)) (hd : decode bytes (pc + 1) = .ok (.ifCond .ge o, 3)) (hc : ¬ (x < y)) (hr : Run p l e R s m args below meth c Z own nm bytes maxL ret n0 EE h k n (mkF m q ls st)) (ho : 0 ≤ ((pc + 1 : Nat) : Int) + o := by decide) (hq : (((pc + 1 : Nat) : Int) + o).toNat = q := by rfl) : Run p l e R s m args below meth c Z own nm bytes maxL ret n0 EE h k n (mkF m pc ls (.long y :: .long x :: st)) :=
  Run.step (fun T t hx hb A z => XS.lcmp A hx rfl (hb ▸ hd1) rfl (XS.ifYes (x := lcmpW x y) (rest := st) (g := mkF m (pc + 1) ls (.int (lcmpW x y) :: st)) A hx rfl rfl (hb ▸ hd) rfl ((if0 _ _).trans (flt (fun z => hc ((lw_lt x y).mp z))).2.1) ho hq z)) hr
theorem Run.lgeN {x y : Int64} {o : Int} (q : Nat) (hd1 : decode bytes pc = .ok (.lcmp, 1)) (hd : decode bytes (pc + 1) = .ok (.ifCond .ge o, 3)) (hc : x < y) (hr : Run p l e R s m args below meth c Z own nm bytes maxL ret n0 EE h k n (mkF m q ls st)) (hq : q = pc + 4 := by rfl) : Run p l e R s m args below meth c Z own nm bytes maxL ret n0 EE h k n (mkF m pc ls (.long y :: .long x :: st)) := by
  subst hq; exact Run.step (fun T t hx hb A z => XS.lcmp A hx rfl (hb ▸ hd1) rfl (XS.ifNo (x := lcmpW x y) (rest := st) (g := mkF m (pc + 1) ls (.int (lcmpW x y) :: st)) A hx rfl (hb ▸ hd) rfl ((if0 _ _).trans (tlt ((lw_lt x y).mpr hc)).2.1) z)) hr
theorem Run.lge {x y : Int64} {o : Int} (q q' : Nat) (hd1 : decode bytes pc = .ok (.lcmp, 1)) (hd : decode bytes (pc + 1) = .ok (.ifCond .ge o, 3)) (hr : ¬ (x < y) → Run p l e R s m args below meth c Z own nm bytes maxL ret n0 EE h k n (mkF m q ls st)) (hr' : x < y → Run p l e R s m args below meth c Z own nm bytes maxL ret n0 EE h k n (mkF m q' ls st)) (ho : 0 ≤ ((pc + 1 : Nat) : Int) + o := by decide) (hq : (((pc + 1 : Nat) : Int) + o).toNat = q := by rfl) (hq' : q' = pc + 4 := by rfl) : Run p l e R s m args below meth c Z own nm bytes maxL ret n0 EE h k n (mkF m pc ls (.long y :: .long x :: st)) := by
  by_cases hc : x < y
  · exact Run.lgeN q' hd1 hd hc (hr' hc) hq'
  · exact Run.lgeY q hd1 hd hc (hr hc) ho hq
theorem Run.lgtY {x y : Int64} {o : Int} (q : Nat) (hd1 : decode bytes pc = .ok (.lcmp, 1)) (hd : decode bytes (pc + 1) = .ok (.ifCond .gt o, 3)) (hc : y < x) (hr : Run p l e R s m args below meth c Z own nm bytes maxL ret n0 EE h k n (mkF m q ls st)) (ho : 0 ≤ ((pc + 1 : Nat) : Int) + o := by decide) (hq : (((pc + 1 : Nat) : Int) + o).toNat = q := by rfl) : Run p l e R s m args below meth c Z own nm bytes maxL ret n0 EE h k n (mkF m pc ls (.long y :: .long x :: st)) :=
  Run.step (fun T t hx hb A z => XS.lcmp A hx rfl (hb ▸ hd1) rfl (XS.ifYes (x := lcmpW x y) (rest := st) (g := mkF m (pc + 1) ls (.int (lcmpW x y) :: st)) A hx rfl rfl (hb ▸ hd) rfl ((if0 _ _).trans (tlt ((lw_gt x y).mpr hc)).2.2.1) ho hq z)) hr
theorem Run.lgtN {x y : Int64} {o : Int} (q : Nat) (hd1 : decode bytes pc = .ok (.lcmp, 1)) (hd : decode bytes (pc + 1) = .ok (.ifCond .gt o, 3)) (hc : ¬ (y < x)) (hr : Run p l e R s m args below meth c Z own nm bytes maxL ret n0 EE h k n (mkF m q ls st)) (hq : q = pc + 4 := by rfl) : Run p l e R s m args below meth c Z own nm bytes maxL ret n0 EE h k n (mkF m pc ls (.long y :: .long x :: st)) := by
  subst hq; exact Run.step (fun T t hx hb A z => XS.lcmp A hx rfl (hb ▸ hd1) rfl (XS.ifNo (x := lcmpW x y) (rest := st) (g := mkF m (pc + 1) ls (.int (lcmpW x y) :: st)) A hx rfl (hb ▸ hd) rfl ((if0 _ _).trans (flt (fun z => hc ((lw_gt x y).mp z))).2.2.1) z)) hr
theorem Run.lgt {x y : Int64} {o : Int} (q q' : Nat) (hd1 : decode bytes pc = .ok (.lcmp, 1)) (hd : decode bytes (pc + 1) = .ok (.ifCond .gt o, 3)) (hr : y < x → Run p l e R s m args below meth c Z own nm bytes maxL ret n0 EE h k n (mkF m q ls st)) (hr' : ¬ (y < x) → Run p l e R s m args below meth c Z own nm bytes maxL ret n0 EE h k n (mkF m q' ls st)) (ho : 0 ≤ ((pc + 1 : Nat) : Int) + o := by decide) (hq : (((pc + 1 : Nat) : Int) + o).toNat = q := by rfl) (hq' : q' = pc + 4 := by rfl) : Run p l e R s m args below meth c Z own nm bytes maxL ret n0 EE h k n (mkF m pc ls (.long y :: .long x :: st)) := by
  by_cases hc : y < x
  · exact Run.lgtY q hd1 hd hc (hr hc) ho hq
  · exact Run.lgtN q' hd1 hd hc (hr' hc) hq'
theorem Run.lleY {x y : Int64} {o : Int} (q : Nat) (hd1 : decode bytes pc = .ok (.lcmp, 1)) (hd : decode bytes (pc + 1) = .ok (.ifCond .le o, 3)) (hc : ¬ (y < x)) (hr : Run p l e R s m args below meth c Z own nm bytes maxL ret n0 EE h k n (mkF m q ls st)) (ho : 0 ≤ ((pc + 1 : Nat) : Int) + o := by decide) (hq : (((pc + 1 : Nat) : Int) + o).toNat = q := by rfl) : Run p l e R s m args below meth c Z own nm bytes maxL ret n0 EE h k n (mkF m pc ls (.long y :: .long x :: st)) :=
  Run.step (fun T t hx hb A z => XS.lcmp A hx rfl (hb ▸ hd1) rfl (XS.ifYes (x := lcmpW x y) (rest := st) (g := mkF m (pc + 1) ls (.int (lcmpW x y) :: st)) A hx rfl rfl (hb ▸ hd) rfl ((if0 _ _).trans (flt (fun z => hc ((lw_gt x y).mp z))).2.2.2) ho hq z)) hr
theorem Run.lleN {x y : Int64} {o : Int} (q : Nat) (hd1 : decode bytes pc = .ok (.lcmp, 1)) (hd : decode bytes (pc + 1) = .ok (.ifCond .le o, 3)) (hc : y < x) (hr : Run p l e R s m args below meth c Z own nm bytes maxL ret n0 EE h k n (mkF m q ls st)) (hq : q = pc + 4 := by rfl) : Run p l e R s m args below meth c Z own nm bytes maxL ret n0 EE h k n (mkF m pc ls (.long y :: .long x :: st)) := by
  subst hq; exact Run.step (fun T t hx hb A z => XS.lcmp A hx rfl (hb ▸ hd1) rfl (XS.ifNo (x := lcmpW x y) (rest := st) (g := mkF m (pc + 1) ls (.int (lcmpW x y) :: st)) A hx rfl (hb ▸ hd) rfl ((if0 _ _).trans (tlt ((lw_gt x y).mpr hc)).2.2.2) z)) hr
theorem Run.lle {x y : Int64} {o : Int} (q q' : Nat) (hd1 : decode bytes pc = .ok (.lcmp, 1)) (hd : decode bytes (pc + 1) = .ok (.ifCond .le o, 3)) (hr : ¬ (y < x) → Run p l e R s m args below meth c Z own nm bytes maxL ret n0 EE h k n (mkF m q ls st)) (hr' : y < x → Run p l e R s m args below meth c Z own nm bytes maxL ret n0 EE h k n (mkF m q' ls st)) (ho : 0 ≤ ((pc + 1 : Nat) : Int) + o := by decide) (hq : (((pc + 1 : Nat) : Int) + o).toNat = q := by rfl) (hq' : q' = pc + 4 := by rfl) : Run p l e R s m args below meth c Z own nm bytes maxL ret n0 EE h k n (mkF m pc ls (.long y :: .long x :: st)) := by
  by_cases hc : y < x
  · exact Run.lleN q' hd1 hd hc (hr' hc) hq'
  · exact Run.lleY q hd1 hd hc (hr hc) ho hq
theorem Run.leqY {x y : Int64} {o : Int} (q : Nat) (hd1 : decode bytes pc = .ok (.lcmp, 1)) (hd : decode bytes (pc + 1) = .ok (.ifCond .eq o, 3)) (hc : x = y) (hr : Run p l e R s m args below meth c Z own nm bytes maxL ret n0 EE h k n (mkF m q ls st)) (ho : 0 ≤ ((pc + 1 : Nat) : Int) + o := by decide) (hq : (((pc + 1 : Nat) : Int) + o).toNat = q := by rfl) : Run p l e R s m args below meth c Z own nm bytes maxL ret n0 EE h k n (mkF m pc ls (.long y :: .long x :: st)) :=
  Run.step (fun T t hx hb A z => XS.lcmp A hx rfl (hb ▸ hd1) rfl (XS.ifYes (x := lcmpW x y) (rest := st) (g := mkF m (pc + 1) ls (.int (lcmpW x y) :: st)) A hx rfl rfl (hb ▸ hd) rfl ((if0 _ _).trans (teq ((lw_eq x y).mpr hc)).1) ho hq z)) hr
theorem Run.leqN {x y : Int64} {o : Int} (q : Nat) (hd1 : decode bytes pc = .ok (.lcmp, 1)) (hd : decode bytes (pc + 1) = .ok (.ifCond .eq o, 3)) (hc : ¬ (x = y)) (hr : Run p l e R s m args below meth c Z own nm bytes maxL ret n0 EE h k n (mkF m q ls st)) (hq : q = pc + 4 := by rfl) : Run p l e R s m args below meth c Z own nm bytes maxL ret n0 EE h k n (mkF m pc ls (.long y :: .long x :: st)) := by
  subst hq; exact Run.step (fun T t hx hb A z => XS.lcmp A hx rfl (hb ▸ hd1) rfl (XS.ifNo (x := lcmpW x y) (rest := st) (g := mkF m (pc + 1) ls (.int (lcmpW x y) :: st)) A hx rfl (hb ▸ hd) rfl ((if0 _ _).trans (feq (fun z => hc ((lw_eq x y).mp z))).1) z)) hr
theorem Run.leq {x y : Int64} {o : Int} (q q' : Nat) (hd1 : decode bytes pc = .ok (.lcmp, 1)) (hd : decode bytes (pc + 1) = .ok (.ifCond .eq o, 3)) (hr : x = y → Run p l e R s m args below meth c Z own nm bytes maxL ret n0 EE h k n (mkF m q ls st)) (hr' : ¬ (x = y) → Run p l e R s m args below meth c Z own nm bytes maxL ret n0 EE h k n (mkF m q' ls st)) (ho : 0 ≤ ((pc + 1 : Nat) : Int) + o := by decide) (hq : (((pc + 1 : Nat) : Int) + o).toNat = q := by rfl) (hq' : q' = pc + 4 := by rfl) : Run p l e R s m args below meth c Z own nm bytes maxL ret n0 EE h k n (mkF m pc ls (.long y :: .long x :: st)) := by
  by_cases hc : x = y
  · exact Run.leqY q hd1 hd hc (hr hc) ho hq
  · exact Run.leqN q' hd1 hd hc (hr' hc) hq'
theorem Run.lneY {x y : Int64} {o : Int} (q : Nat) (hd1 : decode bytes pc = .ok (.lcmp, 1)) (hd : decode bytes (pc + 1) = .ok (.ifCond .ne o, 3)) (hc : ¬ (x = y)) (hr : Run p l e R s m args below meth c Z own nm bytes maxL ret n0 EE h k n (mkF m q ls st)) (ho : 0 ≤ ((pc + 1 : Nat) : Int) + o := by decide) (hq : (((pc + 1 : Nat) : Int) + o).toNat = q := by rfl) : Run p l e R s m args below meth c Z own nm bytes maxL ret n0 EE h k n (mkF m pc ls (.long y :: .long x :: st)) :=
  Run.step (fun T t hx hb A z => XS.lcmp A hx rfl (hb ▸ hd1) rfl (XS.ifYes (x := lcmpW x y) (rest := st) (g := mkF m (pc + 1) ls (.int (lcmpW x y) :: st)) A hx rfl rfl (hb ▸ hd) rfl ((if0 _ _).trans (feq (fun z => hc ((lw_eq x y).mp z))).2) ho hq z)) hr
theorem Run.lneN {x y : Int64} {o : Int} (q : Nat) (hd1 : decode bytes pc = .ok (.lcmp, 1)) (hd : decode bytes (pc + 1) = .ok (.ifCond .ne o, 3)) (hc : x = y) (hr : Run p l e R s m args below meth c Z own nm bytes maxL ret n0 EE h k n (mkF m q ls st)) (hq : q = pc + 4 := by rfl) : Run p l e R s m args below meth c Z own nm bytes maxL ret n0 EE h k n (mkF m pc ls (.long y :: .long x :: st)) := by
  subst hq; exact Run.step (fun T t hx hb A z => XS.lcmp A hx rfl (hb ▸ hd1) rfl (XS.ifNo (x := lcmpW x y) (rest := st) (g := mkF m (pc + 1) ls (.int (lcmpW x y) :: st)) A hx rfl (hb ▸ hd) rfl ((if0 _ _).trans (teq ((lw_eq x y).mpr hc)).2) z)) hr
theorem Run.lne {x y : Int64} {o : Int} (q q' : Nat) (hd1 : decode bytes pc = .ok (.lcmp, 1)) (hd : decode bytes (pc + 1) = .ok (.ifCond .ne o, 3)) (hr : ¬ (x = y) → Run p l e R s m args below meth c Z own nm bytes maxL ret n0 EE h k n (mkF m q ls st)) (hr' : x = y → Run p l e R s m args below meth c Z own nm bytes maxL ret n0 EE h k n (mkF m q' ls st)) (ho : 0 ≤ ((pc + 1 : Nat) : Int) + o := by decide) (hq : (((pc + 1 : Nat) : Int) + o).toNat = q := by rfl) (hq' : q' = pc + 4 := by rfl) : Run p l e R s m args below meth c Z own nm bytes maxL ret n0 EE h k n (mkF m pc ls (.long y :: .long x :: st)) := by
  by_cases hc : x = y
  · exact Run.lneN q' hd1 hd hc (hr' hc) hq'
  · exact Run.lneY q hd1 hd hc (hr hc) ho hq
theorem Run.ldcI {i : Nat} {v : Int32} (q : Nat) (w : (Jvm.Cond.constant own i v).before a0 Z = true) (hd : decode bytes pc = .ok (.ldc i, 2)) (hr : Run p l e R s m args below meth c Z own nm bytes maxL ret n0 EE h k n (mkF m q ls (.int v :: st))) (hq : q = pc + 2 := by rfl) : Run p l e R s m args below meth c Z own nm bytes maxL ret n0 EE h k n (mkF m pc ls st) := by
  subst hq; intro C T locs X F E
  obtain ⟨s₂, o, q1, q2⟩ := hr C T locs X F E
  exact ⟨s₂, o, X.ldcInt C.1 C.2.2.2.1 (mvT C.2.2.2.2.2.1 w) (g := mkF m pc ls st) rfl (C.2.1 ▸ hd) _ q1, q2⟩
theorem Run.ldcwI {i : Nat} {v : Int32} (q : Nat) (w : (Jvm.Cond.constant own i v).before a0 Z = true) (hd : decode bytes pc = .ok (.ldc_w i, 3)) (hr : Run p l e R s m args below meth c Z own nm bytes maxL ret n0 EE h k n (mkF m q ls (.int v :: st))) (hq : q = pc + 3 := by rfl) : Run p l e R s m args below meth c Z own nm bytes maxL ret n0 EE h k n (mkF m pc ls st) := by
  subst hq; intro C T locs X F E
  obtain ⟨s₂, o, q1, q2⟩ := hr C T locs X F E
  exact ⟨s₂, o, X.ldcwInt C.1 C.2.2.2.1 (mvT C.2.2.2.2.2.1 w) (g := mkF m pc ls st) rfl (C.2.1 ▸ hd) _ q1, q2⟩
theorem Run.ldcJ {i : Nat} {v : Int64} (q : Nat) (w : (Jvm.Cond.constantLong own i v).before a0 Z = true) (hd : decode bytes pc = .ok (.ldc2_w i, 3)) (hr : Run p l e R s m args below meth c Z own nm bytes maxL ret n0 EE h k n (mkF m q ls (.long v :: st))) (hq : q = pc + 3 := by rfl) : Run p l e R s m args below meth c Z own nm bytes maxL ret n0 EE h k n (mkF m pc ls st) := by
  subst hq; intro C T locs X F E
  obtain ⟨s₂, o, q1, q2⟩ := hr C T locs X F E
  exact ⟨s₂, o, X.ldc2Long C.1 C.2.2.2.1 (mvT C.2.2.2.2.2.1 w) (g := mkF m pc ls st) rfl (C.2.1 ▸ hd) _ q1, q2⟩
theorem own_retI {T : State} {locs : List Loc} {cells slots : Nat} (X : Stand p l e R s m args below meth c T locs cells slots) (hx : p.tables.exec = Jvm.exec) {Ls : Array Slot} {z : Int32} {rest : List Value} (hret : meth.sig.returnType = some .int) (hd : decode c.code pc = .ok (.ireturn, 1)) {fs : List Frame}
    (hl : ∀ (f : JFrame) (acts : List Action), f.method = m → f.locked = none → f.entered = [] → (doReturn e (T.setTop f) acts (some (.int z))).1 = T.setFrames fs) : Steps p.tables e below (T.setTop (mkF m pc Ls (.int z :: rest))) (T.setFrames fs) := by
  have hm' : T.vm.method? m = some meth := X.method'
  have hn : narrow .int (.int z) = .int z := rfl
  show Steps p.tables e below (T.setTop { method := m, pc := pc, locals := Ls, stack := _ :: rest, locked := none }) _
  jvm_step X.here [X.here.top, hx, hd, hm', hret, hn]
  first | (intro acts; rw [hl _ acts rfl rfl rfl]) | rw [hl _ _ rfl rfl rfl]
  exact Steps.refl _
theorem Run.retN {Q : Option Value → Heap → Prop} {K N : Nat} {z : Int32} (t : FieldType) (ht : t = .boolean ∨ t = .byte ∨ t = .char ∨ t = .short) (hd : decode bytes pc = .ok (.ireturn, 1)) (hQ : Q (some (.int (nar t z))) h) (hk : k ≤ K := by decide) (hn : n ≤ N := by decide) : Run p l e R s m args below meth c Z own nm bytes maxL (some t) n0 (EndN s n0 Q K N) h k n (mkF m pc ls (.int z :: st)) := by
  intro C T locs X F E
  obtain ⟨fs, hr, hrun, hended, hW, hsame⟩ := X.leave (v := some (.int (nar t z))) (fun z => by rw [C.2.2.2.2.2.2.1] at z; cases z) C.2.2.2.2.2.2.2.1
  exact ⟨_, _, Jvm.RoadKit.retN X C.1 C.2.2.2.2.2.2.1 ht (C.2.1 ▸ hd) hr, hrun, hended, _, _, rfl, ⟨by show Q _ T.heap; rw [E]; exact hQ, F⟩, ⟨_, rfl⟩, hW, hsame.mono hk hn⟩
theorem Run.retI {Q : Option Value → Heap → Prop} {K N : Nat} {z : Int32} (hd : decode bytes pc = .ok (.ireturn, 1)) (hQ : Q (some (.int z)) h) (hk : k ≤ K := by decide) (hn : n ≤ N := by decide) : Run p l e R s m args below meth c Z own nm bytes maxL (some .int) n0 (EndN s n0 Q K N) h k n (mkF m pc ls (.int z :: st)) := by
  intro C T locs X F E
  obtain ⟨fs, hr, hrun, hended, hW, hsame⟩ := X.leave (v := some (.int z)) (fun z => by rw [C.2.2.2.2.2.2.1] at z; cases z) C.2.2.2.2.2.2.2.1
  exact ⟨_, _, own_retI X C.1 C.2.2.2.2.2.2.1 (C.2.1 ▸ hd) hr, hrun, hended, _, _, rfl, ⟨by show Q _ T.heap; rw [E]; exact hQ, F⟩, ⟨_, rfl⟩, hW, hsame.mono hk hn⟩
theorem Run.retJ {Q : Option Value → Heap → Prop} {K N : Nat} {z : Int64} (hd : decode bytes pc = .ok (.lreturn, 1)) (hQ : Q (some (.long z)) h) (hk : k ≤ K := by decide) (hn : n ≤ N := by decide) : Run p l e R s m args below meth c Z own nm bytes maxL (some .long) n0 (EndN s n0 Q K N) h k n (mkF m pc ls [.long z]) := by
  intro C T locs X F E
  obtain ⟨fs, hr, hrun, hended, hW, hsame⟩ := X.leave (v := some (.long z)) (fun z => by rw [C.2.2.2.2.2.2.1] at z; cases z) C.2.2.2.2.2.2.2.1
  exact ⟨_, _, X.lreturnOut C.1 C.2.2.2.2.2.2.1 (C.2.1 ▸ hd) hr, hrun, hended, _, _, rfl, ⟨by show Q _ T.heap; rw [E]; exact hQ, F⟩, ⟨_, rfl⟩, hW, hsame.mono hk hn⟩
theorem Run.retV {Q : Option Value → Heap → Prop} {K N : Nat}  (hd : decode bytes pc = .ok (.return_, 1)) (hQ : Q (none) h) (hk : k ≤ K := by decide) (hn : n ≤ N := by decide) : Run p l e R s m args below meth c Z own nm bytes maxL none n0 (EndN s n0 Q K N) h k n (mkF m pc ls []) := by
  intro C T locs X F E
  obtain ⟨fs, hr, hrun, hended, hW, hsame⟩ := X.leave (v := none) (fun _ => rfl) C.2.2.2.2.2.2.2.1
  exact ⟨_, _, X.returnOut C.1 C.2.2.2.2.2.2.1 (C.2.1 ▸ hd) hr, hrun, hended, _, _, rfl, ⟨by show Q _ T.heap; rw [E]; exact hQ, F⟩, ⟨_, rfl⟩, hW, hsame.mono hk hn⟩
theorem Run.retA {Q : Option Value → Heap → Prop} {K N : Nat} {v : Value} {t : FieldType} (hv : v.isRef = true) (ht : t.isReference = true) (hd : decode bytes pc = .ok (.areturn, 1)) (hQ : Q (some v) h) (hk : k ≤ K := by decide) (hn : n ≤ N := by decide) : Run p l e R s m args below meth c Z own nm bytes maxL (some t) n0 (EndN s n0 Q K N) h k n (mkF m pc ls [v]) := by
  intro C T locs X F E
  obtain ⟨fs, hr, hrun, hended, hW, hsame⟩ := X.leave (v := some v) (fun z => by rw [C.2.2.2.2.2.2.1] at z; cases z) C.2.2.2.2.2.2.2.1
  exact ⟨_, _, X.areturnOut C.1 hv C.2.2.2.2.2.2.1 ht (C.2.1 ▸ hd) hr, hrun, hended, _, _, rfl, ⟨by show Q _ T.heap; rw [E]; exact hQ, F⟩, ⟨_, rfl⟩, hW, hsame.mono hk hn⟩
theorem Run.ret1 {Q : Option Value → Heap → Prop} {K N : Nat} (hd : decode bytes pc = .ok (.ireturn, 1)) (hQ : Q (some (.int 1)) h) (hk : k ≤ K := by decide) (hn : n ≤ N := by decide) : Run p l e R s m args below meth c Z own nm bytes maxL (some .boolean) n0 (EndN s n0 Q K N) h k n (mkF m pc ls (.int (1 : Int32) :: st)) :=
  Run.retN .boolean (Or.inl rfl) hd (by rw [show nar .boolean 1 = 1 from by decide]; exact hQ) hk hn
theorem Run.ret0 {Q : Option Value → Heap → Prop} {K N : Nat} (hd : decode bytes pc = .ok (.ireturn, 1)) (hQ : Q (some (.int 0)) h) (hk : k ≤ K := by decide) (hn : n ≤ N := by decide) : Run p l e R s m args below meth c Z own nm bytes maxL (some .boolean) n0 (EndN s n0 Q K N) h k n (mkF m pc ls (.int (0 : Int32) :: st)) :=
  Run.retN .boolean (Or.inl rfl) hd (by rw [show nar .boolean 0 = 0 from by decide]; exact hQ) hk hn
theorem Run.retX {Q : Option Value → Heap → Prop} {K N : Nat} {z w : Int32} (t : FieldType) (ht : t = .boolean ∨ t = .byte ∨ t = .char ∨ t = .short) (hd : decode bytes pc = .ok (.ireturn, 1)) (hQ : Q (some (.int w)) h) (hv : nar t z = w := by rfl) (hk : k ≤ K := by decide) (hn : n ≤ N := by decide) : Run p l e R s m args below meth c Z own nm bytes maxL (some t) n0 (EndN s n0 Q K N) h k n (mkF m pc ls (.int z :: st)) :=
  Run.retN t ht hd (by rw [hv]; exact hQ) hk hn
theorem Run.getF {R0 O f d host : String} {i : Nat} {a : Addr} {v : Value} (q : Nat) (w : (Jvm.Cond.fieldLink own i R0 f d).before a0 Z = true ∨ (Jvm.Cond.fieldLinkNest own i R0 f d host).before a0 Z = true) (via : Via Z R0 O f d) (F : Fld Z h a O f d v) (hd : decode bytes pc = .ok (.getfield i, 3)) (hr : Run p l e R s m args below meth c Z own nm bytes maxL ret n0 EE h k n (mkF m q ls (v :: st))) (hq : q = pc + 3 := by rfl) : Run p l e R s m args below meth c Z own nm bytes maxL ret n0 EE h k n (mkF m pc ls (.ref a :: st)) := by
  subst hq; intro C T locs X Fr0 E
  obtain ⟨T', X', e', st'⟩ := Jvm.RoadKit.getF X C.1 C.2.2.2.2.2.1 C.2.2.2.1 (host := host) w via E F (g := mkF m pc ls (.ref a :: st)) rfl rfl (C.2.1 ▸ hd)
  obtain ⟨s₂, o, q1, q2⟩ := hr C T' locs X' Fr0 e'
  exact ⟨s₂, o, st' _ q1, q2⟩
theorem Run.getS {R0 O f d host : String} {i : Nat} {v : Value} (q : Nat) (w : (Jvm.Cond.fieldLink own i R0 f d).before a0 Z = true ∨ (Jvm.Cond.fieldLinkNest own i R0 f d host).before a0 Z = true) (via : Via Z R0 O f d) (F : Sta Z h O f d v) (hd : decode bytes pc = .ok (.getstatic i, 3)) (hr : Run p l e R s m args below meth c Z own nm bytes maxL ret n0 EE h k n (mkF m q ls (v :: st))) (hq : q = pc + 3 := by rfl) : Run p l e R s m args below meth c Z own nm bytes maxL ret n0 EE h k n (mkF m pc ls st) := by
  subst hq; intro C T locs X Fr0 E
  obtain ⟨T', X', e', st'⟩ := Jvm.RoadKit.getS2 X C.1 C.2.2.2.2.2.1 C.2.2.2.1 (host := host) w via E F (g := mkF m pc ls st) rfl (C.2.1 ▸ hd)
  obtain ⟨s₂, o, q1, q2⟩ := hr C T' locs X' Fr0 e'
  exact ⟨s₂, o, st' _ q1, q2⟩
theorem Run.putF {R0 O f d host CL : String} {i kk : Nat} {a : Addr} {v old : Value} {ty : FieldType} (q : Nat) (w : (Jvm.Cond.fieldLink own i R0 f d).before a0 Z = true ∨ (Jvm.Cond.fieldLinkNest own i R0 f d host).before a0 Z = true) (via : Via Z R0 O f d) (F : Fld Z h a O f d old) (EX : Exa Z h a CL) (L : (Jvm.Cond.lays CL O f d).before a0 Z = true ∨ ((Jvm.Cond.laysFinal CL O f d).before a0 Z = true ∧ own = O ∧ nm = "<init>")) (wi : (Jvm.Cond.instantiable CL kk).before a0 Z = true) (hty : parseFieldDescriptor d = some ty) (ga : n0 ≤ a) (hd : decode bytes pc = .ok (.putfield i, 3)) (hr : ∀ h' : Heap, Wr h h' a (Jvm.RoadKit.slotOf Z O f d) v → Run p l e R s m args below meth c Z own nm bytes maxL ret n0 EE h' k n (mkF m q ls st)) (hn : narrow ty v = v := by rfl) (hf : fits ty v = true := by rfl) (hq : q = pc + 3 := by rfl) : Run p l e R s m args below meth c Z own nm bytes maxL ret n0 EE h k n (mkF m pc ls (v :: .ref a :: st)) := by
  subst hq; intro C T locs X Fr0 E
  obtain ⟨T', h', X', e', W, st'⟩ := Jvm.RoadKit.putF X C.1 C.2.2.2.2.2.1 C.2.2.2.1 (host := host) w via E F EX (L.imp id fun z => ⟨z.1, z.2.1, C.2.2.2.2.1.trans z.2.2⟩) wi hty hn hf (g := mkF m pc ls (v :: .ref a :: st)) rfl rfl (C.2.1 ▸ hd)
  obtain ⟨s₂, o, q1, q2⟩ := hr h' W C T' _ X' (Fr.snoc X' Fr0 ga) e'
  exact ⟨s₂, o, st' _ q1, q2⟩
theorem Run.new {CL : String} {i sz : Nat} (q : Nat) (w : (Jvm.Cond.classLink own i CL).before a0 Z = true) (wi : (Jvm.Cond.instantiable CL sz).before a0 Z = true) (wz : (Jvm.Cond.initialized CL).before a0 Z = true) (hd : decode bytes pc = .ok (.new i, 3)) (hr : ∀ (h' : Heap) (a : Addr), a = h.size → n0 ≤ a → Ext h h' → Exa Z h' a CL → (∀ {O f d : String} {ty : FieldType}, Laid Z a0 CL O f d → parseFieldDescriptor d = some ty → Fld Z h' a O f d (defaultValue ty)) → Run p l e R s m args below meth c Z own nm bytes maxL ret n0 EE h' (k + 1) (n + sz) (mkF m q ls (.ref a :: st))) (hc : k + 1 ≤ R.cells := by decide) (hl : n + sz ≤ R.slots := by decide) (hq : q = pc + 3 := by rfl) : Run p l e R s m args below meth c Z own nm bytes maxL ret n0 EE h k n (mkF m pc ls st) := by
  subst hq; refine Run.sz fun hs => ?_; intro C T locs X Fr0 E
  obtain ⟨T', h', X', e', EX, A, D, -, st'⟩ := newO X C.1 C.2.2.2.2.2.1 C.2.2.2.1 w wi wz E (g := mkF m pc ls st) rfl (C.2.1 ▸ hd) hc hl
  obtain ⟨s₂, o, q1, q2⟩ := hr h' h.size rfl hs EX A (fun L t => D L t) C T' locs X' Fr0 e'
  exact ⟨s₂, o, st' _ q1, q2⟩
theorem Run.initO {i : Nat} {a : Addr} (q W : Nat) (w1 : (Jvm.Cond.methodLink own i Lib.objectInit).before a0 Z = true) (w2 : (Jvm.Cond.instanceMethod Lib.objectInit).before a0 Z = true) (w3 : (Jvm.Cond.code Lib.objectInit Jvm.Pilot.@@N@@.object_method_1_code 1 none).before a0 Z = true) (hd : decode bytes pc = .ok (.invokespecial i, 3)) (hr : Run p l e R s m args below meth c Z own nm bytes maxL ret n0 EE h k n (mkF m q ls st)) (hsz : ls.size = maxL := by rfl) (hf : 1 ≤ R.frames := by decide) (hW : (st.map fun v => v.category).sum ≤ W := by first | exact Nat.le_of_eq rfl | decide) (hl : W + 12 ≤ R.locals := by decide) (hq : q = pc + 3 := by rfl) : Run p l e R s m args below meth c Z own nm bytes maxL ret n0 EE h k n (mkF m pc ls (.ref a :: st)) := by
  subst hq; intro C T locs X Fr0 E
  obtain ⟨T', X', e', st'⟩ := Jvm.RoadKit.initO X C.1 C.2.2.2.2.2.1 C.2.2.2.1 w1 w2 w3 E (g := mkF m pc ls (.ref a :: st)) rfl (by rw [C.2.2.1]; exact hsz) rfl (C.2.1 ▸ hd) hf (W := W) (by show 2 * 0 + _ ≤ _; omega) hl
  obtain ⟨s₂, o, q1, q2⟩ := hr C T' locs X' Fr0 e'
  exact ⟨s₂, o, st' _ q1, q2⟩
theorem Run.callS {y : MethodName} {bytes' : ByteArray} {maxL' : Nat} {ret' : Option FieldType} {rm : Room} {Q' : Option Value → Heap → Prop} {i : Nat} {argsL : List Value} (q W : Nat) (P : Pays l Z y bytes' maxL' ret' rm argsL.toArray h n0 Q') (w1 : (Jvm.Cond.methodLink own i y).before a0 Z = true) (w2 : (Jvm.Cond.static y).before a0 Z = true) (w3 : (Jvm.Cond.initialized y.cls).before a0 Z = true) (w4 : (Jvm.Cond.code y bytes' maxL' ret').before a0 Z = true) {sig : MethodDescriptor} (hsig : parseMethodDescriptor y.desc = some sig) (hd : decode bytes pc = .ok (.invokestatic i, 3)) {stk : List Value} (hr : ∀ (v : Option Value) (h' : Heap), Q' v h' → Run p l e R s m args below meth c Z own nm bytes maxL ret n0 EE h' (k + rm.cells) (n + rm.slots) (mkF m q ls (v.toList ++ st))) (hlen : argsL.length = sig.parameters.length := by rfl) (hstk : stk = argsL.reverse ++ st := by rfl) (hsz : ls.size = maxL := by rfl) (hf : rm.frames + 1 ≤ R.frames := by decide) (hW : (st.map fun v => v.category).sum ≤ W := by first | exact Nat.le_of_eq rfl | decide) (hl : W + (maxL' + 11) + rm.locals ≤ R.locals := by decide) (hc : k + rm.cells ≤ R.cells := by decide) (hs : n + rm.slots ≤ R.slots := by decide) (hy : y.cls ≠ "java/lang/invoke/MethodHandle" ∧ y.cls ≠ "java/lang/invoke/VarHandle" := by decide) (hq : q = pc + 3 := by rfl) : Run p l e R s m args below meth c Z own nm bytes maxL ret n0 EE h k n (mkF m pc ls stk) := by
  subst hq; intro C T locs X Fr0 E
  have hZ := C.2.2.2.2.2.1
  obtain ⟨v', _, ⟨T', L', k', n'⟩, -, X', ⟨Lc', hQ', l', y', z'⟩, st'⟩ := Jvm.LawKit.callS X C.1 (y := y) C.2.2.2.1 (mvT hZ w1) (mvT hZ w2) (mvT hZ w3) (mvT hZ w4) hy (backOf (W := W) (Q := fun v h L => Q' v h ∧ Fr n0 L) (P []) hZ w4 w3 hf hl) (g := mkF m pc ls stk) rfl (by rw [C.2.2.1]; exact hsz) (argsL := argsL) (rest := st) (lenOf hsig hlen) hstk (by show 2 * 0 + _ ≤ _; omega) (C.2.1 ▸ hd) (fun _ _ => ⟨rfl, E, hc, hs⟩)
  dsimp only [Pt.U, Pt.locs, Pt.cells, Pt.slots] at X' l' y' z' st' hQ'
  subst l' y' z'
  obtain ⟨hQ1, N'⟩ := hQ'
  obtain ⟨s₂, o, q1, q2⟩ := hr v' _ hQ1 C T' _ X' (Fr.app Fr0 N') rfl
  exact ⟨s₂, o, st' _ q1, q2⟩
theorem Run.callC {y : MethodName} {bytes' : ByteArray} {maxL' : Nat} {rm : Room} {Q' : Option Value → Heap → Prop} {i : Nat} {a : Addr} {argsL : List Value} (q W : Nat) (P : Pays l Z y bytes' maxL' none rm (.ref a :: argsL).toArray h n0 Q') (w1 : (Jvm.Cond.methodLink own i y).before a0 Z = true) (w2 : (Jvm.Cond.instanceMethod y).before a0 Z = true) (w3 : (Jvm.Cond.initialized y.cls).before a0 Z = true) (w4 : (Jvm.Cond.code y bytes' maxL' none).before a0 Z = true) {sig : MethodDescriptor} (hsig : parseMethodDescriptor y.desc = some sig) (hd : decode bytes pc = .ok (.invokespecial i, 3)) {stk : List Value} (hr : ∀ (v : Option Value) (h' : Heap), Q' v h' → Run p l e R s m args below meth c Z own nm bytes maxL ret n0 EE h' (k + rm.cells) (n + rm.slots) (mkF m q ls (v.toList ++ st))) (hy1 : y.name = "<init>" := by rfl) (hlen : argsL.length = sig.parameters.length := by rfl) (hstk : stk = argsL.reverse ++ .ref a :: st := by rfl) (hsz : ls.size = maxL := by rfl) (hf : rm.frames + 1 ≤ R.frames := by decide) (hW : (st.map fun v => v.category).sum ≤ W := by first | exact Nat.le_of_eq rfl | decide) (hl : W + (maxL' + 11) + rm.locals ≤ R.locals := by decide) (hc : k + rm.cells ≤ R.cells := by decide) (hs : n + rm.slots ≤ R.slots := by decide) (hy : y.cls ≠ "java/lang/invoke/MethodHandle" ∧ y.cls ≠ "java/lang/invoke/VarHandle" := by decide) (hq : q = pc + 3 := by rfl) : Run p l e R s m args below meth c Z own nm bytes maxL ret n0 EE h k n (mkF m pc ls stk) := by
  subst hq; intro C T locs X Fr0 E
  have hZ := C.2.2.2.2.2.1
  obtain ⟨v', _, ⟨T', L', k', n'⟩, -, X', ⟨Lc', hQ', l', y', z'⟩, st'⟩ := X.specialBack C.1 (y := y) hy1 C.2.2.2.1 (mvT hZ w1) (mvT hZ w2) (mvT hZ w4) hy (backOf (W := W) (Q := fun v h L => Q' v h ∧ Fr n0 L) (P []) hZ w4 w3 hf hl) (g := mkF m pc ls stk) rfl (by rw [C.2.2.1]; exact hsz) (Steps.refl _) (a := a) (argsL := argsL) (rest := st) (lenOf hsig hlen) hstk (by show 2 * 0 + _ ≤ _; omega) (C.2.1 ▸ hd) (fun _ _ => ⟨rfl, E, hc, hs⟩)
  dsimp only [Pt.U, Pt.locs, Pt.cells, Pt.slots] at X' l' y' z' st' hQ'
  subst l' y' z'
  obtain ⟨hQ1, N'⟩ := hQ'
  obtain ⟨s₂, o, q1, q2⟩ := hr v' _ hQ1 C T' _ X' (Fr.app Fr0 N') rfl
  exact ⟨s₂, o, st'.trans q1, q2⟩
theorem Run.callV {y : MethodName} {bytes' : ByteArray} {maxL' : Nat} {ret' : Option FieldType} {rm : Room} {Q' : Option Value → Heap → Prop} {i : Nat} {CL : String} {a : Addr} {argsL : List Value} (q W : Nat) (P : Pays l Z y bytes' maxL' ret' rm (.ref a :: argsL).toArray h n0 Q') (EX : Exa Z h a CL) (w1 : (Jvm.Cond.methodLink own i y).before a0 Z = true) (w2 : (Jvm.Cond.declares y).before a0 Z = true) (w5 : (Jvm.Cond.selects CL y y).before a0 Z = true) (w6 : (Jvm.Cond.instanceMethod y).before a0 Z = true) (w3 : (Jvm.Cond.initialized y.cls).before a0 Z = true) (w4 : (Jvm.Cond.code y bytes' maxL' ret').before a0 Z = true) {sig : MethodDescriptor} (hsig : parseMethodDescriptor y.desc = some sig) (hd : decode bytes pc = .ok (.invokevirtual i, 3)) {stk : List Value} (hr : ∀ (v : Option Value) (h' : Heap), Q' v h' → Run p l e R s m args below meth c Z own nm bytes maxL ret n0 EE h' (k + rm.cells) (n + rm.slots) (mkF m q ls (v.toList ++ st))) (hcl : CL = y.cls := by rfl) (hlen : argsL.length = sig.parameters.length := by rfl) (hstk : stk = argsL.reverse ++ .ref a :: st := by rfl) (hsz : ls.size = maxL := by rfl) (hf : rm.frames + 1 ≤ R.frames := by decide) (hW : (st.map fun v => v.category).sum ≤ W := by first | exact Nat.le_of_eq rfl | decide) (hl : W + (maxL' + 11) + rm.locals ≤ R.locals := by decide) (hc : k + rm.cells ≤ R.cells := by decide) (hs : n + rm.slots ≤ R.slots := by decide) (hy : y.cls ≠ "java/lang/invoke/MethodHandle" ∧ y.cls ≠ "java/lang/invoke/VarHandle" := by decide) (hq : q = pc + 3 := by rfl) : Run p l e R s m args below meth c Z own nm bytes maxL ret n0 EE h k n (mkF m pc ls stk) := by
  subst hq; subst hcl; intro C T locs X Fr0 E
  have hZ := C.2.2.2.2.2.1
  obtain ⟨cq, kq, qa, qb, qc⟩ := isOf hZ E EX
  obtain ⟨v', _, ⟨T', L', k', n'⟩, -, X', ⟨Lc', hQ', l', y', z'⟩, st'⟩ := X.virtualBack C.1 (y := y) (z := y) C.2.2.2.1 (mvT hZ w1) (mvT hZ w2) (notFace_of_selects (args := #[]) (mvT hZ w5)) (mvT hZ w5) (mvT hZ w6) hy (backOf (W := W) (Q := fun v h L => Q' v h ∧ Fr n0 L) (P []) hZ w4 w3 hf hl) qa qc (g := mkF m pc ls stk) rfl (by rw [C.2.2.1]; exact hsz) (Steps.refl _) (argsL := argsL) (rest := st) (lenOf hsig hlen) hstk (by show 2 * 0 + _ ≤ _; omega) (C.2.1 ▸ hd) (fun _ _ => ⟨rfl, E, hc, hs⟩)
  dsimp only [Pt.U, Pt.locs, Pt.cells, Pt.slots] at X' l' y' z' st' hQ'
  subst l' y' z'
  obtain ⟨hQ1, N'⟩ := hQ'
  obtain ⟨s₂, o, q1, q2⟩ := hr v' _ hQ1 C T' _ X' (Fr.app Fr0 N') rfl
  exact ⟨s₂, o, st'.trans q1, q2⟩
/-- an array of int-like values: n places, place i holds f i -/
def AI (Z : State) (h : Heap) (a : Addr) (ty : FieldType) (n : Nat) (f : Nat → Int32) : Prop := n < 2 ^ 31 ∧ ∃ cl : Cell, Arr Z h a cl ty ∧ cl.slots.size = n ∧ ∀ i, i < n → cl.slots[i]? = some (.int (f i))
def AJ (Z : State) (h : Heap) (a : Addr) (n : Nat) (f : Nat → Int64) : Prop := n < 2 ^ 31 ∧ ∃ cl : Cell, Arr Z h a cl .long ∧ cl.slots.size = n ∧ ∀ i, i < n → cl.slots[i]? = some (.long (f i))
def oupd {α : Type} (f : Nat → α) (i : Nat) (v : α) : Nat → α := fun j => if j = i then v else f j
theorem oupd_same {α : Type} (f : Nat → α) (i : Nat) (v : α) : oupd f i v i = v := if_pos rfl
theorem oupd_other {α : Type} (f : Nat → α) {i j : Nat} (v : α) (h : j ≠ i) : oupd f i v j = f j := if_neg h

theorem AI.lt {a : Addr} {ty : FieldType} {nn : Nat} {f : Nat → Int32} (F : AI Z h a ty nn f) : a < h.size := by obtain ⟨_, c, A, -⟩ := F; exact A.lt
theorem AI.ext {a : Addr} {h' : Heap} {ty : FieldType} {nn : Nat} {f : Nat → Int32} (F : AI Z h a ty nn f) (E : Ext h h') : AI Z h' a ty nn f := by obtain ⟨z, c, A, r⟩ := F; exact ⟨z, c, A.ext E, r⟩
theorem AI.other {a b : Addr} {h' : Heap} {sl : Nat} {v : Value} {ty : FieldType} {nn : Nat} {f : Nat → Int32} (F : AI Z h a ty nn f) (W : Wr h h' b sl v) (q : a ≠ b) : AI Z h' a ty nn f := by obtain ⟨z, c, A, r⟩ := F; exact ⟨z, c, A.other W q, r⟩
theorem AI.keep {a : Addr} {h' : Heap} {ws : List Addr} {ty : FieldType} {nn : Nat} {f : Nat → Int32} (F : AI Z h a ty nn f) (KP : Keep h h' ws) (q : a ∉ ws) : AI Z h' a ty nn f := by obtain ⟨z, c, A, r⟩ := F; exact ⟨z, c, ⟨KP.2.1 a c A.1 q, A.2⟩, r⟩
theorem AI.set {a : Addr} {h' : Heap} {ty : FieldType} {nn : Nat} {f : Nat → Int32} {i : Nat} {v : Int32} (F : AI Z h a ty nn f) (hi : i < nn) (W : Wr h h' a i (.int v)) : AI Z h' a ty nn (oupd f i v) := by
  obtain ⟨z, c, A, r1, r2⟩ := F
  refine ⟨z, c.setSlot i (.int v), A.same W, by rw [sz_set, r1], fun j hj => ?_⟩
  by_cases q : j = i
  · subst q; rw [oupd_same]; simp [Cell.setSlot, Array.getElem?_setIfInBounds, r1, hi]
  · rw [oupd_other _ _ q, ← r2 j hj]; simp [Cell.setSlot, Array.getElem?_setIfInBounds, Ne.symm q]
theorem AI.cong {a : Addr} {ty : FieldType} {nn : Nat} {f : Nat → Int32} {f' : Nat → Int32} (F : AI Z h a ty nn f) (q : ∀ i, i < nn → f i = f' i) : AI Z h a ty nn f' := by
  obtain ⟨z, c, A, r1, r2⟩ := F; exact ⟨z, c, A, r1, fun i hi => by rw [← q i hi]; exact r2 i hi⟩
theorem AJ.lt {a : Addr} {nn : Nat} {f : Nat → Int64} (F : AJ Z h a nn f) : a < h.size := by obtain ⟨_, c, A, -⟩ := F; exact A.lt
theorem AJ.ext {a : Addr} {h' : Heap} {nn : Nat} {f : Nat → Int64} (F : AJ Z h a nn f) (E : Ext h h') : AJ Z h' a nn f := by obtain ⟨z, c, A, r⟩ := F; exact ⟨z, c, A.ext E, r⟩
theorem AJ.other {a b : Addr} {h' : Heap} {sl : Nat} {v : Value} {nn : Nat} {f : Nat → Int64} (F : AJ Z h a nn f) (W : Wr h h' b sl v) (q : a ≠ b) : AJ Z h' a nn f := by obtain ⟨z, c, A, r⟩ := F; exact ⟨z, c, A.other W q, r⟩
theorem AJ.keep {a : Addr} {h' : Heap} {ws : List Addr} {nn : Nat} {f : Nat → Int64} (F : AJ Z h a nn f) (KP : Keep h h' ws) (q : a ∉ ws) : AJ Z h' a nn f := by obtain ⟨z, c, A, r⟩ := F; exact ⟨z, c, ⟨KP.2.1 a c A.1 q, A.2⟩, r⟩
theorem AJ.set {a : Addr} {h' : Heap} {nn : Nat} {f : Nat → Int64} {i : Nat} {v : Int64} (F : AJ Z h a nn f) (hi : i < nn) (W : Wr h h' a i (.long v)) : AJ Z h' a nn (oupd f i v) := by
  obtain ⟨z, c, A, r1, r2⟩ := F
  refine ⟨z, c.setSlot i (.long v), A.same W, by rw [sz_set, r1], fun j hj => ?_⟩
  by_cases q : j = i
  · subst q; rw [oupd_same]; simp [Cell.setSlot, Array.getElem?_setIfInBounds, r1, hi]
  · rw [oupd_other _ _ q, ← r2 j hj]; simp [Cell.setSlot, Array.getElem?_setIfInBounds, Ne.symm q]
theorem AJ.cong {a : Addr} {nn : Nat} {f : Nat → Int64} {f' : Nat → Int64} (F : AJ Z h a nn f) (q : ∀ i, i < nn → f i = f' i) : AJ Z h a nn f' := by
  obtain ⟨z, c, A, r1, r2⟩ := F; exact ⟨z, c, A, r1, fun i hi => by rw [← q i hi]; exact r2 i hi⟩
theorem inb {cl : Cell} {j : Int32} {nn : Nat} (S : cl.slots.size = nn) (hj : 0 ≤ j.toInt ∧ j.toInt < nn) : ¬ (j < 0 ∨ cl.slots.size ≤ j.toNatClampNeg) := by
  have h1 : (j.toNatClampNeg : Int) = j.toInt := by rw [show j.toNatClampNeg = j.toInt.toNat from rfl]; omega
  rw [Int32.lt_iff_toInt_lt, S]; simp only [show (0 : Int32).toInt = 0 from by decide]; omega
theorem inn {j : Int32} {nn : Nat} (hj : 0 ≤ j.toInt ∧ j.toInt < nn) : j.toNatClampNeg < nn := by
  rw [show j.toNatClampNeg = j.toInt.toNat from rfl]; omega

theorem Run.iaload {a : Addr} {nn : Nat} {f : Nat → Int32} {j : Int32} (w : Int32) (q : Nat) (F : AI Z h a .int nn f) (hj : 0 ≤ j.toInt ∧ j.toInt < nn) (hd : decode bytes pc = .ok (.iaload, 1)) (hr : Run p l e R s m args below meth c Z own nm bytes maxL ret n0 EE h k n (mkF m q ls (.int w :: st))) (hv : f j.toNatClampNeg = w := by rfl) (hq : q = pc + 1 := by rfl) : Run p l e R s m args below meth c Z own nm bytes maxL ret n0 EE h k n (mkF m pc ls (.int j :: .ref a :: st)) := by
  subst hq hv; intro C T locs X Fr0 E
  obtain ⟨-, cl, A, r1, r2⟩ := F
  obtain ⟨s₂, o, q1, q2⟩ := hr C T locs X Fr0 E
  exact ⟨s₂, o, X.iaload C.1 (j := j) (by rw [E]; exact A.1) (State.isArrayOf_alike C.2.2.2.2.2.1.alike A.2.1) A.2.2 (inb r1 hj) (r2 _ (inn hj)) (g := mkF m pc ls (.int j :: .ref a :: st)) rfl rfl (C.2.1 ▸ hd) _ q1, q2⟩
theorem Run.baload {a : Addr} {nn : Nat} {f : Nat → Int32} {j : Int32} (w : Int32) (q : Nat) (F : AI Z h a .byte nn f) (hj : 0 ≤ j.toInt ∧ j.toInt < nn) (hd : decode bytes pc = .ok (.baload, 1)) (hr : Run p l e R s m args below meth c Z own nm bytes maxL ret n0 EE h k n (mkF m q ls (.int w :: st))) (hv : f j.toNatClampNeg = w := by rfl) (hq : q = pc + 1 := by rfl) : Run p l e R s m args below meth c Z own nm bytes maxL ret n0 EE h k n (mkF m pc ls (.int j :: .ref a :: st)) := by
  subst hq hv; intro C T locs X Fr0 E
  obtain ⟨-, cl, A, r1, r2⟩ := F
  obtain ⟨s₂, o, q1, q2⟩ := hr C T locs X Fr0 E
  exact ⟨s₂, o, X.baloadBytes C.1 (j := j) (by rw [E]; exact A.1) (State.isArrayOf_alike C.2.2.2.2.2.1.alike A.2.1) A.2.2 (inb r1 hj) (r2 _ (inn hj)) (g := mkF m pc ls (.int j :: .ref a :: st)) rfl rfl (C.2.1 ▸ hd) _ q1, q2⟩
theorem Run.caload {a : Addr} {nn : Nat} {f : Nat → Int32} {j : Int32} (w : Int32) (q : Nat) (F : AI Z h a .char nn f) (hj : 0 ≤ j.toInt ∧ j.toInt < nn) (hd : decode bytes pc = .ok (.caload, 1)) (hr : Run p l e R s m args below meth c Z own nm bytes maxL ret n0 EE h k n (mkF m q ls (.int w :: st))) (hv : f j.toNatClampNeg = w := by rfl) (hq : q = pc + 1 := by rfl) : Run p l e R s m args below meth c Z own nm bytes maxL ret n0 EE h k n (mkF m pc ls (.int j :: .ref a :: st)) := by
  subst hq hv; intro C T locs X Fr0 E
  obtain ⟨-, cl, A, r1, r2⟩ := F
  obtain ⟨s₂, o, q1, q2⟩ := hr C T locs X Fr0 E
  exact ⟨s₂, o, X.caload C.1 (j := j) (by rw [E]; exact A.1) (State.isArrayOf_alike C.2.2.2.2.2.1.alike A.2.1) A.2.2 (inb r1 hj) (r2 _ (inn hj)) (g := mkF m pc ls (.int j :: .ref a :: st)) rfl rfl (C.2.1 ▸ hd) _ q1, q2⟩
theorem Run.saload {a : Addr} {nn : Nat} {f : Nat → Int32} {j : Int32} (w : Int32) (q : Nat) (F : AI Z h a .short nn f) (hj : 0 ≤ j.toInt ∧ j.toInt < nn) (hd : decode bytes pc = .ok (.saload, 1)) (hr : Run p l e R s m args below meth c Z own nm bytes maxL ret n0 EE h k n (mkF m q ls (.int w :: st))) (hv : f j.toNatClampNeg = w := by rfl) (hq : q = pc + 1 := by rfl) : Run p l e R s m args below meth c Z own nm bytes maxL ret n0 EE h k n (mkF m pc ls (.int j :: .ref a :: st)) := by
  subst hq hv; intro C T locs X Fr0 E
  obtain ⟨-, cl, A, r1, r2⟩ := F
  obtain ⟨s₂, o, q1, q2⟩ := hr C T locs X Fr0 E
  exact ⟨s₂, o, X.saload C.1 (j := j) (by rw [E]; exact A.1) (State.isArrayOf_alike C.2.2.2.2.2.1.alike A.2.1) A.2.2 (inb r1 hj) (r2 _ (inn hj)) (g := mkF m pc ls (.int j :: .ref a :: st)) rfl rfl (C.2.1 ▸ hd) _ q1, q2⟩
theorem Run.laload {a : Addr} {nn : Nat} {f : Nat → Int64} {j : Int32} (w : Int64) (q : Nat) (F : AJ Z h a nn f) (hj : 0 ≤ j.toInt ∧ j.toInt < nn) (hd : decode bytes pc = .ok (.laload, 1)) (hr : Run p l e R s m args below meth c Z own nm bytes maxL ret n0 EE h k n (mkF m q ls (.long w :: st))) (hv : f j.toNatClampNeg = w := by rfl) (hq : q = pc + 1 := by rfl) : Run p l e R s m args below meth c Z own nm bytes maxL ret n0 EE h k n (mkF m pc ls (.int j :: .ref a :: st)) := by
  subst hq hv; intro C T locs X Fr0 E
  obtain ⟨-, cl, A, r1, r2⟩ := F
  obtain ⟨s₂, o, q1, q2⟩ := hr C T locs X Fr0 E
  exact ⟨s₂, o, X.laload C.1 (j := j) (by rw [E]; exact A.1) (State.isArrayOf_alike C.2.2.2.2.2.1.alike A.2.1) A.2.2 (inb r1 hj) (r2 _ (inn hj)) (g := mkF m pc ls (.int j :: .ref a :: st)) rfl rfl (C.2.1 ▸ hd) _ q1, q2⟩
theorem Run.iastore {a : Addr} {nn : Nat} {f : Nat → Int32} {j v : Int32} (w : Int32) (q : Nat) (F : AI Z h a .int nn f) (hj : 0 ≤ j.toInt ∧ j.toInt < nn) (ga : n0 ≤ a) (hd : decode bytes pc = .ok (.iastore, 1)) (hr : ∀ h' : Heap, Wr h h' a j.toNatClampNeg (.int w) → AI Z h' a .int nn (oupd f j.toNatClampNeg w) → Run p l e R s m args below meth c Z own nm bytes maxL ret n0 EE h' k n (mkF m q ls st)) (hv : v = w := by rfl) (hq : q = pc + 1 := by rfl) : Run p l e R s m args below meth c Z own nm bytes maxL ret n0 EE h k n (mkF m pc ls (.int v :: .int j :: .ref a :: st)) := by
  subst hq hv; intro C T locs X Fr0 E
  have F0 := F
  obtain ⟨-, cl, A, r1, r2⟩ := F
  obtain ⟨T', h', X', e', W, st'⟩ := stI X C.1 C.2.2.2.2.2.1 E A (j := j) (x := v) (inb r1 hj) (g := mkF m pc ls (.int v :: .int j :: .ref a :: st)) rfl rfl (C.2.1 ▸ hd)
  obtain ⟨s₂, o, q1, q2⟩ := hr h' W (F0.set (inn hj) W) C T' _ X' (Fr.snoc X' Fr0 ga) e'
  exact ⟨s₂, o, st' _ q1, q2⟩
theorem Run.bastore {a : Addr} {nn : Nat} {f : Nat → Int32} {j v : Int32} (w : Int32) (q : Nat) (F : AI Z h a .byte nn f) (hj : 0 ≤ j.toInt ∧ j.toInt < nn) (ga : n0 ≤ a) (hd : decode bytes pc = .ok (.bastore, 1)) (hr : ∀ h' : Heap, Wr h h' a j.toNatClampNeg (.int w) → AI Z h' a .byte nn (oupd f j.toNatClampNeg w) → Run p l e R s m args below meth c Z own nm bytes maxL ret n0 EE h' k n (mkF m q ls st)) (hv : (nar .byte v) = w := by rfl) (hq : q = pc + 1 := by rfl) : Run p l e R s m args below meth c Z own nm bytes maxL ret n0 EE h k n (mkF m pc ls (.int v :: .int j :: .ref a :: st)) := by
  subst hq hv; intro C T locs X Fr0 E
  have F0 := F
  obtain ⟨-, cl, A, r1, r2⟩ := F
  obtain ⟨T', h', X', e', W, st'⟩ := stB X C.1 C.2.2.2.2.2.1 E A (j := j) (x := v) (inb r1 hj) (g := mkF m pc ls (.int v :: .int j :: .ref a :: st)) rfl rfl (C.2.1 ▸ hd)
  obtain ⟨s₂, o, q1, q2⟩ := hr h' W (F0.set (inn hj) W) C T' _ X' (Fr.snoc X' Fr0 ga) e'
  exact ⟨s₂, o, st' _ q1, q2⟩
theorem Run.castore {a : Addr} {nn : Nat} {f : Nat → Int32} {j v : Int32} (w : Int32) (q : Nat) (F : AI Z h a .char nn f) (hj : 0 ≤ j.toInt ∧ j.toInt < nn) (ga : n0 ≤ a) (hd : decode bytes pc = .ok (.castore, 1)) (hr : ∀ h' : Heap, Wr h h' a j.toNatClampNeg (.int w) → AI Z h' a .char nn (oupd f j.toNatClampNeg w) → Run p l e R s m args below meth c Z own nm bytes maxL ret n0 EE h' k n (mkF m q ls st)) (hv : (nar .char v) = w := by rfl) (hq : q = pc + 1 := by rfl) : Run p l e R s m args below meth c Z own nm bytes maxL ret n0 EE h k n (mkF m pc ls (.int v :: .int j :: .ref a :: st)) := by
  subst hq hv; intro C T locs X Fr0 E
  have F0 := F
  obtain ⟨-, cl, A, r1, r2⟩ := F
  obtain ⟨T', h', X', e', W, st'⟩ := stC X C.1 C.2.2.2.2.2.1 E A (j := j) (x := v) (inb r1 hj) (g := mkF m pc ls (.int v :: .int j :: .ref a :: st)) rfl rfl (C.2.1 ▸ hd)
  obtain ⟨s₂, o, q1, q2⟩ := hr h' W (F0.set (inn hj) W) C T' _ X' (Fr.snoc X' Fr0 ga) e'
  exact ⟨s₂, o, st' _ q1, q2⟩
theorem Run.lastore {a : Addr} {nn : Nat} {f : Nat → Int64} {j : Int32} {v : Int64} (q : Nat) (F : AJ Z h a nn f) (hj : 0 ≤ j.toInt ∧ j.toInt < nn) (ga : n0 ≤ a) (hd : decode bytes pc = .ok (.lastore, 1)) (hr : ∀ h' : Heap, Wr h h' a j.toNatClampNeg (.long v) → AJ Z h' a nn (oupd f j.toNatClampNeg v) → Run p l e R s m args below meth c Z own nm bytes maxL ret n0 EE h' k n (mkF m q ls st)) (hq : q = pc + 1 := by rfl) : Run p l e R s m args below meth c Z own nm bytes maxL ret n0 EE h k n (mkF m pc ls (.long v :: .int j :: .ref a :: st)) := by
  subst hq; intro C T locs X Fr0 E
  have F0 := F
  obtain ⟨-, cl, A, r1, r2⟩ := F
  obtain ⟨T', h', X', e', W, st'⟩ := stJ X C.1 C.2.2.2.2.2.1 E A (j := j) (x := v) (inb r1 hj) (g := mkF m pc ls (.long v :: .int j :: .ref a :: st)) rfl rfl (C.2.1 ▸ hd)
  obtain ⟨s₂, o, q1, q2⟩ := hr h' W (F0.set (inn hj) W) C T' _ X' (Fr.snoc X' Fr0 ga) e'
  exact ⟨s₂, o, st' _ q1, q2⟩
theorem Run.lenI {a : Addr} {nn : Nat} {ty : FieldType} {f : Nat → Int32} (w : Int32) (q : Nat) (F : AI Z h a ty nn f) (hd : decode bytes pc = .ok (.arraylength, 1)) (hr : Run p l e R s m args below meth c Z own nm bytes maxL ret n0 EE h k n (mkF m q ls (.int w :: st))) (hv : Int32.ofNat nn = w := by first | rfl | decide) (hq : q = pc + 1 := by rfl) : Run p l e R s m args below meth c Z own nm bytes maxL ret n0 EE h k n (mkF m pc ls (.ref a :: st)) := by
  subst hq; intro C T locs X Fr0 E
  obtain ⟨-, cl, A, r1, r2⟩ := F
  obtain ⟨s₂, o, q1, q2⟩ := hr C T locs X Fr0 E
  have hz : cl.slots.size.toInt32 = w := by rw [r1]; exact hv
  exact ⟨s₂, o, X.arraylength C.1 (by rw [E]; exact A.1) (State.isArrayOf_alike C.2.2.2.2.2.1.alike A.2.1) (g := mkF m pc ls (.ref a :: st)) rfl rfl (C.2.1 ▸ hd) _ (by rw [hz]; exact q1), q2⟩
theorem Run.lenJ {a : Addr} {nn : Nat} {f : Nat → Int64} (w : Int32) (q : Nat) (F : AJ Z h a nn f) (hd : decode bytes pc = .ok (.arraylength, 1)) (hr : Run p l e R s m args below meth c Z own nm bytes maxL ret n0 EE h k n (mkF m q ls (.int w :: st))) (hv : Int32.ofNat nn = w := by first | rfl | decide) (hq : q = pc + 1 := by rfl) : Run p l e R s m args below meth c Z own nm bytes maxL ret n0 EE h k n (mkF m pc ls (.ref a :: st)) := by
  subst hq; intro C T locs X Fr0 E
  obtain ⟨-, cl, A, r1, r2⟩ := F
  obtain ⟨s₂, o, q1, q2⟩ := hr C T locs X Fr0 E
  have hz : cl.slots.size.toInt32 = w := by rw [r1]; exact hv
  exact ⟨s₂, o, X.arraylength C.1 (by rw [E]; exact A.1) (State.isArrayOf_alike C.2.2.2.2.2.1.alike A.2.1) (g := mkF m pc ls (.ref a :: st)) rfl rfl (C.2.1 ▸ hd) _ (by rw [hz]; exact q1), q2⟩
theorem Run.new_int {z : Int32} (q nn cap : Nat) (w : (Jvm.Cond.arrayClass .int).before a0 Z = true) (hz : z.toInt = nn) (hd : decode bytes pc = .ok (.newarray .int, 2)) (hr : ∀ (h' : Heap) (a : Addr), a = h.size → n0 ≤ a → Ext h h' → AI Z h' a .int nn (fun _ => 0) → Run p l e R s m args below meth c Z own nm bytes maxL ret n0 EE h' (k + 1) (n + cap) (mkF m q ls (.ref a :: st))) (hcap : nn ≤ cap := by decide) (hb : cap * 8 ≤ 536870912 := by decide) (hc : k + 1 ≤ R.cells := by decide) (hl : n + cap ≤ R.slots := by decide) (hq : q = pc + 2 := by rfl) : Run p l e R s m args below meth c Z own nm bytes maxL ret n0 EE h k n (mkF m pc ls (.int z :: st)) := by
  subst hq; refine Run.sz fun hs => ?_; intro C T locs X Fr0 E
  have hz2 : z.toNatClampNeg = nn := by rw [show z.toNatClampNeg = z.toInt.toNat from rfl, hz]; rfl
  have hneg : ¬ z < 0 := by rw [Int32.lt_iff_toInt_lt, show (0 : Int32).toInt = 0 from by decide]; omega
  have hd' : decode c.code pc = .ok (.newarray .int, 2) := C.2.1 ▸ hd
  have hcap' : z.toNatClampNeg ≤ cap := by omega
  obtain ⟨T', h', cA, X', e', EX, A, st'⟩ := newP (aty := .int) (h := h) (n := z) (rest := st) X C.1 C.2.2.2.2.2.1 w E (g := mkF m pc ls (.int z :: st)) rfl hd' rfl hneg (cap := cap) hcap' hb hc hl
  have hlt : nn < 2 ^ 31 := by have := z.toInt_lt; omega
  obtain ⟨s₂, o, q1, q2⟩ := hr h' h.size rfl hs EX ⟨hlt, _, A, by rw [sz_new]; exact hz2, fun i hi => by simp [newA, newarray.typeOf, defaultValue, hz2, hi]⟩ C T' locs X' Fr0 e'
  exact ⟨s₂, o, st' _ q1, q2⟩
theorem Run.new_byte {z : Int32} (q nn cap : Nat) (w : (Jvm.Cond.arrayClass .byte).before a0 Z = true) (hz : z.toInt = nn) (hd : decode bytes pc = .ok (.newarray .byte, 2)) (hr : ∀ (h' : Heap) (a : Addr), a = h.size → n0 ≤ a → Ext h h' → AI Z h' a .byte nn (fun _ => 0) → Run p l e R s m args below meth c Z own nm bytes maxL ret n0 EE h' (k + 1) (n + cap) (mkF m q ls (.ref a :: st))) (hcap : nn ≤ cap := by decide) (hb : cap * 8 ≤ 536870912 := by decide) (hc : k + 1 ≤ R.cells := by decide) (hl : n + cap ≤ R.slots := by decide) (hq : q = pc + 2 := by rfl) : Run p l e R s m args below meth c Z own nm bytes maxL ret n0 EE h k n (mkF m pc ls (.int z :: st)) := by
  subst hq; refine Run.sz fun hs => ?_; intro C T locs X Fr0 E
  have hz2 : z.toNatClampNeg = nn := by rw [show z.toNatClampNeg = z.toInt.toNat from rfl, hz]; rfl
  have hneg : ¬ z < 0 := by rw [Int32.lt_iff_toInt_lt, show (0 : Int32).toInt = 0 from by decide]; omega
  have hd' : decode c.code pc = .ok (.newarray .byte, 2) := C.2.1 ▸ hd
  have hcap' : z.toNatClampNeg ≤ cap := by omega
  obtain ⟨T', h', cA, X', e', EX, A, st'⟩ := newP (aty := .byte) (h := h) (n := z) (rest := st) X C.1 C.2.2.2.2.2.1 w E (g := mkF m pc ls (.int z :: st)) rfl hd' rfl hneg (cap := cap) hcap' hb hc hl
  have hlt : nn < 2 ^ 31 := by have := z.toInt_lt; omega
  obtain ⟨s₂, o, q1, q2⟩ := hr h' h.size rfl hs EX ⟨hlt, _, A, by rw [sz_new]; exact hz2, fun i hi => by simp [newA, newarray.typeOf, defaultValue, hz2, hi]⟩ C T' locs X' Fr0 e'
  exact ⟨s₂, o, st' _ q1, q2⟩
theorem Run.new_char {z : Int32} (q nn cap : Nat) (w : (Jvm.Cond.arrayClass .char).before a0 Z = true) (hz : z.toInt = nn) (hd : decode bytes pc = .ok (.newarray .char, 2)) (hr : ∀ (h' : Heap) (a : Addr), a = h.size → n0 ≤ a → Ext h h' → AI Z h' a .char nn (fun _ => 0) → Run p l e R s m args below meth c Z own nm bytes maxL ret n0 EE h' (k + 1) (n + cap) (mkF m q ls (.ref a :: st))) (hcap : nn ≤ cap := by decide) (hb : cap * 8 ≤ 536870912 := by decide) (hc : k + 1 ≤ R.cells := by decide) (hl : n + cap ≤ R.slots := by decide) (hq : q = pc + 2 := by rfl) : Run p l e R s m args below meth c Z own nm bytes maxL ret n0 EE h k n (mkF m pc ls (.int z :: st)) := by
  subst hq; refine Run.sz fun hs => ?_; intro C T locs X Fr0 E
  have hz2 : z.toNatClampNeg = nn := by rw [show z.toNatClampNeg = z.toInt.toNat from rfl, hz]; rfl
  have hneg : ¬ z < 0 := by rw [Int32.lt_iff_toInt_lt, show (0 : Int32).toInt = 0 from by decide]; omega
  have hd' : decode c.code pc = .ok (.newarray .char, 2) := C.2.1 ▸ hd
  have hcap' : z.toNatClampNeg ≤ cap := by omega
  obtain ⟨T', h', cA, X', e', EX, A, st'⟩ := newP (aty := .char) (h := h) (n := z) (rest := st) X C.1 C.2.2.2.2.2.1 w E (g := mkF m pc ls (.int z :: st)) rfl hd' rfl hneg (cap := cap) hcap' hb hc hl
  have hlt : nn < 2 ^ 31 := by have := z.toInt_lt; omega
  obtain ⟨s₂, o, q1, q2⟩ := hr h' h.size rfl hs EX ⟨hlt, _, A, by rw [sz_new]; exact hz2, fun i hi => by simp [newA, newarray.typeOf, defaultValue, hz2, hi]⟩ C T' locs X' Fr0 e'
  exact ⟨s₂, o, st' _ q1, q2⟩
theorem Run.new_long {z : Int32} (q nn cap : Nat) (w : (Jvm.Cond.arrayClass .long).before a0 Z = true) (hz : z.toInt = nn) (hd : decode bytes pc = .ok (.newarray .long, 2)) (hr : ∀ (h' : Heap) (a : Addr), a = h.size → n0 ≤ a → Ext h h' → AJ Z h' a nn (fun _ => 0) → Run p l e R s m args below meth c Z own nm bytes maxL ret n0 EE h' (k + 1) (n + cap) (mkF m q ls (.ref a :: st))) (hcap : nn ≤ cap := by decide) (hb : cap * 8 ≤ 536870912 := by decide) (hc : k + 1 ≤ R.cells := by decide) (hl : n + cap ≤ R.slots := by decide) (hq : q = pc + 2 := by rfl) : Run p l e R s m args below meth c Z own nm bytes maxL ret n0 EE h k n (mkF m pc ls (.int z :: st)) := by
  subst hq; refine Run.sz fun hs => ?_; intro C T locs X Fr0 E
  have hz2 : z.toNatClampNeg = nn := by rw [show z.toNatClampNeg = z.toInt.toNat from rfl, hz]; rfl
  have hneg : ¬ z < 0 := by rw [Int32.lt_iff_toInt_lt, show (0 : Int32).toInt = 0 from by decide]; omega
  have hd' : decode c.code pc = .ok (.newarray .long, 2) := C.2.1 ▸ hd
  have hcap' : z.toNatClampNeg ≤ cap := by omega
  obtain ⟨T', h', cA, X', e', EX, A, st'⟩ := newP (aty := .long) (h := h) (n := z) (rest := st) X C.1 C.2.2.2.2.2.1 w E (g := mkF m pc ls (.int z :: st)) rfl hd' rfl hneg (cap := cap) hcap' hb hc hl
  have hlt : nn < 2 ^ 31 := by have := z.toInt_lt; omega
  obtain ⟨s₂, o, q1, q2⟩ := hr h' h.size rfl hs EX ⟨hlt, _, A, by rw [sz_new]; exact hz2, fun i hi => by simp [newA, newarray.typeOf, defaultValue, hz2, hi]⟩ C T' locs X' Fr0 e'
  exact ⟨s₂, o, st' _ q1, q2⟩
theorem getD_all {L : List Value} {d : Value} (h : ∀ x ∈ L, x = d) (i : Nat) : L.getD i d = d := by
  rw [List.getD_eq_getElem?_getD]
  cases q : L[i]? with
  | none => rfl
  | some x => exact h x (List.mem_of_getElem? q)
theorem AI.arv0 {a : Addr} {nn : Nat} (A : AI Z h a .byte nn (fun _ => 0)) {z : Int32} (hz : z.toInt = nn) : ∃ kc, Arv Z h a kc .byte z (List.replicate nn (.int 0)) (.int 0) := by
  obtain ⟨hlt, cl, Ar, S, H⟩ := A
  have g : ∀ i, (List.replicate nn (Value.int 0)).getD i (.int 0) = .int 0 := fun i => getD_all (fun x hx => List.eq_of_mem_replicate hx) i
  refine ⟨cl.cls, cl, Ar, rfl, ?_, ?_, fun i hi => ?_, fun i hi => ?_⟩
  · rw [S, show z.toNatClampNeg = z.toInt.toNat from rfl, hz]; rfl
  · rw [Int32.lt_iff_toInt_lt, show (0 : Int32).toInt = 0 from by decide]; omega
  · rw [g i]; exact H i (by rw [← S]; exact hi)
  · rw [g i]; decide
theorem AI.of_arv0 {a : Addr} {nn : Nat} {kc : ClassId} {z : Int32} {L : List Value} (A : Arv Z h a kc .byte z L (.int 0)) (hz : z.toInt = nn) (hL : ∀ x ∈ L, x = .int 0) : AI Z h a .byte nn (fun _ => 0) := by
  obtain ⟨cl, Ar, -, S, -, H, -⟩ := A
  have S' : cl.slots.size = nn := by rw [S, show z.toNatClampNeg = z.toInt.toNat from rfl, hz]; rfl
  exact ⟨by have := z.toInt_lt; omega, cl, Ar, S', fun i hi => by rw [H i (by rw [S']; exact hi), getD_all hL]⟩
theorem Run.copy0 {a b : Addr} {na nb : Nat} {i : Nat} {nn za zb : Int32} (q W : Nat) (w1 : (Jvm.Cond.methodLink own i Jvm.Stand.acN).before a0 Z = true) (w2 : (Jvm.Cond.native Jvm.Stand.acN).before a0 Z = true) (w3 : (Jvm.Cond.static Jvm.Stand.acN).before a0 Z = true) (w4 : (Jvm.Cond.initialized "java/lang/System").before a0 Z = true)
    (A : AI Z h a .byte na (fun _ => 0)) (B : AI Z h b .byte nb (fun _ => 0)) (hza : za.toInt = na) (hzb : zb.toInt = nb) (hn : 0 ≤ nn.toInt ∧ nn.toInt ≤ na ∧ nn.toInt ≤ nb) (gb : n0 ≤ b) (hd : decode bytes pc = .ok (.invokestatic i, 3))
    (hr : ∀ h' : Heap, Keep h h' [b] → AI Z h' b .byte nb (fun _ => 0) → Run p l e R s m args below meth c Z own nm bytes maxL ret n0 EE h' k n (mkF m q ls st)) (hsz : ls.size = maxL := by rfl) (hf : 1 ≤ R.frames := by decide) (hW : (st.map fun v => v.category).sum ≤ W := by first | exact Nat.le_of_eq rfl | decide) (hl : W + 18 ≤ R.locals := by decide) (hq : q = pc + 3 := by rfl) : Run p l e R s m args below meth c Z own nm bytes maxL ret n0 EE h k n (mkF m pc ls (.int nn :: .int (0 : Int32) :: .ref b :: .int (0 : Int32) :: .ref a :: st)) := by
  subst hq; intro C T locs X Fr0 E
  obtain ⟨ka, A'⟩ := A.arv0 hza
  obtain ⟨kb, B'⟩ := B.arv0 hzb
  have n0' : (0 : Int32).toNatClampNeg = 0 := by decide
  have ez : ∀ z : Int32, z.toNatClampNeg = z.toInt.toNat := fun _ => rfl
  obtain ⟨T', h', L, X', e', N', KP, R', st'⟩ := cpA X C.1 C.2.2.2.2.2.1 C.2.2.2.1 w1 w2 w3 w4 E (sp := 0) (dp := 0) (nn := nn) A' B' (Or.inl ⟨rfl, rfl⟩) (by decide) (by decide) (by rw [Int32.lt_iff_toInt_lt, show (0 : Int32).toInt = 0 from by decide]; omega) (by rw [n0', ez, ez]; omega) (by rw [n0', ez, ez]; omega) rfl (by rw [n0', ez, List.length_replicate]; omega) Fr0 gb (g := mkF m pc ls (.int nn :: .int (0 : Int32) :: .ref b :: .int (0 : Int32) :: .ref a :: st)) rfl (by rw [C.2.2.1]; exact hsz) rfl (C.2.1 ▸ hd) hf (W := W) (by show 2 * 0 + _ ≤ _; omega) (by show W + (nativeFrameWords _ _ 5 + 11) ≤ _; rw [show nativeFrameWords "java/lang/System" "arraycopy" 5 = 7 from by decide]; exact hl)
  have R2 : AI Z h' b .byte nb (fun _ => 0) := AI.of_arv0 R' hzb (fun x hx => by
    simp only [List.mem_append, List.mem_map] at hx
    rcases hx with (hx | ⟨u, -, hx⟩) | hx
    · exact List.eq_of_mem_replicate (List.mem_of_mem_take hx)
    · rw [← hx]; exact getD_all (fun x hx => List.eq_of_mem_replicate hx) _
    · exact List.eq_of_mem_replicate (List.mem_of_mem_drop hx))
  obtain ⟨s₂, o, q1, q2⟩ := hr h' KP R2 C T' _ X' N' e'
  exact ⟨s₂, o, st' _ q1, q2⟩
theorem Run.ind {ι : Type} (P : Nat → ι → Heap → Prop) (fr : ι → JFrame) (step : ∀ (j : Nat) (x : ι) (hL : Heap), P j x hL → (∀ (j' : Nat) (x' : ι) (h' : Heap), j' < j → P j' x' h' → Run p l e R s m args below meth c Z own nm bytes maxL ret n0 EE h' k n (fr x')) → Run p l e R s m args below meth c Z own nm bytes maxL ret n0 EE hL k n (fr x)) (j : Nat) (x : ι) (hP : P j x h) : Run p l e R s m args below meth c Z own nm bytes maxL ret n0 EE h k n (fr x) := by
  have key : ∀ (N0 : Nat) (j : Nat), j < N0 → ∀ (x : ι) (hL : Heap), P j x hL → Run p l e R s m args below meth c Z own nm bytes maxL ret n0 EE hL k n (fr x) := by
    intro N0
    induction N0 with
    | zero => intro j hj; exact absurd hj (Nat.not_lt_zero _)
    | succ N1 ih => intro j hj x hL hP; exact step j x hL hP (fun j' x' h' hlt hP' => ih j' (by omega) x' h' hP')
  exact key (j + 1) j (Nat.lt_succ_self _) x h hP
end Layer
theorem div_toInt {x y : Int32} (hx : 0 ≤ x.toInt) {d : Int} (hy : y.toInt = d) (hd : 0 < d) : (x / y).toInt = x.toInt / d :=
  (c_idiv x y d hy (fun z => by rw [z] at hy; rw [show (-1 : Int32).toInt = -1 from by decide] at hy; omega)).1 hx
theorem rem_toInt {x y : Int32} (hx : 0 ≤ x.toInt) {d : Int} (hy : y.toInt = d) (hd : 0 < d) : (x - (x / y) * y).toInt = x.toInt % d := by
  have h1 := div_toInt hx hy hd
  have h2 := c_imul (x / y) y
  rw [h1, hy, Int.mul_comm] at h2
  have h3 := c_isub x ((x / y) * y)
  have h4 := rng32 (x - (x / y) * y)
  have h5 : x.toInt % d = x.toInt - d * (x.toInt / d) := Int.emod_def _ _
  have h6 := Int.emod_nonneg x.toInt (b := d) (by omega)
  have h7 := Int.emod_lt_of_pos x.toInt hd
  have h8 := rng32 x; have h9 := rng32 y
  omega
theorem and31 (x : Int32) : 0 ≤ (x &&& 2147483647).toInt ∧ (x &&& 2147483647).toInt < 2147483648 := by
  rw [c_mask x 2147483647 31 (by decide) (by decide)]; omega
theorem add_toInt {x y : Int32} {a b : Int} (ha : x.toInt = a) (hb : y.toInt = b) (h1 : -2147483648 ≤ a + b) (h2 : a + b < 2147483648) : (x + y).toInt = a + b := by
  have h3 := c_iadd x y; have h4 := rng32 (x + y); omega
theorem sub_toInt {x y : Int32} {a b : Int} (ha : x.toInt = a) (hb : y.toInt = b) (h1 : -2147483648 ≤ a - b) (h2 : a - b < 2147483648) : (x - y).toInt = a - b := by
  have h3 := c_isub x y; have h4 := rng32 (x - y); omega
theorem inc_toInt {x : Int32} (h : x.toInt + 1 < 2147483648) : (x + 1).toInt = x.toInt + 1 := by
  have h1 := rng32 x; exact add_toInt rfl (by decide) (by omega) h
theorem lt32 {x y : Int32} : x < y ↔ x.toInt < y.toInt := Int32.lt_iff_toInt_lt
theorem lt64 {x y : Int64} : x < y ↔ x.toInt < y.toInt := Int64.lt_iff_toInt_lt
theorem eq32 {x y : Int32} : x = y ↔ x.toInt = y.toInt := Int32.toInt_inj.symm
theorem eq64 {x y : Int64} : x = y ↔ x.toInt = y.toInt := Int64.toInt_inj.symm
theorem nat32 {j : Int32} (h : 0 ≤ j.toInt) : (j.toNatClampNeg : Int) = j.toInt := by rw [show j.toNatClampNeg = j.toInt.toNat from rfl]; omega
theorem nar_c (x : Int32) : nar .char (x.toUInt32.toUInt16.toUInt32.toInt32) = x.toUInt32.toUInt16.toUInt32.toInt32 := by
  show ((x.toUInt32.toUInt16.toUInt32).toUInt16.toUInt32).toInt32 = _
  rw [UInt16.toUInt16_toUInt32]
theorem allb {P : Int8 → Prop} (h : ∀ v : BitVec 8, P (Int8.ofBitVec v)) (b : Int8) : P b := h b.toBitVec
end Jvm.Own

namespace Jvm.Pilot.@@N@@
open Jvm Jvm.ClassFile Sem Op Lib Jvm.Free Jvm.Stand Jvm.LawKit Jvm.RoadKit Bundle Jvm.Pilot.@@N@@.Jvm.D Jvm.Own
theorem d1_0 : decode method_3_code 0 = .ok (.lload_n 0, 1) := by decide +kernel
theorem d1_1 : decode method_3_code 1 = .ok (.lconst 0, 1) := by decide +kernel
theorem d1_2 : decode method_3_code 2 = .ok (.lcmp, 1) := by decide +kernel
theorem d1_3 : decode method_3_code 3 = .ok (.ifCond .ge 6, 3) := by decide +kernel
theorem d1_9 : decode method_3_code 9 = .ok (.lload_n 0, 1) := by decide +kernel
theorem d1_10 : decode method_3_code 10 = .ok (.ldc2_w 34, 3) := by decide +kernel
theorem d1_13 : decode method_3_code 13 = .ok (.lcmp, 1) := by decide +kernel
theorem d1_14 : decode method_3_code 14 = .ok (.ifCond .ge 5, 3) := by decide +kernel
theorem d1_19 : decode method_3_code 19 = .ok (.lload_n 0, 1) := by decide +kernel
theorem d1_20 : decode method_3_code 20 = .ok (.ldc2_w 36, 3) := by decide +kernel
theorem d1_23 : decode method_3_code 23 = .ok (.lcmp, 1) := by decide +kernel
theorem d1_24 : decode method_3_code 24 = .ok (.ifCond .ge 5, 3) := by decide +kernel
theorem d1_29 : decode method_3_code 29 = .ok (.lload_n 0, 1) := by decide +kernel
theorem d1_30 : decode method_3_code 30 = .ok (.ldc2_w 38, 3) := by decide +kernel
theorem d1_33 : decode method_3_code 33 = .ok (.lcmp, 1) := by decide +kernel
theorem d1_34 : decode method_3_code 34 = .ok (.ifCond .ge 5, 3) := by decide +kernel
theorem d1_39 : decode method_3_code 39 = .ok (.lload_n 0, 1) := by decide +kernel
theorem d1_40 : decode method_3_code 40 = .ok (.ldc2_w 40, 3) := by decide +kernel
theorem d1_43 : decode method_3_code 43 = .ok (.lcmp, 1) := by decide +kernel
theorem d1_44 : decode method_3_code 44 = .ok (.ifCond .ge 5, 3) := by decide +kernel
theorem d1_49 : decode method_3_code 49 = .ok (.lload_n 0, 1) := by decide +kernel
theorem d1_50 : decode method_3_code 50 = .ok (.ldc2_w 42, 3) := by decide +kernel
theorem d1_53 : decode method_3_code 53 = .ok (.lcmp, 1) := by decide +kernel
theorem d1_54 : decode method_3_code 54 = .ok (.ifCond .ge 5, 3) := by decide +kernel
theorem d1_59 : decode method_3_code 59 = .ok (.lload_n 0, 1) := by decide +kernel
theorem d1_60 : decode method_3_code 60 = .ok (.ldc2_w 44, 3) := by decide +kernel
theorem d1_63 : decode method_3_code 63 = .ok (.lcmp, 1) := by decide +kernel
theorem d1_64 : decode method_3_code 64 = .ok (.ifCond .ge 6, 3) := by decide +kernel
theorem d1_70 : decode method_3_code 70 = .ok (.lload_n 0, 1) := by decide +kernel
theorem d1_71 : decode method_3_code 71 = .ok (.ldc2_w 46, 3) := by decide +kernel
theorem d1_74 : decode method_3_code 74 = .ok (.lcmp, 1) := by decide +kernel
theorem d1_75 : decode method_3_code 75 = .ok (.ifCond .ge 6, 3) := by decide +kernel
theorem d1_81 : decode method_3_code 81 = .ok (.lload_n 0, 1) := by decide +kernel
theorem d1_82 : decode method_3_code 82 = .ok (.ldc2_w 48, 3) := by decide +kernel
theorem d1_85 : decode method_3_code 85 = .ok (.lcmp, 1) := by decide +kernel
theorem d1_86 : decode method_3_code 86 = .ok (.ifCond .ge 6, 3) := by decide +kernel
theorem d1_92 : decode method_3_code 92 = .ok (.bipush 9, 2) := by decide +kernel
theorem d1_94 : decode method_3_code 94 = .ok (.ireturn, 1) := by decide +kernel
theorem d1_89 : decode method_3_code 89 = .ok (.bipush 8, 2) := by decide +kernel
theorem d1_91 : decode method_3_code 91 = .ok (.ireturn, 1) := by decide +kernel
theorem d1_78 : decode method_3_code 78 = .ok (.bipush 7, 2) := by decide +kernel
theorem d1_80 : decode method_3_code 80 = .ok (.ireturn, 1) := by decide +kernel
theorem d1_67 : decode method_3_code 67 = .ok (.bipush 6, 2) := by decide +kernel
theorem d1_69 : decode method_3_code 69 = .ok (.ireturn, 1) := by decide +kernel
theorem d1_57 : decode method_3_code 57 = .ok (.iconst 5, 1) := by decide +kernel
theorem d1_58 : decode method_3_code 58 = .ok (.ireturn, 1) := by decide +kernel
theorem d1_47 : decode method_3_code 47 = .ok (.iconst 4, 1) := by decide +kernel
theorem d1_48 : decode method_3_code 48 = .ok (.ireturn, 1) := by decide +kernel
theorem d1_37 : decode method_3_code 37 = .ok (.iconst 3, 1) := by decide +kernel
theorem d1_38 : decode method_3_code 38 = .ok (.ireturn, 1) := by decide +kernel
theorem d1_27 : decode method_3_code 27 = .ok (.iconst 2, 1) := by decide +kernel
theorem d1_28 : decode method_3_code 28 = .ok (.ireturn, 1) := by decide +kernel
theorem d1_17 : decode method_3_code 17 = .ok (.iconst 1, 1) := by decide +kernel
theorem d1_18 : decode method_3_code 18 = .ok (.ireturn, 1) := by decide +kernel
theorem d1_6 : decode method_3_code 6 = .ok (.bipush 10, 2) := by decide +kernel
theorem d1_8 : decode method_3_code 8 = .ok (.ireturn, 1) := by decide +kernel
def F_rmE (q0 : Int64) : Int32 := (if q0 < (0 : Int64) then (10 : Int32) else (if q0 < (128 : Int64) then (1 : Int32) else (if q0 < (16384 : Int64) then (2 : Int32) else (if q0 < (2097152 : Int64) then (3 : Int32) else (if q0 < (268435456 : Int64) then (4 : Int32) else (if q0 < (34359738368 : Int64) then (5 : Int32) else (if q0 < (4398046511104 : Int64) then (6 : Int32) else (if q0 < (562949953421312 : Int64) then (7 : Int32) else (if q0 < (72057594037927936 : Int64) then (8 : Int32) else (9 : Int32))))))))))
theorem ef_rmE (m : MethodId) (x0 : Int64) : entryFrame m #[(.long x0)] 2 = mkF m 0 #[.val (.long x0), .second] [] := by first | (simp [entryFrame, mkF, argsToLocals, Value.category]; done) | rfl
set_option maxRecDepth 65536 in
set_option maxHeartbeats 40000000 in
theorem rmE {l : Launch} {Z : State} {a0 : Array Value} (hw : ∀ d ∈ tables_1, d.before a0 Z = true) (q0 : Int64)  (h0 : Heap) (n0 : Nat) (Z0 : n0 ≤ h0.size) :
    Pays l Z (⟨"com/example/tagwire/tagwire/wire/WireWriterWriteVarintPinLaw", "expectedLength", "(J)I"⟩ : MethodName) method_3_code 2 (some .int) ({ frames := 0, cells := 0, slots := 0, locals := 0 } : Room) #[(.long q0)] h0 n0 (fun v h' => v = some (.int (F_rmE q0)) ∧ h0 = h') := by
  refine Pays.of (ls := #[.val (.long q0), .second]) (plainFor_of_name (by first | (simp [plainName, overriddenIn]; done) | decide +kernel)) (fun m => ef_rmE m q0) Z0 (fun p e s m below meth c => ?_)
  refine Run.lloadN 1 d1_0 rfl ?_
  refine Run.lconst (0 : Int64) 2 d1_1 ?_
  refine Run.lge 9 6 d1_2 d1_3 (fun hc3 => ?_) (fun hc3 => ?_)
  · refine Run.lloadN 10 d1_9 rfl ?_
    refine Run.ldcJ 13 (hw _ (List.mem_of_getElem? (i := 4) rfl)) d1_10 ?_
    refine Run.lge 19 17 d1_13 d1_14 (fun hc14 => ?_) (fun hc14 => ?_)
    · refine Run.lloadN 20 d1_19 rfl ?_
      refine Run.ldcJ 23 (hw _ (List.mem_of_getElem? (i := 43) rfl)) d1_20 ?_
      refine Run.lge 29 27 d1_23 d1_24 (fun hc24 => ?_) (fun hc24 => ?_)
      · refine Run.lloadN 30 d1_29 rfl ?_
        refine Run.ldcJ 33 (hw _ (List.mem_of_getElem? (i := 44) rfl)) d1_30 ?_
        refine Run.lge 39 37 d1_33 d1_34 (fun hc34 => ?_) (fun hc34 => ?_)
        · refine Run.lloadN 40 d1_39 rfl ?_
          refine Run.ldcJ 43 (hw _ (List.mem_of_getElem? (i := 45) rfl)) d1_40 ?_
          refine Run.lge 49 47 d1_43 d1_44 (fun hc44 => ?_) (fun hc44 => ?_)
          · refine Run.lloadN 50 d1_49 rfl ?_
            refine Run.ldcJ 53 (hw _ (List.mem_of_getElem? (i := 46) rfl)) d1_50 ?_
            refine Run.lge 59 57 d1_53 d1_54 (fun hc54 => ?_) (fun hc54 => ?_)
            · refine Run.lloadN 60 d1_59 rfl ?_
              refine Run.ldcJ 63 (hw _ (List.mem_of_getElem? (i := 47) rfl)) d1_60 ?_
              refine Run.lge 70 67 d1_63 d1_64 (fun hc64 => ?_) (fun hc64 => ?_)
              · refine Run.lloadN 71 d1_70 rfl ?_
                refine Run.ldcJ 74 (hw _ (List.mem_of_getElem? (i := 48) rfl)) d1_71 ?_
                refine Run.lge 81 78 d1_74 d1_75 (fun hc75 => ?_) (fun hc75 => ?_)
                · refine Run.lloadN 82 d1_81 rfl ?_
                  refine Run.ldcJ 85 (hw _ (List.mem_of_getElem? (i := 49) rfl)) d1_82 ?_
                  refine Run.lge 92 89 d1_85 d1_86 (fun hc86 => ?_) (fun hc86 => ?_)
                  · refine Run.bipush (9 : Int32) 94 d1_92 ?_
                    exact Run.retI d1_94 ⟨congrArg some (congrArg Value.int (by unfold F_rmE; rw [if_neg hc3, if_neg hc14, if_neg hc24, if_neg hc34, if_neg hc44, if_neg hc54, if_neg hc64, if_neg hc75, if_neg hc86])), rfl⟩
                  · refine Run.bipush (8 : Int32) 91 d1_89 ?_
                    exact Run.retI d1_91 ⟨congrArg some (congrArg Value.int (by unfold F_rmE; rw [if_neg hc3, if_neg hc14, if_neg hc24, if_neg hc34, if_neg hc44, if_neg hc54, if_neg hc64, if_neg hc75, if_pos hc86])), rfl⟩
                · refine Run.bipush (7 : Int32) 80 d1_78 ?_
                  exact Run.retI d1_80 ⟨congrArg some (congrArg Value.int (by unfold F_rmE; rw [if_neg hc3, if_neg hc14, if_neg hc24, if_neg hc34, if_neg hc44, if_neg hc54, if_neg hc64, if_pos hc75])), rfl⟩
              · refine Run.bipush (6 : Int32) 69 d1_67 ?_
                exact Run.retI d1_69 ⟨congrArg some (congrArg Value.int (by unfold F_rmE; rw [if_neg hc3, if_neg hc14, if_neg hc24, if_neg hc34, if_neg hc44, if_neg hc54, if_pos hc64])), rfl⟩
            · refine Run.iconst (5 : Int32) 58 d1_57 ?_
              exact Run.retI d1_58 ⟨congrArg some (congrArg Value.int (by unfold F_rmE; rw [if_neg hc3, if_neg hc14, if_neg hc24, if_neg hc34, if_neg hc44, if_pos hc54])), rfl⟩
          · refine Run.iconst (4 : Int32) 48 d1_47 ?_
            exact Run.retI d1_48 ⟨congrArg some (congrArg Value.int (by unfold F_rmE; rw [if_neg hc3, if_neg hc14, if_neg hc24, if_neg hc34, if_pos hc44])), rfl⟩
        · refine Run.iconst (3 : Int32) 38 d1_37 ?_
          exact Run.retI d1_38 ⟨congrArg some (congrArg Value.int (by unfold F_rmE; rw [if_neg hc3, if_neg hc14, if_neg hc24, if_pos hc34])), rfl⟩
      · refine Run.iconst (2 : Int32) 28 d1_27 ?_
        exact Run.retI d1_28 ⟨congrArg some (congrArg Value.int (by unfold F_rmE; rw [if_neg hc3, if_neg hc14, if_pos hc24])), rfl⟩
    · refine Run.iconst (1 : Int32) 18 d1_17 ?_
      exact Run.retI d1_18 ⟨congrArg some (congrArg Value.int (by unfold F_rmE; rw [if_neg hc3, if_pos hc14])), rfl⟩
  · refine Run.bipush (10 : Int32) 8 d1_6 ?_
    exact Run.retI d1_8 ⟨congrArg some (congrArg Value.int (by unfold F_rmE; rw [if_pos hc3])), rfl⟩
theorem d2_0 : decode prog_103_method_1_code 0 = .ok (.aload_n 0, 1) := by decide +kernel
theorem d2_1 : decode prog_103_method_1_code 1 = .ok (.invokespecial 1, 3) := by decide +kernel
theorem d2_4 : decode prog_103_method_1_code 4 = .ok (.aload_n 0, 1) := by decide +kernel
theorem d2_5 : decode prog_103_method_1_code 5 = .ok (.iload_n 1, 1) := by decide +kernel
theorem d2_6 : decode prog_103_method_1_code 6 = .ok (.newarray .byte, 2) := by decide +kernel
theorem d2_8 : decode prog_103_method_1_code 8 = .ok (.putfield 7, 3) := by decide +kernel
theorem d2_11 : decode prog_103_method_1_code 11 = .ok (.return_, 1) := by decide +kernel
theorem ef_rmI (m : MethodId) (x0 : Addr) (x1 : Int32) : entryFrame m #[(.ref x0), (.int x1)] 2 = mkF m 0 #[.val (.ref x0), .val (.int x1)] [] := by first | (simp [entryFrame, mkF, argsToLocals, Value.category]; done) | rfl
set_option maxRecDepth 65536 in
set_option maxHeartbeats 40000000 in
theorem rmI {l : Launch} {Z : State} {a0 : Array Value} (hw : ∀ d ∈ tables_1, d.before a0 Z = true) (r0 : Addr) (p1 : Int32) (nn : Nat) (h0 : Heap) (n0 : Nat) (Z0 : n0 ≤ h0.size) (pf0 : Exa Z h0 r0 "com/example/tagwire/tagwire/wire/WireWriter") (pf1 : Fld Z h0 r0 "com/example/tagwire/tagwire/wire/WireWriter" "buffer" "[B" .null) (pf2 : Fld Z h0 r0 "com/example/tagwire/tagwire/wire/WireWriter" "position" "I" (.int (0 : Int32))) (pf3 : n0 ≤ r0) (hnn : p1.toInt = nn) (hcap : nn ≤ 13) :
    Pays l Z (⟨"com/example/tagwire/tagwire/wire/WireWriter", "<init>", "(I)V"⟩ : MethodName) prog_103_method_1_code 2 none ({ frames := 1, cells := 1, slots := 13, locals := 12 } : Room) #[(.ref r0), (.int p1)] h0 n0 (fun v h' => ∃ xb : Addr, v = none ∧ Keep h0 h' [r0] ∧ h0.size ≤ xb ∧ Exa Z h' r0 "com/example/tagwire/tagwire/wire/WireWriter" ∧ Fld Z h' r0 "com/example/tagwire/tagwire/wire/WireWriter" "position" "I" (.int (0 : Int32)) ∧ Fld Z h' r0 "com/example/tagwire/tagwire/wire/WireWriter" "buffer" "[B" (.ref xb) ∧ AI Z h' xb .byte nn (fun _ => 0)) := by
  refine Pays.of (ls := #[.val (.ref r0), .val (.int p1)]) (plainFor_of_name (by first | (simp [plainName, overriddenIn]; done) | decide +kernel)) (fun m => ef_rmI m r0 p1) Z0 (fun p e s m below meth c => ?_)
  refine Run.aloadN 1 d2_0 rfl ?_
  refine Run.initO 4 0 (hw _ (List.mem_of_getElem? (i := 11) rfl)) (hw _ (List.mem_of_getElem? (i := 12) rfl)) (hw _ (List.mem_of_getElem? (i := 13) rfl)) d2_1 ?_
  refine Run.aloadN 5 d2_4 rfl ?_
  refine Run.iloadN 6 d2_5 rfl ?_
  refine Run.new_byte 8 nn 13 (hw _ (List.mem_of_getElem? (i := 14) rfl)) hnn d2_6 (fun h1 ob1 g1 u1 E1 A1 => ?_) (hcap := by omega)
  have ne_r0_ob1 : r0 ≠ ob1 := Nat.ne_of_lt (Nat.lt_of_lt_of_le pf0.lt (Nat.le_of_eq g1.symm))
  have hsz_ob1 : h0.size ≤ ob1 := Nat.le_trans (Keep.refl h0 [r0]).1 (Nat.le_of_eq g1.symm)
  show Run p l e _ s m _ below meth c Z _ _ _ _ _ n0 _ h1 1 13 (mkF m 8 #[.val (.ref r0), .val (.int p1)] [(.ref ob1), (.ref r0)])
  have f2 := (pf1.ext E1)
  have f3 := (pf0.ext E1)
  refine Run.putF 11 (Or.inl (hw _ (List.mem_of_getElem? (i := 15) rfl))) (host := "") Via.refl f2 f3 (Or.inr ⟨(hw _ (List.mem_of_getElem? (i := 16) rfl)), rfl, rfl⟩) (hw _ (List.mem_of_getElem? (i := 6) rfl)) (ty := (.array .byte)) (by decide) pf3 d2_8 (fun h4 W4 => ?_)
  have F4 := f2.same W4
  have f5 := (f3.wr W4)
  have f6 := ((pf2.ext E1).other W4 (Or.inr (slot_ne (Or.inl (hw _ (List.mem_of_getElem? (i := 23) rfl))) (Or.inr (hw _ (List.mem_of_getElem? (i := 16) rfl))) (by decide) (t := .int) (t' := (.array .byte)) (by decide) (by decide))))
  have f7 := (A1.other W4 (Ne.symm ne_r0_ob1))
  exact Run.retV d2_11 ⟨ob1, rfl, (((Keep.refl h0 [r0]).ext E1).wr W4 (Or.inl (List.mem_of_getElem? (i := 0) rfl))), hsz_ob1, f5, f6, F4, f7⟩
theorem d6_0 : decode prog_103_method_12_code 0 = .ok (.aload_n 0, 1) := by decide +kernel
theorem d6_1 : decode prog_103_method_12_code 1 = .ok (.getfield 46, 3) := by decide +kernel
theorem d6_4 : decode prog_103_method_12_code 4 = .ok (.aload_n 0, 1) := by decide +kernel
theorem d6_5 : decode prog_103_method_12_code 5 = .ok (.getfield 7, 3) := by decide +kernel
theorem d6_8 : decode prog_103_method_12_code 8 = .ok (.arraylength, 1) := by decide +kernel
theorem d6_9 : decode prog_103_method_12_code 9 = .ok (.if_icmp .eq 25, 3) := by decide +kernel
theorem d6_34 : decode prog_103_method_12_code 34 = .ok (.aload_n 0, 1) := by decide +kernel
theorem d6_35 : decode prog_103_method_12_code 35 = .ok (.getfield 7, 3) := by decide +kernel
theorem d6_38 : decode prog_103_method_12_code 38 = .ok (.areturn, 1) := by decide +kernel
theorem ef_rmB (m : MethodId) (x0 : Addr) : entryFrame m #[(.ref x0)] 1 = mkF m 0 #[.val (.ref x0)] [] := by first | (simp [entryFrame, mkF, argsToLocals, Value.category]; done) | rfl
set_option maxRecDepth 65536 in
set_option maxHeartbeats 40000000 in
theorem rmB {l : Launch} {Z : State} {a0 : Array Value} (hw : ∀ d ∈ tables_1, d.before a0 Z = true) (r0 : Addr) (nn : Nat) (xb : Addr) (pos : Int32) (f : Nat → Int32) (h0 : Heap) (n0 : Nat) (Z0 : n0 ≤ h0.size) (pf0 : Fld Z h0 r0 "com/example/tagwire/tagwire/wire/WireWriter" "buffer" "[B" (.ref xb)) (pf1 : Fld Z h0 r0 "com/example/tagwire/tagwire/wire/WireWriter" "position" "I" (.int pos)) (pf2 : AI Z h0 xb .byte nn f) (hpos : pos = Int32.ofNat nn) :
    Pays l Z (⟨"com/example/tagwire/tagwire/wire/WireWriter", "toByteArray", "()[B"⟩ : MethodName) prog_103_method_12_code 1 (some (.array .byte)) ({ frames := 0, cells := 0, slots := 0, locals := 0 } : Room) #[(.ref r0)] h0 n0 (fun v h' => v = some (.ref xb) ∧ h0 = h') := by
  refine Pays.of (ls := #[.val (.ref r0)]) (plainFor_of_name (by first | (simp [plainName, overriddenIn]; done) | decide +kernel)) (fun m => ef_rmB m r0) Z0 (fun p e s m below meth c => ?_)
  refine Run.aloadN 1 d6_0 rfl ?_
  refine Run.getF 4 (Or.inl (hw _ (List.mem_of_getElem? (i := 22) rfl))) (host := "") Via.refl pf1 d6_1 ?_
  refine Run.aloadN 5 d6_4 rfl ?_
  refine Run.getF 8 (Or.inl (hw _ (List.mem_of_getElem? (i := 15) rfl))) (host := "") Via.refl pf0 d6_5 ?_
  refine Run.lenI (Int32.ofNat nn) 9 pf2 d6_8 ?_
  refine Run.eqY 34 d6_9 hpos ?_
  refine Run.aloadN 35 d6_34 rfl ?_
  refine Run.getF 38 (Or.inl (hw _ (List.mem_of_getElem? (i := 15) rfl))) (host := "") Via.refl pf0 d6_35 ?_
  exact Run.retA rfl rfl d6_38 ⟨rfl, rfl⟩
theorem d4_0 : decode prog_103_method_11_code 0 = .ok (.aload_n 1, 1) := by decide +kernel
theorem d4_1 : decode prog_103_method_11_code 1 = .ok (.iconst 0, 1) := by decide +kernel
theorem d4_2 : decode prog_103_method_11_code 2 = .ok (.aload_n 0, 1) := by decide +kernel
theorem d4_3 : decode prog_103_method_11_code 3 = .ok (.getfield 7, 3) := by decide +kernel
theorem d4_6 : decode prog_103_method_11_code 6 = .ok (.aload_n 0, 1) := by decide +kernel
theorem d4_7 : decode prog_103_method_11_code 7 = .ok (.getfield 46, 3) := by decide +kernel
theorem d4_10 : decode prog_103_method_11_code 10 = .ok (.aload_n 1, 1) := by decide +kernel
theorem d4_11 : decode prog_103_method_11_code 11 = .ok (.arraylength, 1) := by decide +kernel
theorem d4_12 : decode prog_103_method_11_code 12 = .ok (.invokestatic 66, 3) := by decide +kernel
theorem d4_15 : decode prog_103_method_11_code 15 = .ok (.aload_n 0, 1) := by decide +kernel
theorem d4_16 : decode prog_103_method_11_code 16 = .ok (.dup, 1) := by decide +kernel
theorem d4_17 : decode prog_103_method_11_code 17 = .ok (.getfield 46, 3) := by decide +kernel
theorem d4_20 : decode prog_103_method_11_code 20 = .ok (.aload_n 1, 1) := by decide +kernel
theorem d4_21 : decode prog_103_method_11_code 21 = .ok (.arraylength, 1) := by decide +kernel
theorem d4_22 : decode prog_103_method_11_code 22 = .ok (.iadd, 1) := by decide +kernel
theorem d4_23 : decode prog_103_method_11_code 23 = .ok (.putfield 46, 3) := by decide +kernel
theorem d4_26 : decode prog_103_method_11_code 26 = .ok (.return_, 1) := by decide +kernel
theorem ef_rmR (m : MethodId) (x0 : Addr) (x1 : Addr) : entryFrame m #[(.ref x0), (.ref x1)] 2 = mkF m 0 #[.val (.ref x0), .val (.ref x1)] [] := by first | (simp [entryFrame, mkF, argsToLocals, Value.category]; done) | rfl
set_option maxRecDepth 65536 in
set_option maxHeartbeats 40000000 in
theorem rmR {l : Launch} {Z : State} {a0 : Array Value} (hw : ∀ d ∈ tables_1, d.before a0 Z = true) (r0 : Addr) (r1 : Addr) (nn : Nat) (xb : Addr) (na : Nat) (h0 : Heap) (n0 : Nat) (Z0 : n0 ≤ h0.size) (pf0 : Exa Z h0 r0 "com/example/tagwire/tagwire/wire/WireWriter") (pf1 : Fld Z h0 r0 "com/example/tagwire/tagwire/wire/WireWriter" "buffer" "[B" (.ref xb)) (pf2 : Fld Z h0 r0 "com/example/tagwire/tagwire/wire/WireWriter" "position" "I" (.int (0 : Int32))) (pf3 : AI Z h0 xb .byte nn (fun _ => 0)) (pf4 : AI Z h0 r1 .byte na (fun _ => 0)) (pf5 : n0 ≤ r0) (pf6 : n0 ≤ xb) (pf7 : r0 ≠ xb) (pf8 : r1 ≠ r0) (pf9 : r1 ≠ xb) (hna : na ≤ nn) :
    Pays l Z (⟨"com/example/tagwire/tagwire/wire/WireWriter", "writeRawBytes", "([B)V"⟩ : MethodName) prog_103_method_11_code 2 none ({ frames := 1, cells := 0, slots := 0, locals := 18 } : Room) #[(.ref r0), (.ref r1)] h0 n0 (fun v h' => v = none ∧ Keep h0 h' [r0, xb] ∧ Exa Z h' r0 "com/example/tagwire/tagwire/wire/WireWriter" ∧ Fld Z h' r0 "com/example/tagwire/tagwire/wire/WireWriter" "buffer" "[B" (.ref xb) ∧ Fld Z h' r0 "com/example/tagwire/tagwire/wire/WireWriter" "position" "I" (.int ((0 : Int32) + Int32.ofNat na)) ∧ AI Z h' xb .byte nn (fun _ => 0)) := by
  refine Pays.of (ls := #[.val (.ref r0), .val (.ref r1)]) (plainFor_of_name (by first | (simp [plainName, overriddenIn]; done) | decide +kernel)) (fun m => ef_rmR m r0 r1) Z0 (fun p e s m below meth c => ?_)
  have hza : (Int32.ofNat na).toInt = na := Int32.toInt_ofNat_small pf4.1
  have hzb : (Int32.ofNat nn).toInt = nn := Int32.toInt_ofNat_small pf3.1
  refine Run.aloadN 1 d4_0 rfl ?_
  refine Run.iconst (0 : Int32) 2 d4_1 ?_
  refine Run.aloadN 3 d4_2 rfl ?_
  refine Run.getF 6 (Or.inl (hw _ (List.mem_of_getElem? (i := 15) rfl))) (host := "") Via.refl pf1 d4_3 ?_
  refine Run.aloadN 7 d4_6 rfl ?_
  refine Run.getF 10 (Or.inl (hw _ (List.mem_of_getElem? (i := 22) rfl))) (host := "") Via.refl pf2 d4_7 ?_
  refine Run.aloadN 11 d4_10 rfl ?_
  refine Run.lenI (Int32.ofNat na) 12 pf4 d4_11 ?_
  refine Run.copy0 15 0 (hw _ (List.mem_of_getElem? (i := 24) rfl)) (hw _ (List.mem_of_getElem? (i := 27) rfl)) (hw _ (List.mem_of_getElem? (i := 25) rfl)) (hw _ (List.mem_of_getElem? (i := 26) rfl)) pf4 pf3 hza hzb ⟨by omega, by omega, by omega⟩ pf6 d4_12 (fun h77 K77 A77 => ?_)
  refine Run.aloadN 16 d4_15 rfl ?_
  refine Run.dup 17 d4_16 ?_
  have f1 := (pf2.keep K77 (ninS pf7 nin0))
  refine Run.getF 20 (Or.inl (hw _ (List.mem_of_getElem? (i := 22) rfl))) (host := "") Via.refl f1 d4_17 ?_
  refine Run.aloadN 21 d4_20 rfl ?_
  have f2 := (pf4.keep K77 (ninS pf9 nin0))
  refine Run.lenI (Int32.ofNat na) 22 f2 d4_21 ?_
  refine Run.iadd ((0 : Int32) + (Int32.ofNat na)) 23 d4_22 ?_
  have f3 := (pf0.keep K77)
  refine Run.putF 26 (Or.inl (hw _ (List.mem_of_getElem? (i := 22) rfl))) (host := "") Via.refl f1 f3 (Or.inl (hw _ (List.mem_of_getElem? (i := 23) rfl))) (hw _ (List.mem_of_getElem? (i := 6) rfl)) (ty := .int) (by decide) pf5 d4_23 (fun h4 W4 => ?_)
  have F4 := f1.same W4
  have f5 := (f3.wr W4)
  have f6 := ((pf1.keep K77 (ninS pf7 nin0)).other W4 (Or.inr (slot_ne (Or.inr (hw _ (List.mem_of_getElem? (i := 16) rfl))) (Or.inl (hw _ (List.mem_of_getElem? (i := 23) rfl))) (by decide) (t := (.array .byte)) (t' := .int) (by decide) (by decide))))
  have f7 := (A77.other W4 (Ne.symm pf7))
  exact Run.retV d4_26 ⟨rfl, (((Keep.refl h0 [r0, xb]).trans K77 (allS (Or.inl (List.mem_of_getElem? (i := 1) rfl)) all0)).wr W4 (Or.inl (List.mem_of_getElem? (i := 0) rfl))), f5, f6, F4, f7⟩
def own_U (v : Int64) : Nat := (v.toInt % 18446744073709551616).toNat
def own_R (v : Int64) : Nat → Int64
  | 0 => v
  | i + 1 => ((own_R v i).toUInt64 >>> ((7 : Int32) &&& 0x3f).toInt64.toUInt64).toInt64
def own_vb (v : Int64) (n i : Nat) : Int32 := if i + 1 < n then ((own_R v i &&& 127) ||| 128).toInt32.toInt8.toInt32 else (own_R v i).toInt32.toInt8.toInt32
def own_vf (f : Nat → Int32) (pos : Int32) (n : Nat) (v : Int64) (q : Nat) : Int32 := if pos.toInt ≤ q ∧ (q : Int) < pos.toInt + n then own_vb v n (q - pos.toInt.toNat) else f q
theorem own_RU (v : Int64) : ∀ i, own_U (own_R v i) = own_U v / 128 ^ i
  | 0 => by simp [own_R]
  | i + 1 => by
    have h := c_lushr (own_R v i) 7 7 (by decide) (by decide)
    have ih := own_RU v i
    show own_U ((own_R v i).toUInt64 >>> ((7 : Int32) &&& 0x3f).toInt64.toUInt64).toInt64 = _
    rw [Nat.pow_succ, ← Nat.div_div_eq_div_mul, ← ih]
    unfold own_U; rw [h]; simp only [show ((2 ^ 7 : Nat) : Int) = 128 from rfl]; omega
theorem own_low (r : Int64) : (r &&& -128) = 0 ↔ own_U r < 128 := by
  have h127 := c_maskL r 127 7 (by decide) (by decide)
  have hr := rng64 r
  constructor
  · intro z
    have e : r = r &&& 127 := by
      have q : r = (r &&& -128) ||| (r &&& 127) := by
        apply Int64.toBitVec_inj.mp
        show r.toBitVec = (r.toBitVec &&& (-128 : Int64).toBitVec) ||| (r.toBitVec &&& (127 : Int64).toBitVec)
        rw [← BitVec.and_or_distrib_left, show ((-128 : Int64).toBitVec ||| (127 : Int64).toBitVec) = BitVec.allOnes 64 from by decide, BitVec.and_allOnes]
      rw [z, Int64.zero_or] at q; exact q
    rw [← e] at h127; unfold own_U; simp only [show ((2 ^ 7 : Nat) : Int) = 128 from rfl] at h127; omega
  · intro z
    have e : r = r &&& 127 := by
      rw [eq64, h127]; unfold own_U at z; simp only [show ((2 ^ 7 : Nat) : Int) = 128 from rfl]; omega
    rw [e, Int64.and_assoc, show (127 : Int64) &&& -128 = 0 from by decide, Int64.and_zero]
theorem own_exit {v : Int64} {n i : Nat} (hi : i < n) (hlo : n = 1 ∨ 128 ^ (n - 1) ≤ own_U v) (h : (own_R v i &&& -128) = 0) : i + 1 = n := by
  rw [own_low, own_RU, Nat.div_lt_iff_lt_mul (Nat.pow_pos (by decide)), Nat.mul_comm, ← Nat.pow_succ] at h
  rcases hlo with e | hlo
  · omega
  · have := (Nat.pow_lt_pow_iff_right (a := 128) (by decide)).mp (Nat.lt_of_le_of_lt hlo h); omega
theorem own_stay {v : Int64} {n i : Nat} (hhi : own_U v < 128 ^ n) (h : ¬ (own_R v i &&& -128) = 0) : i + 1 < n := by
  rw [own_low, own_RU, Nat.div_lt_iff_lt_mul (Nat.pow_pos (by decide)), Nat.mul_comm, ← Nat.pow_succ] at h
  exact (Nat.pow_lt_pow_iff_right (a := 128) (by decide)).mp (Nat.lt_of_le_of_lt (Nat.le_of_not_lt h) hhi)
theorem d5_0 : decode prog_103_method_5_code 0 = .ok (.lload_n 1, 1) := by decide +kernel
theorem d5_1 : decode prog_103_method_5_code 1 = .ok (.lstore_n 3, 1) := by decide +kernel
theorem d5_2 : decode prog_103_method_5_code 2 = .ok (.lload_n 3, 1) := by decide +kernel
theorem d5_3 : decode prog_103_method_5_code 3 = .ok (.ldc2_w 44, 3) := by decide +kernel
theorem d5_6 : decode prog_103_method_5_code 6 = .ok (.land, 1) := by decide +kernel
theorem d5_7 : decode prog_103_method_5_code 7 = .ok (.lconst 0, 1) := by decide +kernel
theorem d5_8 : decode prog_103_method_5_code 8 = .ok (.lcmp, 1) := by decide +kernel
theorem d5_9 : decode prog_103_method_5_code 9 = .ok (.ifCond .eq 38, 3) := by decide +kernel
theorem d5_47 : decode prog_103_method_5_code 47 = .ok (.aload_n 0, 1) := by decide +kernel
theorem d5_48 : decode prog_103_method_5_code 48 = .ok (.getfield 7, 3) := by decide +kernel
theorem d5_51 : decode prog_103_method_5_code 51 = .ok (.aload_n 0, 1) := by decide +kernel
theorem d5_52 : decode prog_103_method_5_code 52 = .ok (.dup, 1) := by decide +kernel
theorem d5_53 : decode prog_103_method_5_code 53 = .ok (.getfield 46, 3) := by decide +kernel
theorem d5_56 : decode prog_103_method_5_code 56 = .ok (.dup_x1, 1) := by decide +kernel
theorem d5_57 : decode prog_103_method_5_code 57 = .ok (.iconst 1, 1) := by decide +kernel
theorem d5_58 : decode prog_103_method_5_code 58 = .ok (.iadd, 1) := by decide +kernel
theorem d5_59 : decode prog_103_method_5_code 59 = .ok (.putfield 46, 3) := by decide +kernel
theorem d5_62 : decode prog_103_method_5_code 62 = .ok (.lload_n 3, 1) := by decide +kernel
theorem d5_63 : decode prog_103_method_5_code 63 = .ok (.l2i, 1) := by decide +kernel
theorem d5_64 : decode prog_103_method_5_code 64 = .ok (.i2b, 1) := by decide +kernel
theorem d5_65 : decode prog_103_method_5_code 65 = .ok (.bastore, 1) := by decide +kernel
theorem d5_66 : decode prog_103_method_5_code 66 = .ok (.return_, 1) := by decide +kernel
theorem d5_12 : decode prog_103_method_5_code 12 = .ok (.aload_n 0, 1) := by decide +kernel
theorem d5_13 : decode prog_103_method_5_code 13 = .ok (.getfield 7, 3) := by decide +kernel
theorem d5_16 : decode prog_103_method_5_code 16 = .ok (.aload_n 0, 1) := by decide +kernel
theorem d5_17 : decode prog_103_method_5_code 17 = .ok (.dup, 1) := by decide +kernel
theorem d5_18 : decode prog_103_method_5_code 18 = .ok (.getfield 46, 3) := by decide +kernel
theorem d5_21 : decode prog_103_method_5_code 21 = .ok (.dup_x1, 1) := by decide +kernel
theorem d5_22 : decode prog_103_method_5_code 22 = .ok (.iconst 1, 1) := by decide +kernel
theorem d5_23 : decode prog_103_method_5_code 23 = .ok (.iadd, 1) := by decide +kernel
theorem d5_24 : decode prog_103_method_5_code 24 = .ok (.putfield 46, 3) := by decide +kernel
theorem d5_27 : decode prog_103_method_5_code 27 = .ok (.lload_n 3, 1) := by decide +kernel
theorem d5_28 : decode prog_103_method_5_code 28 = .ok (.ldc2_w 50, 3) := by decide +kernel
theorem d5_31 : decode prog_103_method_5_code 31 = .ok (.land, 1) := by decide +kernel
theorem d5_32 : decode prog_103_method_5_code 32 = .ok (.ldc2_w 52, 3) := by decide +kernel
theorem d5_35 : decode prog_103_method_5_code 35 = .ok (.lor, 1) := by decide +kernel
theorem d5_36 : decode prog_103_method_5_code 36 = .ok (.l2i, 1) := by decide +kernel
theorem d5_37 : decode prog_103_method_5_code 37 = .ok (.i2b, 1) := by decide +kernel
theorem d5_38 : decode prog_103_method_5_code 38 = .ok (.bastore, 1) := by decide +kernel
theorem d5_39 : decode prog_103_method_5_code 39 = .ok (.lload_n 3, 1) := by decide +kernel
theorem d5_40 : decode prog_103_method_5_code 40 = .ok (.bipush 7, 2) := by decide +kernel
theorem d5_42 : decode prog_103_method_5_code 42 = .ok (.lushr, 1) := by decide +kernel
theorem d5_43 : decode prog_103_method_5_code 43 = .ok (.lstore_n 3, 1) := by decide +kernel
theorem d5_44 : decode prog_103_method_5_code 44 = .ok (.goto (-42), 3) := by decide +kernel
theorem ef_rmV (m : MethodId) (x0 : Addr) (x1 : Int64) : entryFrame m #[(.ref x0), (.long x1)] 5 = mkF m 0 #[.val (.ref x0), .val (.long x1), .second, .unset, .unset] [] := by first | (simp [entryFrame, mkF, argsToLocals, Value.category]; done) | rfl
set_option maxRecDepth 65536 in
set_option maxHeartbeats 40000000 in
theorem rmV {l : Launch} {Z : State} {a0 : Array Value} (hw : ∀ d ∈ tables_1, d.before a0 Z = true) (r0 : Addr) (q1 : Int64) (nn : Nat) (xb : Addr) (pos : Int32) (f : Nat → Int32) (n : Nat) (h0 : Heap) (n0 : Nat) (Z0 : n0 ≤ h0.size) (pf0 : Exa Z h0 r0 "com/example/tagwire/tagwire/wire/WireWriter") (pf1 : Fld Z h0 r0 "com/example/tagwire/tagwire/wire/WireWriter" "buffer" "[B" (.ref xb)) (pf2 : Fld Z h0 r0 "com/example/tagwire/tagwire/wire/WireWriter" "position" "I" (.int pos)) (pf3 : AI Z h0 xb .byte nn f) (pf4 : n0 ≤ r0) (pf5 : n0 ≤ xb) (pf6 : r0 ≠ xb) (hb : 0 ≤ pos.toInt ∧ pos.toInt + n ≤ nn ∧ 1 ≤ n ∧ n ≤ 10 ∧ (n = 1 ∨ 128 ^ (n - 1) ≤ own_U q1) ∧ own_U q1 < 128 ^ n) :
    Pays l Z (⟨"com/example/tagwire/tagwire/wire/WireWriter", "writeVarint", "(J)V"⟩ : MethodName) prog_103_method_5_code 5 none ({ frames := 0, cells := 0, slots := 0, locals := 0 } : Room) #[(.ref r0), (.long q1)] h0 n0 (fun v h' => v = none ∧ Keep h0 h' [r0, xb] ∧ Exa Z h' r0 "com/example/tagwire/tagwire/wire/WireWriter" ∧ Fld Z h' r0 "com/example/tagwire/tagwire/wire/WireWriter" "buffer" "[B" (.ref xb) ∧ Fld Z h' r0 "com/example/tagwire/tagwire/wire/WireWriter" "position" "I" (.int (pos + Int32.ofNat n)) ∧ AI Z h' xb .byte nn (own_vf f pos n q1)) := by
  refine Pays.of (ls := #[.val (.ref r0), .val (.long q1), .second, .unset, .unset]) (plainFor_of_name (by first | (simp [plainName, overriddenIn]; done) | decide +kernel)) (fun m => ef_rmV m r0 q1) Z0 (fun p e s m below meth c => ?_)
  have hnn := pf3.1
  refine Run.lloadN 1 d5_0 rfl ?_
  refine Run.lstoreN 2 #[.val (.ref r0), .val (.long q1), .second, .val (.long q1), .second] d5_1 ?_
  refine Run.ind (ι := Int64) (fun j x hh => Keep h0 hh [r0, xb] ∧ ∃ (i : Nat) (g : Nat → Int32), Exa Z hh r0 "com/example/tagwire/tagwire/wire/WireWriter" ∧ Fld Z hh r0 "com/example/tagwire/tagwire/wire/WireWriter" "buffer" "[B" (.ref xb) ∧ Fld Z hh r0 "com/example/tagwire/tagwire/wire/WireWriter" "position" "I" (.int (pos + Int32.ofNat i)) ∧ AI Z hh xb .byte nn g ∧ i < n ∧ j + i + 1 = n ∧ (x) = own_R q1 i ∧ ∀ q : Nat, q < nn → g q = if pos.toInt ≤ q ∧ (q : Int) < pos.toInt + i then own_vb q1 n (q - pos.toInt.toNat) else f q) (fun x => (mkF m 2 #[.val (.ref r0), .val (.long q1), .second, .val (.long x), .second] [])) (fun j rm hL hP ih => ?_) (n - 1) q1 (by (try dsimp only); exact ⟨Keep.refl h0 [r0, xb], 0, f, pf0, pf1, by rw [show Int32.ofNat 0 = 0 from rfl, Int32.add_zero]; exact pf2, pf3, by omega, by omega, rfl, fun q hq => by rw [if_neg (by omega)]⟩)
  obtain ⟨KP, i, g, EX, FB, FP, AG, hi1, hj, rfl, hg⟩ := hP
  have hio : (Int32.ofNat i).toInt = i := Int32.toInt_ofNat_small (by omega)
  have hpi : (pos + Int32.ofNat i).toInt = pos.toInt + i := add_toInt rfl hio (by omega) (by omega)
  have hpn : ((pos + Int32.ofNat i).toNatClampNeg : Int) = pos.toInt + i := by rw [nat32 (by omega), hpi]
  have hso : pos + Int32.ofNat i + 1 = pos + Int32.ofNat (i + 1) := by rw [eq32, add_toInt rfl (show (Int32.ofNat (i + 1)).toInt = ((i + 1 : Nat) : Int) from Int32.toInt_ofNat_small (by omega)) (by omega) (by omega), inc_toInt (by omega), hpi]; omega
  show Run p l e _ s m _ below meth c Z _ _ _ _ _ n0 _ hL 0 0 (mkF m 2 #[.val (.ref r0), .val (.long q1), .second, .val (.long (own_R q1 i)), .second] [])
  refine Run.lloadN 3 d5_2 rfl ?_
  refine Run.ldcJ 6 (hw _ (List.mem_of_getElem? (i := 33) rfl)) d5_3 ?_
  refine Run.land ((own_R q1 i) &&& (-128 : Int64)) 7 d5_6 ?_
  refine Run.lconst (0 : Int64) 8 d5_7 ?_
  refine Run.leq 47 12 d5_8 d5_9 (fun hc9 => ?_) (fun hc9 => ?_)
  · refine Run.aloadN 48 d5_47 rfl ?_
    refine Run.getF 51 (Or.inl (hw _ (List.mem_of_getElem? (i := 15) rfl))) (host := "") Via.refl FB d5_48 ?_
    refine Run.aloadN 52 d5_51 rfl ?_
    refine Run.dup 53 d5_52 ?_
    refine Run.getF 56 (Or.inl (hw _ (List.mem_of_getElem? (i := 22) rfl))) (host := "") Via.refl FP d5_53 ?_
    refine Run.dupX1 57 d5_56 ?_
    refine Run.iconst (1 : Int32) 58 d5_57 ?_
    refine Run.iadd ((pos + Int32.ofNat i) + (1 : Int32)) 59 d5_58 ?_
    refine Run.putF 62 (Or.inl (hw _ (List.mem_of_getElem? (i := 22) rfl))) (host := "") Via.refl FP EX (Or.inl (hw _ (List.mem_of_getElem? (i := 23) rfl))) (hw _ (List.mem_of_getElem? (i := 6) rfl)) (ty := .int) (by decide) pf4 d5_59 (fun h1 W1 => ?_)
    have F1 := FP.same W1
    refine Run.lloadN 63 d5_62 rfl ?_
    refine Run.l2i (own_R q1 i).toInt32 64 d5_63 ?_
    refine Run.i2b (own_R q1 i).toInt32.toInt8.toInt32 65 d5_64 ?_
    have f2 := (AG.other W1 (Ne.symm pf6))
    refine Run.bastore (own_R q1 i).toInt32.toInt8.toInt32 66 f2 ⟨by omega, by omega⟩ pf5 d5_65 (fun h3 W3 A3 => ?_) (hv := by simp [nar])
    have f4 := ((EX.wr W1).wr W3)
    have f5 := ((FB.other W1 (Or.inr (slot_ne (Or.inr (hw _ (List.mem_of_getElem? (i := 16) rfl))) (Or.inl (hw _ (List.mem_of_getElem? (i := 23) rfl))) (by decide) (t := (.array .byte)) (t' := .int) (by decide) (by decide)))).other W3 (Or.inl pf6))
    have f6 := (F1.other W3 (Or.inl pf6))
    exact Run.retV d5_66 ⟨rfl, ((KP.wr W1 (Or.inl (List.mem_of_getElem? (i := 0) rfl))).wr W3 (Or.inl (List.mem_of_getElem? (i := 1) rfl))), f4, f5, (by have hex := own_exit hi1 hb.2.2.2.2.1 hc9; rw [← hex, ← hso]; exact f6), (A3.cong (fun q hq => by have hex := own_exit hi1 hb.2.2.2.2.1 hc9; unfold own_vf; exact (if hqi : q = (pos + Int32.ofNat i).toNatClampNeg then (by subst hqi; rw [oupd_same, if_pos (by omega), own_vb, show (pos + Int32.ofNat i).toNatClampNeg - pos.toInt.toNat = i from by omega, if_neg (by omega)]) else (by rw [oupd_other _ _ hqi, hg q hq]; exact (if hl : pos.toInt ≤ q ∧ (q : Int) < pos.toInt + i then (by rw [if_pos hl, if_pos (by omega)]) else (by rw [if_neg hl, if_neg (by omega)]))))))⟩
  · refine Run.aloadN 13 d5_12 rfl ?_
    refine Run.getF 16 (Or.inl (hw _ (List.mem_of_getElem? (i := 15) rfl))) (host := "") Via.refl FB d5_13 ?_
    refine Run.aloadN 17 d5_16 rfl ?_
    refine Run.dup 18 d5_17 ?_
    refine Run.getF 21 (Or.inl (hw _ (List.mem_of_getElem? (i := 22) rfl))) (host := "") Via.refl FP d5_18 ?_
    refine Run.dupX1 22 d5_21 ?_
    refine Run.iconst (1 : Int32) 23 d5_22 ?_
    refine Run.iadd ((pos + Int32.ofNat i) + (1 : Int32)) 24 d5_23 ?_
    refine Run.putF 27 (Or.inl (hw _ (List.mem_of_getElem? (i := 22) rfl))) (host := "") Via.refl FP EX (Or.inl (hw _ (List.mem_of_getElem? (i := 23) rfl))) (hw _ (List.mem_of_getElem? (i := 6) rfl)) (ty := .int) (by decide) pf4 d5_24 (fun h7 W7 => ?_)
    have F7 := FP.same W7
    refine Run.lloadN 28 d5_27 rfl ?_
    refine Run.ldcJ 31 (hw _ (List.mem_of_getElem? (i := 50) rfl)) d5_28 ?_
    refine Run.land ((own_R q1 i) &&& (127 : Int64)) 32 d5_31 ?_
    refine Run.ldcJ 35 (hw _ (List.mem_of_getElem? (i := 51) rfl)) d5_32 ?_
    refine Run.lor (((own_R q1 i) &&& (127 : Int64)) ||| (128 : Int64)) 36 d5_35 ?_
    refine Run.l2i (((own_R q1 i) &&& (127 : Int64)) ||| (128 : Int64)).toInt32 37 d5_36 ?_
    obtain ⟨bb, e_bb⟩ : ∃ z, (((own_R q1 i) &&& (127 : Int64)) ||| (128 : Int64)).toInt32.toInt8.toInt32 = z := ⟨_, rfl⟩
    refine Run.i2b bb 38 d5_37 ?_ e_bb
    have f8 := (AG.other W7 (Ne.symm pf6))
    refine Run.bastore bb 39 f8 ⟨by omega, by omega⟩ pf5 d5_38 (fun h9 W9 A9 => ?_) (hv := by rw [← e_bb]; simp [nar])
    refine Run.lloadN 40 d5_39 rfl ?_
    refine Run.bipush (7 : Int32) 42 d5_40 ?_
    refine Run.lushr ((own_R q1 i).toUInt64 >>> ((7 : Int32) &&& 0x3f).toInt64.toUInt64).toInt64 43 d5_42 ?_
    refine Run.lstoreN 44 #[.val (.ref r0), .val (.long q1), .second, .val (.long ((own_R q1 i).toUInt64 >>> ((7 : Int32) &&& 0x3f).toInt64.toUInt64).toInt64), .second] d5_43 ?_
    refine Run.goto 2 d5_44 ?_
    have f10 := ((EX.wr W7).wr W9)
    have f11 := ((FB.other W7 (Or.inr (slot_ne (Or.inr (hw _ (List.mem_of_getElem? (i := 16) rfl))) (Or.inl (hw _ (List.mem_of_getElem? (i := 23) rfl))) (by decide) (t := (.array .byte)) (t' := .int) (by decide) (by decide)))).other W9 (Or.inl pf6))
    have f12 := (F7.other W9 (Or.inl pf6))
    have hst := own_stay hb.2.2.2.2.2 hc9
    refine ih (j - 1) _ _ (by omega) ?_
    try dsimp only
    refine ⟨((KP.wr W7 (Or.inl (List.mem_of_getElem? (i := 0) rfl))).wr W9 (Or.inl (List.mem_of_getElem? (i := 1) rfl))), i + 1, oupd g (pos + Int32.ofNat i).toNatClampNeg bb, f10, f11, (by rw [← hso]; exact f12), A9, by omega, by omega, rfl, fun q hq => ?_⟩
    by_cases hqi : q = (pos + Int32.ofNat i).toNatClampNeg
    · subst hqi; rw [oupd_same, if_pos (by omega), own_vb, show (pos + Int32.ofNat i).toNatClampNeg - pos.toInt.toNat = i from by omega, if_pos hst]; exact e_bb.symm
    · rw [oupd_other _ _ hqi, hg q hq]
      by_cases hl : pos.toInt ≤ q ∧ (q : Int) < pos.toInt + i
      · rw [if_pos hl, if_pos (by omega)]
      · rw [if_neg hl, if_neg (by omega)]
theorem d7_0 : decode method_4_code 0 = .ok (.iload 5, 2) := by decide +kernel
theorem d7_2 : decode method_4_code 2 = .ok (.iload_n 2, 1) := by decide +kernel
theorem d7_3 : decode method_4_code 3 = .ok (.if_icmp .lt 5, 3) := by decide +kernel
theorem d7_8 : decode method_4_code 8 = .ok (.lload_n 3, 1) := by decide +kernel
theorem d7_9 : decode method_4_code 9 = .ok (.bipush 7, 2) := by decide +kernel
theorem d7_11 : decode method_4_code 11 = .ok (.iload 5, 2) := by decide +kernel
theorem d7_13 : decode method_4_code 13 = .ok (.imul, 1) := by decide +kernel
theorem d7_14 : decode method_4_code 14 = .ok (.lushr, 1) := by decide +kernel
theorem d7_15 : decode method_4_code 15 = .ok (.ldc2_w 50, 3) := by decide +kernel
theorem d7_18 : decode method_4_code 18 = .ok (.land, 1) := by decide +kernel
theorem d7_19 : decode method_4_code 19 = .ok (.l2i, 1) := by decide +kernel
theorem d7_20 : decode method_4_code 20 = .ok (.istore 6, 2) := by decide +kernel
theorem d7_22 : decode method_4_code 22 = .ok (.iload 5, 2) := by decide +kernel
theorem d7_24 : decode method_4_code 24 = .ok (.iload_n 2, 1) := by decide +kernel
theorem d7_25 : decode method_4_code 25 = .ok (.iconst 1, 1) := by decide +kernel
theorem d7_26 : decode method_4_code 26 = .ok (.isub, 1) := by decide +kernel
theorem d7_27 : decode method_4_code 27 = .ok (.if_icmp .ge 11, 3) := by decide +kernel
theorem d7_38 : decode method_4_code 38 = .ok (.aload_n 0, 1) := by decide +kernel
theorem d7_39 : decode method_4_code 39 = .ok (.iload_n 1, 1) := by decide +kernel
theorem d7_40 : decode method_4_code 40 = .ok (.iload 5, 2) := by decide +kernel
theorem d7_42 : decode method_4_code 42 = .ok (.iadd, 1) := by decide +kernel
theorem d7_43 : decode method_4_code 43 = .ok (.baload, 1) := by decide +kernel
theorem d7_44 : decode method_4_code 44 = .ok (.iload 6, 2) := by decide +kernel
theorem d7_46 : decode method_4_code 46 = .ok (.i2b, 1) := by decide +kernel
theorem d7_47 : decode method_4_code 47 = .ok (.if_icmp .ne 7, 3) := by decide +kernel
theorem d7_54 : decode method_4_code 54 = .ok (.iconst 0, 1) := by decide +kernel
theorem d7_55 : decode method_4_code 55 = .ok (.ireturn, 1) := by decide +kernel
theorem d7_50 : decode method_4_code 50 = .ok (.iconst 1, 1) := by decide +kernel
theorem d7_51 : decode method_4_code 51 = .ok (.goto 4, 3) := by decide +kernel
theorem d7_30 : decode method_4_code 30 = .ok (.iload 6, 2) := by decide +kernel
theorem d7_32 : decode method_4_code 32 = .ok (.sipush 128, 3) := by decide +kernel
theorem d7_35 : decode method_4_code 35 = .ok (.ior, 1) := by decide +kernel
theorem d7_36 : decode method_4_code 36 = .ok (.istore 6, 2) := by decide +kernel
theorem d7_6 : decode method_4_code 6 = .ok (.iconst 1, 1) := by decide +kernel
theorem d7_7 : decode method_4_code 7 = .ok (.ireturn, 1) := by decide +kernel
def F_rmT (p1 : Int32) (p2 : Int32) (q3 : Int64) (p4 : Int32) (nw : Nat) (f : Nat → Int32) : Int32 := (if p4 < p2 then (if p4 < (p2 - (1 : Int32)) then (if (f (p1 + p4).toNatClampNeg) = (((q3.toUInt64 >>> (((7 : Int32) * p4) &&& 0x3f).toInt64.toUInt64).toInt64 &&& (127 : Int64)).toInt32 ||| (128 : Int32)).toInt8.toInt32 then (1 : Int32) else (0 : Int32)) else (if (f (p1 + p4).toNatClampNeg) = ((q3.toUInt64 >>> (((7 : Int32) * p4) &&& 0x3f).toInt64.toUInt64).toInt64 &&& (127 : Int64)).toInt32.toInt8.toInt32 then (1 : Int32) else (0 : Int32))) else (1 : Int32))
theorem ef_rmT (m : MethodId) (x0 : Addr) (x1 : Int32) (x2 : Int32) (x3 : Int64) (x4 : Int32) : entryFrame m #[(.ref x0), (.int x1), (.int x2), (.long x3), (.int x4)] 7 = mkF m 0 #[.val (.ref x0), .val (.int x1), .val (.int x2), .val (.long x3), .second, .val (.int x4), .unset] [] := by first | (simp [entryFrame, mkF, argsToLocals, Value.category]; done) | rfl
set_option maxRecDepth 65536 in
set_option maxHeartbeats 40000000 in
theorem rmT {l : Launch} {Z : State} {a0 : Array Value} (hw : ∀ d ∈ tables_1, d.before a0 Z = true) (r0 : Addr) (p1 : Int32) (p2 : Int32) (q3 : Int64) (p4 : Int32) (nw : Nat) (f : Nat → Int32) (h0 : Heap) (n0 : Nat) (Z0 : n0 ≤ h0.size) (pf0 : AI Z h0 r0 .byte nw f) (hb : 0 ≤ p1.toInt ∧ 0 ≤ p4.toInt ∧ p1.toInt + p2.toInt = nw ∧ nw < 100) :
    Pays l Z (⟨"com/example/tagwire/tagwire/wire/WireWriterWriteVarintPinLaw", "at", "([BIIJI)Z"⟩ : MethodName) method_4_code 7 (some .boolean) ({ frames := 0, cells := 0, slots := 0, locals := 0 } : Room) #[(.ref r0), (.int p1), (.int p2), (.long q3), (.int p4)] h0 n0 (fun v h' => v = some (.int (F_rmT p1 p2 q3 p4 nw f)) ∧ h0 = h') := by
  refine Pays.of (ls := #[.val (.ref r0), .val (.int p1), .val (.int p2), .val (.long q3), .second, .val (.int p4), .unset]) (plainFor_of_name (by first | (simp [plainName, overriddenIn]; done) | decide +kernel)) (fun m => ef_rmT m r0 p1 p2 q3 p4) Z0 (fun p e s m below meth c => ?_)
  refine Run.iload 2 d7_0 rfl ?_
  refine Run.iloadN 3 d7_2 rfl ?_
  refine Run.lt 8 6 d7_3 (fun hc3 => ?_) (fun hc3 => ?_)
  · refine Run.lloadN 9 d7_8 rfl ?_
    refine Run.bipush (7 : Int32) 11 d7_9 ?_
    refine Run.iload 13 d7_11 rfl ?_
    refine Run.imul ((7 : Int32) * p4) 14 d7_13 ?_
    refine Run.lushr (q3.toUInt64 >>> (((7 : Int32) * p4) &&& 0x3f).toInt64.toUInt64).toInt64 15 d7_14 ?_
    refine Run.ldcJ 18 (hw _ (List.mem_of_getElem? (i := 42) rfl)) d7_15 ?_
    refine Run.land ((q3.toUInt64 >>> (((7 : Int32) * p4) &&& 0x3f).toInt64.toUInt64).toInt64 &&& (127 : Int64)) 19 d7_18 ?_
    refine Run.l2i ((q3.toUInt64 >>> (((7 : Int32) * p4) &&& 0x3f).toInt64.toUInt64).toInt64 &&& (127 : Int64)).toInt32 20 d7_19 ?_
    refine Run.istore 22 #[.val (.ref r0), .val (.int p1), .val (.int p2), .val (.long q3), .second, .val (.int p4), .val (.int ((q3.toUInt64 >>> (((7 : Int32) * p4) &&& 0x3f).toInt64.toUInt64).toInt64 &&& (127 : Int64)).toInt32)] d7_20 ?_
    refine Run.iload 24 d7_22 rfl ?_
    refine Run.iloadN 25 d7_24 rfl ?_
    refine Run.iconst (1 : Int32) 26 d7_25 ?_
    refine Run.isub (p2 - (1 : Int32)) 27 d7_26 ?_
    refine Run.ge 38 30 d7_27 (fun hc27 => ?_) (fun hc27 => ?_)
    · refine Run.aloadN 39 d7_38 rfl ?_
      refine Run.iloadN 40 d7_39 rfl ?_
      refine Run.iload 42 d7_40 rfl ?_
      refine Run.iadd (p1 + p4) 43 d7_42 ?_
      refine Run.baload (f (p1 + p4).toNatClampNeg) 44 pf0 (by rw [add_toInt (x := p1) (y := p4) rfl rfl (by have q := hc3; rw [lt32] at q; omega) (by have q := hc3; rw [lt32] at q; omega)]; have q := hc3; rw [lt32] at q; omega) d7_43 ?_
      refine Run.iload 46 d7_44 rfl ?_
      refine Run.i2b ((q3.toUInt64 >>> (((7 : Int32) * p4) &&& 0x3f).toInt64.toUInt64).toInt64 &&& (127 : Int64)).toInt32.toInt8.toInt32 47 d7_46 ?_
      refine Run.ne 54 50 d7_47 (fun hc47 => ?_) (fun hc47 => ?_)
      · refine Run.iconst (0 : Int32) 55 d7_54 ?_
        exact Run.ret0 d7_55 ⟨congrArg some (congrArg Value.int (by unfold F_rmT; rw [if_pos hc3, if_neg hc27, if_neg hc47])), rfl⟩
      · refine Run.iconst (1 : Int32) 51 d7_50 ?_
        refine Run.goto 55 d7_51 ?_
        exact Run.ret1 d7_55 ⟨congrArg some (congrArg Value.int (by unfold F_rmT; rw [if_pos hc3, if_neg hc27, if_pos hc47])), rfl⟩
    · refine Run.iload 32 d7_30 rfl ?_
      refine Run.sipush (128 : Int32) 35 d7_32 ?_
      refine Run.ior (((q3.toUInt64 >>> (((7 : Int32) * p4) &&& 0x3f).toInt64.toUInt64).toInt64 &&& (127 : Int64)).toInt32 ||| (128 : Int32)) 36 d7_35 ?_
      refine Run.istore 38 #[.val (.ref r0), .val (.int p1), .val (.int p2), .val (.long q3), .second, .val (.int p4), .val (.int (((q3.toUInt64 >>> (((7 : Int32) * p4) &&& 0x3f).toInt64.toUInt64).toInt64 &&& (127 : Int64)).toInt32 ||| (128 : Int32)))] d7_36 ?_
      refine Run.aloadN 39 d7_38 rfl ?_
      refine Run.iloadN 40 d7_39 rfl ?_
      refine Run.iload 42 d7_40 rfl ?_
      refine Run.iadd (p1 + p4) 43 d7_42 ?_
      refine Run.baload (f (p1 + p4).toNatClampNeg) 44 pf0 (by rw [add_toInt (x := p1) (y := p4) rfl rfl (by have q := hc3; rw [lt32] at q; omega) (by have q := hc3; rw [lt32] at q; omega)]; have q := hc3; rw [lt32] at q; omega) d7_43 ?_
      refine Run.iload 46 d7_44 rfl ?_
      refine Run.i2b (((q3.toUInt64 >>> (((7 : Int32) * p4) &&& 0x3f).toInt64.toUInt64).toInt64 &&& (127 : Int64)).toInt32 ||| (128 : Int32)).toInt8.toInt32 47 d7_46 ?_
      refine Run.ne 54 50 d7_47 (fun hc47 => ?_) (fun hc47 => ?_)
      · refine Run.iconst (0 : Int32) 55 d7_54 ?_
        exact Run.ret0 d7_55 ⟨congrArg some (congrArg Value.int (by unfold F_rmT; rw [if_pos hc3, if_pos hc27, if_neg hc47])), rfl⟩
      · refine Run.iconst (1 : Int32) 51 d7_50 ?_
        refine Run.goto 55 d7_51 ?_
        exact Run.ret1 d7_55 ⟨congrArg some (congrArg Value.int (by unfold F_rmT; rw [if_pos hc3, if_pos hc27, if_pos hc47])), rfl⟩
  · refine Run.iconst (1 : Int32) 7 d7_6 ?_
    exact Run.ret1 d7_7 ⟨congrArg some (congrArg Value.int (by unfold F_rmT; rw [if_neg hc3])), rfl⟩
theorem own_el (v : Int64) : ∃ n : Nat, (F_rmE v).toInt = n ∧ 1 ≤ n ∧ n ≤ 10 ∧ (n = 1 ∨ 128 ^ (n - 1) ≤ own_U v) ∧ own_U v < 128 ^ n := by
  have hr := rng64 v
  unfold F_rmE own_U
  simp only [lt64, show (0 : Int64).toInt = 0 from by decide, show (128 : Int64).toInt = 128 from by decide, show (16384 : Int64).toInt = 16384 from by decide, show (2097152 : Int64).toInt = 2097152 from by decide, show (268435456 : Int64).toInt = 268435456 from by decide, show (34359738368 : Int64).toInt = 34359738368 from by decide, show (4398046511104 : Int64).toInt = 4398046511104 from by decide, show (562949953421312 : Int64).toInt = 562949953421312 from by decide, show (72057594037927936 : Int64).toInt = 72057594037927936 from by decide]
  by_cases c0 : v.toInt < 0
  · rw [if_pos c0]; exact ⟨10, by decide, by decide, by decide, Or.inr (by simp only [show (128 : Nat) ^ (10 - 1) = 9223372036854775808 from by decide]; omega), by simp only [show (128 : Nat) ^ 10 = 1180591620717411303424 from by decide]; omega⟩
  rw [if_neg c0]
  by_cases c1 : v.toInt < 128
  · rw [if_pos c1]; exact ⟨1, by decide, by decide, by decide, Or.inl rfl, by simp only [show (128 : Nat) ^ 1 = 128 from by decide]; omega⟩
  rw [if_neg c1]
  by_cases c2 : v.toInt < 16384
  · rw [if_pos c2]; exact ⟨2, by decide, by decide, by decide, Or.inr (by simp only [show (128 : Nat) ^ (2 - 1) = 128 from by decide]; omega), by simp only [show (128 : Nat) ^ 2 = 16384 from by decide]; omega⟩
  rw [if_neg c2]
  by_cases c3 : v.toInt < 2097152
  · rw [if_pos c3]; exact ⟨3, by decide, by decide, by decide, Or.inr (by simp only [show (128 : Nat) ^ (3 - 1) = 16384 from by decide]; omega), by simp only [show (128 : Nat) ^ 3 = 2097152 from by decide]; omega⟩
  rw [if_neg c3]
  by_cases c4 : v.toInt < 268435456
  · rw [if_pos c4]; exact ⟨4, by decide, by decide, by decide, Or.inr (by simp only [show (128 : Nat) ^ (4 - 1) = 2097152 from by decide]; omega), by simp only [show (128 : Nat) ^ 4 = 268435456 from by decide]; omega⟩
  rw [if_neg c4]
  by_cases c5 : v.toInt < 34359738368
  · rw [if_pos c5]; exact ⟨5, by decide, by decide, by decide, Or.inr (by simp only [show (128 : Nat) ^ (5 - 1) = 268435456 from by decide]; omega), by simp only [show (128 : Nat) ^ 5 = 34359738368 from by decide]; omega⟩
  rw [if_neg c5]
  by_cases c6 : v.toInt < 4398046511104
  · rw [if_pos c6]; exact ⟨6, by decide, by decide, by decide, Or.inr (by simp only [show (128 : Nat) ^ (6 - 1) = 34359738368 from by decide]; omega), by simp only [show (128 : Nat) ^ 6 = 4398046511104 from by decide]; omega⟩
  rw [if_neg c6]
  by_cases c7 : v.toInt < 562949953421312
  · rw [if_pos c7]; exact ⟨7, by decide, by decide, by decide, Or.inr (by simp only [show (128 : Nat) ^ (7 - 1) = 4398046511104 from by decide]; omega), by simp only [show (128 : Nat) ^ 7 = 562949953421312 from by decide]; omega⟩
  rw [if_neg c7]
  by_cases c8 : v.toInt < 72057594037927936
  · rw [if_pos c8]; exact ⟨8, by decide, by decide, by decide, Or.inr (by simp only [show (128 : Nat) ^ (8 - 1) = 562949953421312 from by decide]; omega), by simp only [show (128 : Nat) ^ 8 = 72057594037927936 from by decide]; omega⟩
  rw [if_neg c8]
  exact ⟨9, by decide, by decide, by decide, Or.inr (by simp only [show (128 : Nat) ^ (9 - 1) = 72057594037927936 from by decide]; omega), by simp only [show (128 : Nat) ^ 9 = 9223372036854775808 from by decide]; omega⟩
theorem own_Rpos (v : Int64) : ∀ i, 0 < i → 0 ≤ (own_R v i).toInt
  | i + 1, _ => by
    have h := c_lushr (own_R v i) 7 7 (by decide) (by decide)
    show 0 ≤ ((own_R v i).toUInt64 >>> ((7 : Int32) &&& 0x3f).toInt64.toUInt64).toInt64.toInt
    rw [h]; simp only [show ((2 ^ 7 : Nat) : Int) = 128 from rfl]; omega
theorem own_TRk (v : Int64) (i : Nat) (w : Int32) (k : Nat) (hi : 0 < i) (hk : 0 < k) (hp : 128 ^ i = 2 ^ k) (hb : ((7 : Int32) * w).toBitVec.toNat % 64 = k) : (v.toUInt64 >>> (((7 : Int32) * w) &&& 0x3f).toInt64.toUInt64).toInt64 = own_R v i := by
  have h := c_lushr v ((7 : Int32) * w) k hb hk
  have hU := own_RU v i; have hr := own_Rpos v i hi; have hr2 := rng64 (own_R v i)
  have hA : v.toInt % 18446744073709551616 = ((own_U v : Nat) : Int) := by unfold own_U; omega
  have hB : (own_R v i).toInt = ((own_U (own_R v i) : Nat) : Int) := by unfold own_U; omega
  rw [eq64, h, hB, hU, hp, hA]; exact (Int.natCast_ediv _ _).symm
theorem own_TR (v : Int64) (i : Nat) (w : Int32) (hi : i ≤ 9) (hw : w.toInt = i) : (v.toUInt64 >>> (((7 : Int32) * w) &&& 0x3f).toInt64.toUInt64).toInt64 = own_R v i := by
  have hc : w = Int32.ofNat i := by rw [eq32, hw]; exact (Int32.toInt_ofNat_small (by omega)).symm
  subst hc
  match i, hi with
  | 0, _ => show (v.toUInt64 >>> (((7 : Int32) * 0) &&& 0x3f).toInt64.toUInt64).toInt64 = v; rw [show (((7 : Int32) * 0) &&& 0x3f).toInt64.toUInt64 = 0 from by decide]; simp
  | 1, _ => exact own_TRk v 1 1 7 (by decide) (by decide) (by decide) (by decide)
  | 2, _ => exact own_TRk v 2 2 14 (by decide) (by decide) (by decide) (by decide)
  | 3, _ => exact own_TRk v 3 3 21 (by decide) (by decide) (by decide) (by decide)
  | 4, _ => exact own_TRk v 4 4 28 (by decide) (by decide) (by decide) (by decide)
  | 5, _ => exact own_TRk v 5 5 35 (by decide) (by decide) (by decide) (by decide)
  | 6, _ => exact own_TRk v 6 6 42 (by decide) (by decide) (by decide) (by decide)
  | 7, _ => exact own_TRk v 7 7 49 (by decide) (by decide) (by decide) (by decide)
  | 8, _ => exact own_TRk v 8 8 56 (by decide) (by decide) (by decide) (by decide)
  | 9, _ => exact own_TRk v 9 9 63 (by decide) (by decide) (by decide) (by decide)
theorem own_m127 {r : Int64} (z : own_U r < 128) : r &&& 127 = r := by
  have hr := rng64 r
  rw [eq64, c_maskL r 127 7 (by decide) (by decide)]; unfold own_U at z; simp only [show ((2 ^ 7 : Nat) : Int) = 128 from rfl]; omega
theorem own_atc (i : Nat) (w : Int32) (hi : i ≤ 9) (hw : w.toInt = i) {kk en : Int32} {ka n : Nat} {v : Int64} (hk : kk.toInt = ka) (hka : ka < 4) (hn : en.toInt = n) (hn10 : 1 ≤ n ∧ n ≤ 10) (hhi : own_U v < 128 ^ n) (nw : Nat) : ¬ F_rmT kk en v w nw (own_vf (fun _ => 0) kk n v) = 0 := by
  have hq : (kk + w).toNatClampNeg = ka + i := by have h := add_toInt hk hw (by omega) (by omega); have h2 := nat32 (j := kk + w) (by omega); omega
  have hs : (en - 1).toInt = n - 1 := sub_toInt hn (by decide) (by omega) (by omega)
  unfold F_rmT; rw [own_TR v i w hi hw, hq]
  by_cases c1 : w < en
  · rw [if_pos c1]; rw [lt32, hw, hn] at c1
    have hf : own_vf (fun _ => 0) kk n v (ka + i) = own_vb v n i := by
      unfold own_vf; rw [hk, if_pos (by omega), show ka + i - (ka : Int).toNat = i from by omega]
    rw [hf]; unfold own_vb
    by_cases c2 : w < en - 1
    · rw [if_pos c2]; rw [lt32, hw, hs] at c2
      rw [if_pos (show i + 1 < n by omega), if_pos (by simp)]; decide
    · rw [if_neg c2]; rw [lt32, hw, hs] at c2
      have hl : own_U (own_R v i) < 128 := by
        rw [own_RU, Nat.div_lt_iff_lt_mul (Nat.pow_pos (by decide)), Nat.mul_comm, ← Nat.pow_succ, show i.succ = n by omega]; exact hhi
      rw [if_neg (show ¬ i + 1 < n by omega), own_m127 hl, if_pos rfl]; decide
  · rw [if_neg c1]; decide
theorem own_kk {x w : Int32} (h : x &&& 3 = w) : 0 ≤ w.toInt ∧ w.toInt < 4 := by rw [← h, c_mask x 3 2 (by decide) (by decide)]; omega
theorem pd_0 : parseMethodDescriptor "(J)I" = some ⟨[.long], some .int⟩ := by decide +kernel
theorem pd_1 : parseMethodDescriptor "(I)V" = some ⟨[.int], none⟩ := by decide +kernel
theorem pd_2 : parseMethodDescriptor "([B)V" = some ⟨[(.array .byte)], none⟩ := by decide +kernel
theorem pd_3 : parseMethodDescriptor "(J)V" = some ⟨[.long], none⟩ := by decide +kernel
theorem pd_4 : parseMethodDescriptor "()[B" = some ⟨[], some (.array .byte)⟩ := by decide +kernel
theorem pd_5 : parseMethodDescriptor "([BIIJI)Z" = some ⟨[(.array .byte), .int, .int, .long, .int], some .boolean⟩ := by decide +kernel
theorem ef_rm0 (m : MethodId) (x0 : Int64) (x1 : Int32) (x2 : Int32) : entryFrame m #[(.long x0), (.int x1), (.int x2)] maxLocals = mkF m 0 #[.val (.long x0), .second, .val (.int x1), .val (.int x2), .unset, .unset, .unset, .unset, .unset, .unset] [] := by first | (simp [entryFrame, mkF, argsToLocals, Value.category, maxLocals]; done) | rfl
set_option maxRecDepth 65536 in
set_option maxHeartbeats 40000000 in
theorem rm0 {l : Launch} {Z : State} {a0 : Array Value} (hw : ∀ d ∈ tables_1, d.before a0 Z = true) (q0 : Int64) (p1 : Int32) (p2 : Int32) (h0 : Heap) (n0 : Nat) (Z0 : n0 ≤ h0.size) :
    Pays l Z x code maxLocals ret room_1 #[(.long q0), (.int p1), (.int p2)] h0 n0 (fun v _ => v = some (.int 1) ∧ True) := by
  refine Pays.of (ls := #[.val (.long q0), .second, .val (.int p1), .val (.int p2), .unset, .unset, .unset, .unset, .unset, .unset]) (plainFor_of_name (by first | (simp [plainName, overriddenIn]; done) | decide +kernel)) (fun m => ef_rm0 m q0 p1 p2) Z0 (fun p e s m below meth c => ?_)
  show Run p l e _ s m _ below meth c Z "com/example/tagwire/tagwire/wire/WireWriterWriteVarintPinLaw" "law" code 10 (some .boolean) n0 (EndN s n0 _ 16 128) h0 0 0 (mkF m 0 #[.val (.long q0), .second, .val (.int p1), .val (.int p2), .unset, .unset, .unset, .unset, .unset, .unset] [])
  refine Run.lloadN 1 at_0 rfl ?_
  refine Run.iloadN 2 at_1 rfl ?_
  refine Run.bipush (63 : Int32) 4 at_2 ?_
  refine Run.iand (p1 &&& (63 : Int32)) 5 at_4 ?_
  obtain ⟨vv, e_vv⟩ : ∃ z, (q0.toUInt64 >>> ((p1 &&& (63 : Int32)) &&& 0x3f).toInt64.toUInt64).toInt64 = z := ⟨_, rfl⟩
  refine Run.lushr vv 6 at_5 ?_ e_vv
  refine Run.lstore 8 #[.val (.long q0), .second, .val (.int p1), .val (.int p2), .val (.long vv), .second, .unset, .unset, .unset, .unset] at_6 ?_
  refine Run.iloadN 9 at_8 rfl ?_
  refine Run.iconst (3 : Int32) 10 at_9 ?_
  obtain ⟨kk, e_kk⟩ : ∃ z, (p2 &&& (3 : Int32)) = z := ⟨_, rfl⟩
  refine Run.iand kk 11 at_10 ?_ e_kk
  refine Run.istore 13 #[.val (.long q0), .second, .val (.int p1), .val (.int p2), .val (.long vv), .second, .val (.int kk), .unset, .unset, .unset] at_11 ?_
  have hkk := own_kk e_kk
  obtain ⟨ka, hka0⟩ : ∃ ka : Nat, kk.toInt = ka := ⟨kk.toInt.toNat, by omega⟩
  refine Run.lload 15 at_13 rfl ?_
  refine Run.callS 18 0 (argsL := [(.long vv)]) (st := []) (rmE hw vv h0 n0 Z0 ) (hw _ (List.mem_of_getElem? (i := 0) rfl)) (hw _ (List.mem_of_getElem? (i := 1) rfl)) (hw _ (List.mem_of_getElem? (i := 2) rfl)) (hw _ (List.mem_of_getElem? (i := 3) rfl)) pd_0 at_15 (fun v1 h1 => ?_)
  rintro ⟨rfl, rfl⟩
  obtain ⟨en, e_en⟩ : ∃ z, (F_rmE vv) = z := ⟨_, rfl⟩
  rw [e_en]
  show Run p l e _ s m _ below meth c Z _ _ _ _ _ n0 _ h0 0 0 (mkF m 18 #[.val (.long q0), .second, .val (.int p1), .val (.int p2), .val (.long vv), .second, .val (.int kk), .unset, .unset, .unset] [(.int en)])
  obtain ⟨n, hn0⟩ := own_el vv
  rw [e_en] at hn0
  have hsum0 : (kk + en).toInt = kk.toInt + en.toInt := add_toInt rfl rfl (by omega) (by omega)
  obtain ⟨nw, hnw⟩ : ∃ nw : Nat, (kk + en).toInt = nw := ⟨ka + n, by omega⟩
  have hsum : kk.toInt + en.toInt = nw := by omega
  have hcap : nw ≤ 13 := by omega
  have hka : ka ≤ nw := by omega
  have hp0 : ((0 : Int32) + Int32.ofNat ka) = kk := by rw [Int32.zero_add, eq32, hka0]; exact Int32.toInt_ofNat_small (by omega)
  have hvb : 0 ≤ ((0 : Int32) + Int32.ofNat ka).toInt ∧ ((0 : Int32) + Int32.ofNat ka).toInt + n ≤ nw ∧ 1 ≤ n ∧ n ≤ 10 ∧ (n = 1 ∨ 128 ^ (n - 1) ≤ own_U vv) ∧ own_U vv < 128 ^ n := by rw [hp0]; exact ⟨by omega, by omega, hn0.2.1, hn0.2.2.1, hn0.2.2.2.1, hn0.2.2.2.2⟩
  have hpos : ((0 : Int32) + Int32.ofNat ka) + Int32.ofNat n = Int32.ofNat nw := by rw [hp0, eq32, add_toInt rfl (show (Int32.ofNat n).toInt = (n : Int) from Int32.toInt_ofNat_small (by omega)) (by omega) (by omega)]; exact (by omega : kk.toInt + n = (nw : Int)).trans (Int32.toInt_ofNat_small (by omega)).symm
  refine Run.istore 20 #[.val (.long q0), .second, .val (.int p1), .val (.int p2), .val (.long vv), .second, .val (.int kk), .val (.int en), .unset, .unset] at_18 ?_
  refine Run.new 23 (hw _ (List.mem_of_getElem? (i := 5) rfl)) (hw _ (List.mem_of_getElem? (i := 6) rfl)) (hw _ (List.mem_of_getElem? (i := 7) rfl)) at_20 (fun h2 ob2 g2 u2 E2 A2 D2 => ?_)
  have F_buffer_ob2 : Fld Z h2 ob2 "com/example/tagwire/tagwire/wire/WireWriter" "buffer" "[B" .null := D2 (Or.inr (hw _ (List.mem_of_getElem? (i := 16) rfl))) (ty := (.array .byte)) (by decide)
  have F_position_ob2 : Fld Z h2 ob2 "com/example/tagwire/tagwire/wire/WireWriter" "position" "I" (.int (0 : Int32)) := D2 (Or.inl (hw _ (List.mem_of_getElem? (i := 23) rfl))) (ty := .int) (by decide)
  show Run p l e _ s m _ below meth c Z _ _ _ _ _ n0 _ h2 1 2 (mkF m 23 #[.val (.long q0), .second, .val (.int p1), .val (.int p2), .val (.long vv), .second, .val (.int kk), .val (.int en), .unset, .unset] [(.ref ob2)])
  refine Run.dup 24 at_23 ?_
  refine Run.iload 26 at_24 rfl ?_
  refine Run.iload 28 at_26 rfl ?_
  refine Run.iadd (kk + en) 29 at_28 ?_
  refine Run.sz fun hsz_h2 => ?_
  refine Run.callC 32 1 (a := ob2) (argsL := [(.int (kk + en))]) (st := [(.ref ob2)]) (rmI hw ob2 (kk + en) nw h2 n0 hsz_h2 A2 F_buffer_ob2 F_position_ob2 u2 hnw hcap) (hw _ (List.mem_of_getElem? (i := 8) rfl)) (hw _ (List.mem_of_getElem? (i := 9) rfl)) (hw _ (List.mem_of_getElem? (i := 7) rfl)) (hw _ (List.mem_of_getElem? (i := 10) rfl)) pd_1 at_29 (fun v3 h3 => ?_)
  rintro ⟨xb_3, rfl, K3, sz_xb_3, G3_0, G3_1, G3_2, G3_3⟩
  have ne_ob2_xb_3 : ob2 ≠ xb_3 := Nat.ne_of_lt (Nat.lt_of_lt_of_le A2.lt sz_xb_3)
  have u_xb_3 : n0 ≤ xb_3 := Nat.le_trans hsz_h2 sz_xb_3
  show Run p l e _ s m _ below meth c Z _ _ _ _ _ n0 _ h3 2 15 (mkF m 32 #[.val (.long q0), .second, .val (.int p1), .val (.int p2), .val (.long vv), .second, .val (.int kk), .val (.int en), .unset, .unset] [(.ref ob2)])
  refine Run.astore 34 #[.val (.long q0), .second, .val (.int p1), .val (.int p2), .val (.long vv), .second, .val (.int kk), .val (.int en), .val (.ref ob2), .unset] at_32 ?_
  refine Run.aload 36 at_34 rfl ?_
  refine Run.iload 38 at_36 rfl ?_
  refine Run.new_byte 40 ka 3 (hw _ (List.mem_of_getElem? (i := 14) rfl)) hka0 at_38 (fun h4 ob4 g4 u4 E4 A4 => ?_) (hcap := by omega)
  have ne_ob2_ob4 : ob2 ≠ ob4 := Nat.ne_of_lt (Nat.lt_of_lt_of_le G3_0.lt (Nat.le_of_eq g4.symm))
  have ne_xb_3_ob4 : xb_3 ≠ ob4 := Nat.ne_of_lt (Nat.lt_of_lt_of_le G3_3.lt (Nat.le_of_eq g4.symm))
  show Run p l e _ s m _ below meth c Z _ _ _ _ _ n0 _ h4 3 18 (mkF m 40 #[.val (.long q0), .second, .val (.int p1), .val (.int p2), .val (.long vv), .second, .val (.int kk), .val (.int en), .val (.ref ob2), .unset] [(.ref ob4), (.ref ob2)])
  refine Run.sz fun hsz_h4 => ?_
  have f6 := (G3_0.ext E4)
  have f7 := (G3_2.ext E4)
  have f8 := (G3_1.ext E4)
  have f9 := (G3_3.ext E4)
  refine Run.callV 43 0 (a := ob2) (argsL := [(.ref ob4)]) (st := []) (rmR hw ob2 ob4 nw xb_3 ka h4 n0 hsz_h4 f6 f7 f8 f9 A4 u2 u_xb_3 ne_ob2_xb_3 (Ne.symm ne_ob2_ob4) (Ne.symm ne_xb_3_ob4) hka) f6 (hw _ (List.mem_of_getElem? (i := 17) rfl)) (hw _ (List.mem_of_getElem? (i := 18) rfl)) (hw _ (List.mem_of_getElem? (i := 20) rfl)) (hw _ (List.mem_of_getElem? (i := 19) rfl)) (hw _ (List.mem_of_getElem? (i := 7) rfl)) (hw _ (List.mem_of_getElem? (i := 21) rfl)) pd_2 at_40 (fun v5 h5 => ?_)
  rintro ⟨rfl, K5, G5_0, G5_1, G5_2, G5_3⟩
  show Run p l e _ s m _ below meth c Z _ _ _ _ _ n0 _ h5 3 18 (mkF m 43 #[.val (.long q0), .second, .val (.int p1), .val (.int p2), .val (.long vv), .second, .val (.int kk), .val (.int en), .val (.ref ob2), .unset] [])
  refine Run.aload 45 at_43 rfl ?_
  refine Run.lload 47 at_45 rfl ?_
  refine Run.sz fun hsz_h5 => ?_
  refine Run.callV 50 0 (a := ob2) (argsL := [(.long vv)]) (st := []) (rmV hw ob2 vv nw xb_3 ((0 : Int32) + Int32.ofNat ka) (fun _ => 0) n h5 n0 hsz_h5 G5_0 G5_1 G5_2 G5_3 u2 u_xb_3 ne_ob2_xb_3 hvb) G5_0 (hw _ (List.mem_of_getElem? (i := 28) rfl)) (hw _ (List.mem_of_getElem? (i := 29) rfl)) (hw _ (List.mem_of_getElem? (i := 31) rfl)) (hw _ (List.mem_of_getElem? (i := 30) rfl)) (hw _ (List.mem_of_getElem? (i := 7) rfl)) (hw _ (List.mem_of_getElem? (i := 32) rfl)) pd_3 at_47 (fun v10 h10 => ?_)
  rintro ⟨rfl, K10, G10_0, G10_1, G10_2, G10_3⟩
  show Run p l e _ s m _ below meth c Z _ _ _ _ _ n0 _ h10 3 18 (mkF m 50 #[.val (.long q0), .second, .val (.int p1), .val (.int p2), .val (.long vv), .second, .val (.int kk), .val (.int en), .val (.ref ob2), .unset] [])
  refine Run.aload 52 at_50 rfl ?_
  refine Run.sz fun hsz_h10 => ?_
  refine Run.callV 55 0 (a := ob2) (argsL := []) (st := []) (rmB hw ob2 nw xb_3 (((0 : Int32) + Int32.ofNat ka) + Int32.ofNat n) (own_vf (fun _ => 0) ((0 : Int32) + Int32.ofNat ka) n vv) h10 n0 hsz_h10 G10_1 G10_2 G10_3 hpos) G10_0 (hw _ (List.mem_of_getElem? (i := 34) rfl)) (hw _ (List.mem_of_getElem? (i := 35) rfl)) (hw _ (List.mem_of_getElem? (i := 37) rfl)) (hw _ (List.mem_of_getElem? (i := 36) rfl)) (hw _ (List.mem_of_getElem? (i := 7) rfl)) (hw _ (List.mem_of_getElem? (i := 38) rfl)) pd_4 at_52 (fun v11 h11 => ?_)
  rintro ⟨rfl, rfl⟩
  show Run p l e _ s m _ below meth c Z _ _ _ _ _ n0 _ h10 3 18 (mkF m 55 #[.val (.long q0), .second, .val (.int p1), .val (.int p2), .val (.long vv), .second, .val (.int kk), .val (.int en), .val (.ref ob2), .unset] [(.ref xb_3)])
  refine Run.astore 57 #[.val (.long q0), .second, .val (.int p1), .val (.int p2), .val (.long vv), .second, .val (.int kk), .val (.int en), .val (.ref ob2), .val (.ref xb_3)] at_55 ?_
  refine Run.aload 59 at_57 rfl ?_
  refine Run.lenI (Int32.ofNat nw) 60 G10_3 at_59 ?_
  refine Run.iload 62 at_60 rfl ?_
  refine Run.iload 64 at_62 rfl ?_
  refine Run.iadd (kk + en) 65 at_64 ?_
  refine Run.neN 68 at_65 (by rw [eq32, hsum0, show (Int32.ofNat nw).toInt = nw from Int32.toInt_ofNat_small (by omega)]; omega) ?_
  refine Run.aload 70 at_68 rfl ?_
  refine Run.iload 72 at_70 rfl ?_
  refine Run.iload 74 at_72 rfl ?_
  refine Run.lload 76 at_74 rfl ?_
  refine Run.iconst (0 : Int32) 77 at_76 ?_
  refine Run.callS 80 0 (argsL := [(.ref xb_3), (.int kk), (.int en), (.long vv), (.int (0 : Int32))]) (st := []) (rmT hw xb_3 kk en vv (0 : Int32) nw (own_vf (fun _ => 0) ((0 : Int32) + Int32.ofNat ka) n vv) h10 n0 hsz_h10 G10_3 ⟨hkk.1, by decide, hsum, by omega⟩) (hw _ (List.mem_of_getElem? (i := 39) rfl)) (hw _ (List.mem_of_getElem? (i := 40) rfl)) (hw _ (List.mem_of_getElem? (i := 2) rfl)) (hw _ (List.mem_of_getElem? (i := 41) rfl)) pd_5 at_77 (fun v12 h12 => ?_)
  rintro ⟨rfl, rfl⟩
  show Run p l e _ s m _ below meth c Z _ _ _ _ _ n0 _ h10 3 18 (mkF m 80 #[.val (.long q0), .second, .val (.int p1), .val (.int p2), .val (.long vv), .second, .val (.int kk), .val (.int en), .val (.ref ob2), .val (.ref xb_3)] [(.int (F_rmT kk en vv (0 : Int32) nw (own_vf (fun _ => 0) ((0 : Int32) + Int32.ofNat ka) n vv)))])
  refine Run.eq0N 83 at_80 (by rw [hp0]; exact own_atc 0 0 (by decide) (by decide) hka0 (by omega) hn0.1 ⟨hn0.2.1, hn0.2.2.1⟩ hn0.2.2.2.2 nw) ?_
  refine Run.aload 85 at_83 rfl ?_
  refine Run.iload 87 at_85 rfl ?_
  refine Run.iload 89 at_87 rfl ?_
  refine Run.lload 91 at_89 rfl ?_
  refine Run.iconst (1 : Int32) 92 at_91 ?_
  refine Run.callS 95 0 (argsL := [(.ref xb_3), (.int kk), (.int en), (.long vv), (.int (1 : Int32))]) (st := []) (rmT hw xb_3 kk en vv (1 : Int32) nw (own_vf (fun _ => 0) ((0 : Int32) + Int32.ofNat ka) n vv) h10 n0 hsz_h10 G10_3 ⟨hkk.1, by decide, hsum, by omega⟩) (hw _ (List.mem_of_getElem? (i := 39) rfl)) (hw _ (List.mem_of_getElem? (i := 40) rfl)) (hw _ (List.mem_of_getElem? (i := 2) rfl)) (hw _ (List.mem_of_getElem? (i := 41) rfl)) pd_5 at_92 (fun v13 h13 => ?_)
  rintro ⟨rfl, rfl⟩
  show Run p l e _ s m _ below meth c Z _ _ _ _ _ n0 _ h10 3 18 (mkF m 95 #[.val (.long q0), .second, .val (.int p1), .val (.int p2), .val (.long vv), .second, .val (.int kk), .val (.int en), .val (.ref ob2), .val (.ref xb_3)] [(.int (F_rmT kk en vv (1 : Int32) nw (own_vf (fun _ => 0) ((0 : Int32) + Int32.ofNat ka) n vv)))])
  refine Run.eq0N 98 at_95 (by rw [hp0]; exact own_atc 1 1 (by decide) (by decide) hka0 (by omega) hn0.1 ⟨hn0.2.1, hn0.2.2.1⟩ hn0.2.2.2.2 nw) ?_
  refine Run.aload 100 at_98 rfl ?_
  refine Run.iload 102 at_100 rfl ?_
  refine Run.iload 104 at_102 rfl ?_
  refine Run.lload 106 at_104 rfl ?_
  refine Run.iconst (2 : Int32) 107 at_106 ?_
  refine Run.callS 110 0 (argsL := [(.ref xb_3), (.int kk), (.int en), (.long vv), (.int (2 : Int32))]) (st := []) (rmT hw xb_3 kk en vv (2 : Int32) nw (own_vf (fun _ => 0) ((0 : Int32) + Int32.ofNat ka) n vv) h10 n0 hsz_h10 G10_3 ⟨hkk.1, by decide, hsum, by omega⟩) (hw _ (List.mem_of_getElem? (i := 39) rfl)) (hw _ (List.mem_of_getElem? (i := 40) rfl)) (hw _ (List.mem_of_getElem? (i := 2) rfl)) (hw _ (List.mem_of_getElem? (i := 41) rfl)) pd_5 at_107 (fun v14 h14 => ?_)
  rintro ⟨rfl, rfl⟩
  show Run p l e _ s m _ below meth c Z _ _ _ _ _ n0 _ h10 3 18 (mkF m 110 #[.val (.long q0), .second, .val (.int p1), .val (.int p2), .val (.long vv), .second, .val (.int kk), .val (.int en), .val (.ref ob2), .val (.ref xb_3)] [(.int (F_rmT kk en vv (2 : Int32) nw (own_vf (fun _ => 0) ((0 : Int32) + Int32.ofNat ka) n vv)))])
  refine Run.eq0N 113 at_110 (by rw [hp0]; exact own_atc 2 2 (by decide) (by decide) hka0 (by omega) hn0.1 ⟨hn0.2.1, hn0.2.2.1⟩ hn0.2.2.2.2 nw) ?_
  refine Run.aload 115 at_113 rfl ?_
  refine Run.iload 117 at_115 rfl ?_
  refine Run.iload 119 at_117 rfl ?_
  refine Run.lload 121 at_119 rfl ?_
  refine Run.iconst (3 : Int32) 122 at_121 ?_
  refine Run.callS 125 0 (argsL := [(.ref xb_3), (.int kk), (.int en), (.long vv), (.int (3 : Int32))]) (st := []) (rmT hw xb_3 kk en vv (3 : Int32) nw (own_vf (fun _ => 0) ((0 : Int32) + Int32.ofNat ka) n vv) h10 n0 hsz_h10 G10_3 ⟨hkk.1, by decide, hsum, by omega⟩) (hw _ (List.mem_of_getElem? (i := 39) rfl)) (hw _ (List.mem_of_getElem? (i := 40) rfl)) (hw _ (List.mem_of_getElem? (i := 2) rfl)) (hw _ (List.mem_of_getElem? (i := 41) rfl)) pd_5 at_122 (fun v15 h15 => ?_)
  rintro ⟨rfl, rfl⟩
  show Run p l e _ s m _ below meth c Z _ _ _ _ _ n0 _ h10 3 18 (mkF m 125 #[.val (.long q0), .second, .val (.int p1), .val (.int p2), .val (.long vv), .second, .val (.int kk), .val (.int en), .val (.ref ob2), .val (.ref xb_3)] [(.int (F_rmT kk en vv (3 : Int32) nw (own_vf (fun _ => 0) ((0 : Int32) + Int32.ofNat ka) n vv)))])
  refine Run.eq0N 128 at_125 (by rw [hp0]; exact own_atc 3 3 (by decide) (by decide) hka0 (by omega) hn0.1 ⟨hn0.2.1, hn0.2.2.1⟩ hn0.2.2.2.2 nw) ?_
  refine Run.aload 130 at_128 rfl ?_
  refine Run.iload 132 at_130 rfl ?_
  refine Run.iload 134 at_132 rfl ?_
  refine Run.lload 136 at_134 rfl ?_
  refine Run.iconst (4 : Int32) 137 at_136 ?_
  refine Run.callS 140 0 (argsL := [(.ref xb_3), (.int kk), (.int en), (.long vv), (.int (4 : Int32))]) (st := []) (rmT hw xb_3 kk en vv (4 : Int32) nw (own_vf (fun _ => 0) ((0 : Int32) + Int32.ofNat ka) n vv) h10 n0 hsz_h10 G10_3 ⟨hkk.1, by decide, hsum, by omega⟩) (hw _ (List.mem_of_getElem? (i := 39) rfl)) (hw _ (List.mem_of_getElem? (i := 40) rfl)) (hw _ (List.mem_of_getElem? (i := 2) rfl)) (hw _ (List.mem_of_getElem? (i := 41) rfl)) pd_5 at_137 (fun v16 h16 => ?_)
  rintro ⟨rfl, rfl⟩
  show Run p l e _ s m _ below meth c Z _ _ _ _ _ n0 _ h10 3 18 (mkF m 140 #[.val (.long q0), .second, .val (.int p1), .val (.int p2), .val (.long vv), .second, .val (.int kk), .val (.int en), .val (.ref ob2), .val (.ref xb_3)] [(.int (F_rmT kk en vv (4 : Int32) nw (own_vf (fun _ => 0) ((0 : Int32) + Int32.ofNat ka) n vv)))])
  refine Run.eq0N 143 at_140 (by rw [hp0]; exact own_atc 4 4 (by decide) (by decide) hka0 (by omega) hn0.1 ⟨hn0.2.1, hn0.2.2.1⟩ hn0.2.2.2.2 nw) ?_
  refine Run.aload 145 at_143 rfl ?_
  refine Run.iload 147 at_145 rfl ?_
  refine Run.iload 149 at_147 rfl ?_
  refine Run.lload 151 at_149 rfl ?_
  refine Run.iconst (5 : Int32) 152 at_151 ?_
  refine Run.callS 155 0 (argsL := [(.ref xb_3), (.int kk), (.int en), (.long vv), (.int (5 : Int32))]) (st := []) (rmT hw xb_3 kk en vv (5 : Int32) nw (own_vf (fun _ => 0) ((0 : Int32) + Int32.ofNat ka) n vv) h10 n0 hsz_h10 G10_3 ⟨hkk.1, by decide, hsum, by omega⟩) (hw _ (List.mem_of_getElem? (i := 39) rfl)) (hw _ (List.mem_of_getElem? (i := 40) rfl)) (hw _ (List.mem_of_getElem? (i := 2) rfl)) (hw _ (List.mem_of_getElem? (i := 41) rfl)) pd_5 at_152 (fun v17 h17 => ?_)
  rintro ⟨rfl, rfl⟩
  show Run p l e _ s m _ below meth c Z _ _ _ _ _ n0 _ h10 3 18 (mkF m 155 #[.val (.long q0), .second, .val (.int p1), .val (.int p2), .val (.long vv), .second, .val (.int kk), .val (.int en), .val (.ref ob2), .val (.ref xb_3)] [(.int (F_rmT kk en vv (5 : Int32) nw (own_vf (fun _ => 0) ((0 : Int32) + Int32.ofNat ka) n vv)))])
  refine Run.eq0N 158 at_155 (by rw [hp0]; exact own_atc 5 5 (by decide) (by decide) hka0 (by omega) hn0.1 ⟨hn0.2.1, hn0.2.2.1⟩ hn0.2.2.2.2 nw) ?_
  refine Run.aload 160 at_158 rfl ?_
  refine Run.iload 162 at_160 rfl ?_
  refine Run.iload 164 at_162 rfl ?_
  refine Run.lload 166 at_164 rfl ?_
  refine Run.bipush (6 : Int32) 168 at_166 ?_
  refine Run.callS 171 0 (argsL := [(.ref xb_3), (.int kk), (.int en), (.long vv), (.int (6 : Int32))]) (st := []) (rmT hw xb_3 kk en vv (6 : Int32) nw (own_vf (fun _ => 0) ((0 : Int32) + Int32.ofNat ka) n vv) h10 n0 hsz_h10 G10_3 ⟨hkk.1, by decide, hsum, by omega⟩) (hw _ (List.mem_of_getElem? (i := 39) rfl)) (hw _ (List.mem_of_getElem? (i := 40) rfl)) (hw _ (List.mem_of_getElem? (i := 2) rfl)) (hw _ (List.mem_of_getElem? (i := 41) rfl)) pd_5 at_168 (fun v18 h18 => ?_)
  rintro ⟨rfl, rfl⟩
  show Run p l e _ s m _ below meth c Z _ _ _ _ _ n0 _ h10 3 18 (mkF m 171 #[.val (.long q0), .second, .val (.int p1), .val (.int p2), .val (.long vv), .second, .val (.int kk), .val (.int en), .val (.ref ob2), .val (.ref xb_3)] [(.int (F_rmT kk en vv (6 : Int32) nw (own_vf (fun _ => 0) ((0 : Int32) + Int32.ofNat ka) n vv)))])
  refine Run.eq0N 174 at_171 (by rw [hp0]; exact own_atc 6 6 (by decide) (by decide) hka0 (by omega) hn0.1 ⟨hn0.2.1, hn0.2.2.1⟩ hn0.2.2.2.2 nw) ?_
  refine Run.aload 176 at_174 rfl ?_
  refine Run.iload 178 at_176 rfl ?_
  refine Run.iload 180 at_178 rfl ?_
  refine Run.lload 182 at_180 rfl ?_
  refine Run.bipush (7 : Int32) 184 at_182 ?_
  refine Run.callS 187 0 (argsL := [(.ref xb_3), (.int kk), (.int en), (.long vv), (.int (7 : Int32))]) (st := []) (rmT hw xb_3 kk en vv (7 : Int32) nw (own_vf (fun _ => 0) ((0 : Int32) + Int32.ofNat ka) n vv) h10 n0 hsz_h10 G10_3 ⟨hkk.1, by decide, hsum, by omega⟩) (hw _ (List.mem_of_getElem? (i := 39) rfl)) (hw _ (List.mem_of_getElem? (i := 40) rfl)) (hw _ (List.mem_of_getElem? (i := 2) rfl)) (hw _ (List.mem_of_getElem? (i := 41) rfl)) pd_5 at_184 (fun v19 h19 => ?_)
  rintro ⟨rfl, rfl⟩
  show Run p l e _ s m _ below meth c Z _ _ _ _ _ n0 _ h10 3 18 (mkF m 187 #[.val (.long q0), .second, .val (.int p1), .val (.int p2), .val (.long vv), .second, .val (.int kk), .val (.int en), .val (.ref ob2), .val (.ref xb_3)] [(.int (F_rmT kk en vv (7 : Int32) nw (own_vf (fun _ => 0) ((0 : Int32) + Int32.ofNat ka) n vv)))])
  refine Run.eq0N 190 at_187 (by rw [hp0]; exact own_atc 7 7 (by decide) (by decide) hka0 (by omega) hn0.1 ⟨hn0.2.1, hn0.2.2.1⟩ hn0.2.2.2.2 nw) ?_
  refine Run.aload 192 at_190 rfl ?_
  refine Run.iload 194 at_192 rfl ?_
  refine Run.iload 196 at_194 rfl ?_
  refine Run.lload 198 at_196 rfl ?_
  refine Run.bipush (8 : Int32) 200 at_198 ?_
  refine Run.callS 203 0 (argsL := [(.ref xb_3), (.int kk), (.int en), (.long vv), (.int (8 : Int32))]) (st := []) (rmT hw xb_3 kk en vv (8 : Int32) nw (own_vf (fun _ => 0) ((0 : Int32) + Int32.ofNat ka) n vv) h10 n0 hsz_h10 G10_3 ⟨hkk.1, by decide, hsum, by omega⟩) (hw _ (List.mem_of_getElem? (i := 39) rfl)) (hw _ (List.mem_of_getElem? (i := 40) rfl)) (hw _ (List.mem_of_getElem? (i := 2) rfl)) (hw _ (List.mem_of_getElem? (i := 41) rfl)) pd_5 at_200 (fun v20 h20 => ?_)
  rintro ⟨rfl, rfl⟩
  show Run p l e _ s m _ below meth c Z _ _ _ _ _ n0 _ h10 3 18 (mkF m 203 #[.val (.long q0), .second, .val (.int p1), .val (.int p2), .val (.long vv), .second, .val (.int kk), .val (.int en), .val (.ref ob2), .val (.ref xb_3)] [(.int (F_rmT kk en vv (8 : Int32) nw (own_vf (fun _ => 0) ((0 : Int32) + Int32.ofNat ka) n vv)))])
  refine Run.eq0N 206 at_203 (by rw [hp0]; exact own_atc 8 8 (by decide) (by decide) hka0 (by omega) hn0.1 ⟨hn0.2.1, hn0.2.2.1⟩ hn0.2.2.2.2 nw) ?_
  refine Run.aload 208 at_206 rfl ?_
  refine Run.iload 210 at_208 rfl ?_
  refine Run.iload 212 at_210 rfl ?_
  refine Run.lload 214 at_212 rfl ?_
  refine Run.bipush (9 : Int32) 216 at_214 ?_
  refine Run.callS 219 0 (argsL := [(.ref xb_3), (.int kk), (.int en), (.long vv), (.int (9 : Int32))]) (st := []) (rmT hw xb_3 kk en vv (9 : Int32) nw (own_vf (fun _ => 0) ((0 : Int32) + Int32.ofNat ka) n vv) h10 n0 hsz_h10 G10_3 ⟨hkk.1, by decide, hsum, by omega⟩) (hw _ (List.mem_of_getElem? (i := 39) rfl)) (hw _ (List.mem_of_getElem? (i := 40) rfl)) (hw _ (List.mem_of_getElem? (i := 2) rfl)) (hw _ (List.mem_of_getElem? (i := 41) rfl)) pd_5 at_216 (fun v21 h21 => ?_)
  rintro ⟨rfl, rfl⟩
  show Run p l e _ s m _ below meth c Z _ _ _ _ _ n0 _ h10 3 18 (mkF m 219 #[.val (.long q0), .second, .val (.int p1), .val (.int p2), .val (.long vv), .second, .val (.int kk), .val (.int en), .val (.ref ob2), .val (.ref xb_3)] [(.int (F_rmT kk en vv (9 : Int32) nw (own_vf (fun _ => 0) ((0 : Int32) + Int32.ofNat ka) n vv)))])
  refine Run.eq0N 222 at_219 (by rw [hp0]; exact own_atc 9 9 (by decide) (by decide) hka0 (by omega) hn0.1 ⟨hn0.2.1, hn0.2.2.1⟩ hn0.2.2.2.2 nw) ?_
  refine Run.iconst (1 : Int32) 223 at_222 ?_
  refine Run.goto 227 at_223 ?_
  exact Run.ret1 at_227 ⟨rfl, trivial⟩
set_option maxRecDepth 65536 in
set_option maxHeartbeats 40000000 in
theorem comes_1 {Post : Tables → Env → Array Value → State → Outcome → State → Prop} (hpost : ∀ tb e args s v u, (limb_1_1.after args s (.returned v) u = true ∧ limb_1_2.after args s (.returned v) u = true ∧ True) → FrameEnd s (.returned v) u (Jvm.fieldLocs frame_1_writes args s ++ Jvm.arrayLocs frame_1_arrays args s ++ Jvm.staticLocs frame_1_statics s) 16 128 → Post tb e args s (.returned v) u) :
    ArmFor flags0 classFile x code maxLocals ret World_1 tables_1 room_1 Calls_1 rest_1 Pre_1 Post := by
  intro l hfl _ _ p e ha hc hk s m args below hf hA hF happ hP
  obtain ⟨hcalls, hrest, hpre⟩ := hP
  obtain ⟨-, -, -, hnamed, -, -, -, hat⟩ := (Spec.applies_iff hf).mp happ
  obtain ⟨hg, hn⟩ := and_e (Cond.before_iff.mp (show (Jvm.Cond.and given_1 narrow_1).before args s = true from hpre))
  obtain ⟨g1, g2⟩ := and_e hg
  obtain ⟨g3, g4⟩ := and_e g2
  obtain ⟨g5, g6⟩ := and_e g4
  obtain ⟨w0, w1, w2, rfl⟩ : ∃ w0 w1 w2 : Value, args = #[w0, w1, w2] := by
    have hs : args.size = 3 := by simpa [Cond.value, given_1] using g1
    obtain ⟨L⟩ := args
    match L, hs with
    | [w0, w1, w2], _ => exact ⟨w0, w1, w2, rfl⟩
  have hw := fun d (hd : d ∈ tables_1) => atoms_spec (ws := Jvm.Cond.code x code maxLocals ret :: tables_1) hat d (List.mem_cons_of_mem _ hd)
  obtain ⟨i0, ei0⟩ := isL_v g3
  obtain rfl : w0 = (.long i0) := Option.some.inj ei0
  obtain ⟨i1, ei1⟩ := is_v g5
  obtain rfl : w1 = (.int i1) := Option.some.inj ei1
  obtain ⟨i2, ei2⟩ := is_v g6
  obtain rfl : w2 = (.int i2) := Option.some.inj ei2
  obtain ⟨n, o, h1, h2, h3, _, L, rfl, ⟨⟨rfl, _⟩, N⟩, hq⟩ := rm0 (l := l) hw i0 i1 i2 s.heap s.heap.size (Nat.le_refl _) tables_1 p e ha hc hk s m _ below hf ((Spec.applies_iff_loose hf).mp happ).1 ⟨rfl, State.Warmed39.refl s, rfl⟩ trivial
  refine ⟨n, _, h1, h2, h3, hpost _ _ _ _ _ _ ⟨Cond.after_iff.mpr rfl, Cond.after_iff.mpr (eq_i res_at (Term.int_eval (1)) rfl), trivial⟩ ⟨hq.1, hq.2.1, (hq.2.2.sift fun y hy => Or.inr (N y hy)).mono (by decide) (by decide)⟩⟩
theorem main_1_1 : Claimed_1_1 := comes_1 fun _ _ _ _ _ _ h hF => ⟨h.1, hF⟩
theorem main_1_2 : Claimed_1_2 := comes_1 fun _ _ _ _ _ _ h hF => ⟨h.2.1, hF⟩
end Jvm.Pilot.@@N@@
namespace Jvm.Pilot.@@N@@
open Jvm Jvm.ClassFile Sem Op Lib Jvm.Free Jvm.Stand Jvm.Pilot.@@N@@.Jvm.D
/-! MADE BY PROGRAM (witnessworld.py) out of the Statement's table words and the real class files: 10 classes; the members and pool entries that the words name. The judged class is class 1, her method 1. -/
namespace start1
open Jvm.ClassFile
def u (s : String) : CpInfo := .utf8 (stringToUtf16 s)
/-- a pool by its gaps: so many unusable entries, then the entry; so many at the end -/
def gap : Nat → List CpInfo → List CpInfo
  | 0, r => r
  | n + 1, r => .unusable :: gap n r
def poolList (es : List (Nat × CpInfo)) (last : Nat) : List CpInfo := es.foldr (fun e r => gap e.1 (e.2 :: r)) (gap last [])
def pool (es : List (Nat × CpInfo)) (last : Nat) : Array CpInfo := ⟨poolList es last⟩
def fileOf (pool : Array CpInfo) (this : Nat) (attrs : Array Attribute := #[]) (ms : Array MethodInfo := #[]) (fl : Nat := 33) (sup : Nat := 0) (ifs : Array Nat := #[]) (fds : Array FieldInfo := #[]) : ClassFile where
  minorVersion := 0
  majorVersion := 65
  constantPool := pool
  accessFlags := fl
  thisClass := this
  superClass := sup
  interfaces := ifs
  fields := fds
  methods := ms
  attributes := attrs
def plain (name : String) (sup : Option ClassId) : Class where
  name := name
  kind := .ordinary
  loader := none
  accessFlags := 33
  super := sup
  interfaces := #[]
  cf := none
  fields := #[]
  methods := #[]
  instanceTypes := #[]
  staticTypes := #[]
  resolved := #[]
  callSites := []
  init := .initialized
  statics := none
  mirror := none

def pool0 : Array CpInfo := pool [(5, u "<init>"), (0, u "()V"), (1, .class_ 10), (1, u "java/lang/Object")] 113

def k0c0 : Code := { maxStack := 0, maxLocals := 1, code := object_method_1_code, exceptionTable := #[], attributes := #[] }
def k0m0 : Method := { name := "<init>", desc := "()V", sig := { parameters := [], returnType := none }, accessFlags := 1, code := some k0c0 }
/-- java/lang/Object -/
def k0 : Class := { plain "java/lang/Object" none with
  accessFlags := 33
  interfaces := #[]
  cf := some (fileOf pool0 8 #[] #[{ accessFlags := 1, nameIndex := 5, descriptorIndex := 6, attributes := #[] }] 33 0 #[] #[])
  fields := #[]
  methods := #[k0m0]
  instanceTypes := #[]
  staticTypes := #[]
  resolved := Array.replicate 124 none
  statics := none }

def pool1 : Array CpInfo := pool [(2, .class_ 4), (1, u "java/lang/Object"), (0, u "<init>"), (0, u "()V"), (0, .methodref 8 9), (0, .class_ 10), (0, .nameAndType 11 12), (0, u "com/example/tagwire/tagwire/wire/WireWriterWriteVarintPinLaw"), (0, u "expectedLength"), (0, u "(J)I"), (0, .class_ 14), (0, u "com/example/tagwire/tagwire/wire/WireWriter"), (0, .methodref 13 16), (0, .nameAndType 5 17), (0, u "(I)V"), (0, .methodref 13 19), (0, .nameAndType 20 21), (0, u "writeRawBytes"), (0, u "([B)V"), (0, .methodref 13 23), (0, .nameAndType 24 25), (0, u "writeVarint"), (0, u "(J)V"), (0, .methodref 13 27), (0, .nameAndType 28 29), (0, u "toByteArray"), (0, u "()[B"), (0, .methodref 8 31), (0, .nameAndType 32 33), (0, u "at"), (0, u "([BIIJI)Z"), (0, .long 128), (1, .long 16384), (1, .long 2097152), (1, .long 268435456), (1, .long 34359738368), (1, .long 4398046511104), (1, .long 562949953421312), (1, .long 72057594037927936), (1, .long 127), (3, u "law"), (0, u "(JII)Z")] 5

def k1m0 : Method := { name := "<init>", desc := "()V", sig := { parameters := [], returnType := none }, accessFlags := 1, code := none }
def k1c1 : Code := { maxStack := 6, maxLocals := 10, code := code, exceptionTable := #[], attributes := #[] }
def k1m1 : Method := { name := "law", desc := "(JII)Z", sig := { parameters := [.long, .int, .int], returnType := some .boolean }, accessFlags := 9, code := some k1c1 }
def k1c2 : Code := { maxStack := 4, maxLocals := 2, code := method_3_code, exceptionTable := #[], attributes := #[] }
def k1m2 : Method := { name := "expectedLength", desc := "(J)I", sig := { parameters := [.long], returnType := some .int }, accessFlags := 10, code := some k1c2 }
def k1c3 : Code := { maxStack := 4, maxLocals := 7, code := method_4_code, exceptionTable := #[], attributes := #[] }
def k1m3 : Method := { name := "at", desc := "([BIIJI)Z", sig := { parameters := [(.array .byte), .int, .int, .long, .int], returnType := some .boolean }, accessFlags := 10, code := some k1c3 }
/-- com/example/tagwire/tagwire/wire/WireWriterWriteVarintPinLaw -/
def k1 : Class := { plain "com/example/tagwire/tagwire/wire/WireWriterWriteVarintPinLaw" (some 0) with
  accessFlags := 49
  interfaces := #[]
  cf := some (fileOf pool1 8 #[] #[{ accessFlags := 1, nameIndex := 5, descriptorIndex := 6, attributes := #[] }, { accessFlags := 9, nameIndex := 54, descriptorIndex := 55, attributes := #[] }, { accessFlags := 10, nameIndex := 11, descriptorIndex := 12, attributes := #[] }, { accessFlags := 10, nameIndex := 32, descriptorIndex := 33, attributes := #[] }] 49 2 #[] #[])
  fields := #[]
  methods := #[k1m0, k1m1, k1m2, k1m3]
  instanceTypes := #[]
  staticTypes := #[]
  resolved := Array.replicate 61 none
  statics := none }

def pool2 : Array CpInfo := pool [(1, .methodref 2 3), (0, .class_ 4), (0, .nameAndType 5 6), (0, u "java/lang/Object"), (0, u "<init>"), (0, u "()V"), (0, .fieldref 8 9), (0, .class_ 10), (0, .nameAndType 11 12), (0, u "com/example/tagwire/tagwire/wire/WireWriter"), (0, u "buffer"), (0, u "[B"), (29, u "writeVarint"), (0, u "(J)V"), (0, .long 18446744073709551488), (1, .fieldref 8 47), (0, .nameAndType 48 49), (0, u "position"), (0, u "I"), (0, .long 127), (1, .long 128), (11, u "writeRawBytes"), (0, u "([B)V"), (0, .methodref 67 68), (0, .class_ 69), (0, .nameAndType 70 71), (0, u "java/lang/System"), (0, u "arraycopy"), (0, u "(Ljava/lang/Object;ILjava/lang/Object;II)V"), (6, u "(I)V"), (15, u "toByteArray"), (0, u "()[B")] 19

def k2c0 : Code := { maxStack := 2, maxLocals := 2, code := prog_103_method_1_code, exceptionTable := #[], attributes := #[] }
def k2m0 : Method := { name := "<init>", desc := "(I)V", sig := { parameters := [.int], returnType := none }, accessFlags := 1, code := some k2c0 }
def k2c1 : Code := { maxStack := 6, maxLocals := 5, code := prog_103_method_5_code, exceptionTable := #[], attributes := #[] }
def k2m1 : Method := { name := "writeVarint", desc := "(J)V", sig := { parameters := [.long], returnType := none }, accessFlags := 1, code := some k2c1 }
def k2c2 : Code := { maxStack := 5, maxLocals := 2, code := prog_103_method_11_code, exceptionTable := #[], attributes := #[] }
def k2m2 : Method := { name := "writeRawBytes", desc := "([B)V", sig := { parameters := [(.array .byte)], returnType := none }, accessFlags := 1, code := some k2c2 }
def k2c3 : Code := { maxStack := 4, maxLocals := 1, code := prog_103_method_12_code, exceptionTable := #[], attributes := #[] }
def k2m3 : Method := { name := "toByteArray", desc := "()[B", sig := { parameters := [], returnType := some (.array .byte) }, accessFlags := 1, code := some k2c3 }
/-- com/example/tagwire/tagwire/wire/WireWriter -/
def k2 : Class := { plain "com/example/tagwire/tagwire/wire/WireWriter" (some 0) with
  accessFlags := 49
  interfaces := #[]
  cf := some (fileOf pool2 8 #[] #[{ accessFlags := 1, nameIndex := 5, descriptorIndex := 78, attributes := #[] }, { accessFlags := 1, nameIndex := 42, descriptorIndex := 43, attributes := #[] }, { accessFlags := 1, nameIndex := 64, descriptorIndex := 65, attributes := #[] }, { accessFlags := 1, nameIndex := 94, descriptorIndex := 95, attributes := #[] }] 49 2 #[] #[{ accessFlags := 18, nameIndex := 11, descriptorIndex := 12, attributes := #[] }, { accessFlags := 2, nameIndex := 48, descriptorIndex := 49, attributes := #[] }])
  fields := #[{ name := "buffer", type := (.array .byte), accessFlags := 18, slot := 0, constantValue := 0 }, { name := "position", type := .int, accessFlags := 2, slot := 1, constantValue := 0 }]
  methods := #[k2m0, k2m1, k2m2, k2m3]
  instanceTypes := #[(.array .byte), .int]
  staticTypes := #[]
  resolved := Array.replicate 115 none
  statics := none }

def pool3 : Array CpInfo := pool [(2, .class_ 4), (1, u "java/lang/Object"), (0, u "<init>"), (0, u "()V"), (1, .class_ 10), (1, u "java/lang/System"), (0, u "allowSecurityManager"), (0, u "I"), (16, u "cons"), (0, u "Ljava/io/Console;"), (77, .class_ 110), (1, u "java/lang/System$CallersHolder"), (43, u "initialErrStream"), (0, u "Ljava/io/PrintStream;"), (19, u "security"), (0, u "Ljava/lang/SecurityManager;"), (31, .class_ 209), (0, u "java/lang/System$1"), (7, u "props"), (0, u "Ljava/util/Properties;"), (2, u "lineSeparator"), (0, u "Ljava/lang/String;"), (96, .class_ 321), (1, u "java/lang/System$LoggerFinder"), (5, .class_ 328), (0, u "java/lang/System$Logger"), (67, u "err"), (2, u "out"), (91, u "notSupportedJnuEncoding"), (15, u "in"), (17, u "initialIn"), (0, u "Ljava/io/InputStream;"), (35, u "bootLayer"), (0, u "Ljava/lang/ModuleLayer;"), (99, .class_ 664), (0, u "java/lang/System$2"), (9, u "NEVER"), (2, u "MAYBE"), (49, u "arraycopy"), (0, u "(Ljava/lang/Object;ILjava/lang/Object;II)V"), (72, .class_ 802), (0, u "java/lang/System$Logger$Level")] 31

def k3m0 : Method := { name := "<init>", desc := "()V", sig := { parameters := [], returnType := none }, accessFlags := 2, code := none }
def k3m1 : Method := { name := "arraycopy", desc := "(Ljava/lang/Object;ILjava/lang/Object;II)V", sig := { parameters := [(.object "java/lang/Object"), .int, (.object "java/lang/Object"), .int, .int], returnType := none }, accessFlags := 265, code := none }
/-- java/lang/System -/
def k3 : Class := { plain "java/lang/System" (some 0) with
  accessFlags := 49
  interfaces := #[]
  cf := some (fileOf pool3 8 #[.nestMembers #[319, 327, 801, 108, 663, 208]] #[{ accessFlags := 2, nameIndex := 5, descriptorIndex := 6, attributes := #[] }, { accessFlags := 265, nameIndex := 727, descriptorIndex := 728, attributes := #[] }] 49 2 #[] #[{ accessFlags := 25, nameIndex := 507, descriptorIndex := 526, attributes := #[] }, { accessFlags := 25, nameIndex := 399, descriptorIndex := 155, attributes := #[] }, { accessFlags := 25, nameIndex := 396, descriptorIndex := 155, attributes := #[] }, { accessFlags := 10, nameIndex := 525, descriptorIndex := 526, attributes := #[] }, { accessFlags := 26, nameIndex := 674, descriptorIndex := 12, attributes := #[] }, { accessFlags := 26, nameIndex := 677, descriptorIndex := 12, attributes := #[] }, { accessFlags := 10, nameIndex := 11, descriptorIndex := 12, attributes := #[] }, { accessFlags := 74, nameIndex := 175, descriptorIndex := 176, attributes := #[] }, { accessFlags := 10, nameIndex := 491, descriptorIndex := 222, attributes := #[] }, { accessFlags := 74, nameIndex := 29, descriptorIndex := 30, attributes := #[] }, { accessFlags := 74, nameIndex := 154, descriptorIndex := 155, attributes := #[] }, { accessFlags := 10, nameIndex := 217, descriptorIndex := 218, attributes := #[] }, { accessFlags := 10, nameIndex := 221, descriptorIndex := 222, attributes := #[] }, { accessFlags := 8, nameIndex := 562, descriptorIndex := 563, attributes := #[] }])
  fields := #[{ name := "in", type := (.object "java/io/InputStream"), accessFlags := 25, slot := 0, constantValue := 0 }, { name := "out", type := (.object "java/io/PrintStream"), accessFlags := 25, slot := 1, constantValue := 0 }, { name := "err", type := (.object "java/io/PrintStream"), accessFlags := 25, slot := 2, constantValue := 0 }, { name := "initialIn", type := (.object "java/io/InputStream"), accessFlags := 10, slot := 3, constantValue := 0 }, { name := "NEVER", type := .int, accessFlags := 26, slot := 4, constantValue := 0 }, { name := "MAYBE", type := .int, accessFlags := 26, slot := 5, constantValue := 0 }, { name := "allowSecurityManager", type := .int, accessFlags := 10, slot := 6, constantValue := 0 }, { name := "security", type := (.object "java/lang/SecurityManager"), accessFlags := 74, slot := 7, constantValue := 0 }, { name := "notSupportedJnuEncoding", type := (.object "java/lang/String"), accessFlags := 10, slot := 8, constantValue := 0 }, { name := "cons", type := (.object "java/io/Console"), accessFlags := 74, slot := 9, constantValue := 0 }, { name := "initialErrStream", type := (.object "java/io/PrintStream"), accessFlags := 74, slot := 10, constantValue := 0 }, { name := "props", type := (.object "java/util/Properties"), accessFlags := 10, slot := 11, constantValue := 0 }, { name := "lineSeparator", type := (.object "java/lang/String"), accessFlags := 10, slot := 12, constantValue := 0 }, { name := "bootLayer", type := (.object "java/lang/ModuleLayer"), accessFlags := 8, slot := 13, constantValue := 0 }]
  methods := #[k3m0, k3m1]
  instanceTypes := #[]
  staticTypes := #[(.object "java/io/InputStream"), (.object "java/io/PrintStream"), (.object "java/io/PrintStream"), (.object "java/io/InputStream"), .int, .int, .int, (.object "java/lang/SecurityManager"), (.object "java/lang/String"), (.object "java/io/Console"), (.object "java/io/PrintStream"), (.object "java/util/Properties"), (.object "java/lang/String"), (.object "java/lang/ModuleLayer")]
  resolved := Array.replicate 834 none
  statics := none }

def pool4 : Array CpInfo := pool [(1, u "java/lang/Cloneable"), (0, .class_ 1), (0, u "java/lang/Object"), (0, .class_ 3)] 3

/-- java/lang/Cloneable -/
def k4 : Class := { plain "java/lang/Cloneable" (some 0) with
  accessFlags := 1537
  interfaces := #[]
  cf := some (fileOf pool4 2 #[] #[] 1537 4 #[] #[])
  fields := #[]
  methods := #[]
  instanceTypes := #[]
  staticTypes := #[]
  resolved := Array.replicate 8 none
  statics := none }

def pool5 : Array CpInfo := pool [(1, u "java/io/Serializable"), (0, .class_ 1), (0, u "java/lang/Object"), (0, .class_ 3)] 3

/-- java/io/Serializable -/
def k5 : Class := { plain "java/io/Serializable" (some 0) with
  accessFlags := 1537
  interfaces := #[]
  cf := some (fileOf pool5 2 #[] #[] 1537 4 #[] #[])
  fields := #[]
  methods := #[]
  instanceTypes := #[]
  staticTypes := #[]
  resolved := Array.replicate 8 none
  statics := none }

/-- the primitive byte -/
def k6 : Class := { plain "byte" none with kind := .primitive 'B', accessFlags := 0x411 }
/-- [B -/
def k7 : Class := { plain "[B" (some 0) with kind := .array 6 .byte, interfaces := #[4, 5], accessFlags := 1041 }

/-- the primitive int -/
def k8 : Class := { plain "int" none with kind := .primitive 'I', accessFlags := 0x411 }
/-- [I -/
def k9 : Class := { plain "[I" (some 0) with kind := .array 8 .int, interfaces := #[4, 5], accessFlags := 1041 }

def heap : Heap := #[]
def classes : Array Class := #[k0, k1, k2, k3, k4, k5, k6, k7, k8, k9]
def interned : List (Array UInt16 × Addr) := []
def slotsUsed : Nat := 0
def theMethod : MethodId := ⟨1, 1⟩
def args0 : Array Value := #[.long 650000, .int 7, .int 2]
def aboutOver (below : List Frame) : State where
  vm := { classes := classes, interned := interned.toArray }
  heap := heap
  slotsUsed := slotsUsed
  threads := #[{ frames := .invoking theMethod args0 :: below }]
def below0 : List Frame := [.native { method := ⟨0, 0⟩, args := #[] }]
def about1 : State := aboutOver below0
def p0 : Program := .bare "" "" ""
def e0 : Env := launch0.env 0 0 0
theorem w_frames : about1.frames = Frame.invoking theMethod args0 :: below0 := rfl
set_option maxRecDepth 65536 in
theorem w_args : argsFit about1.vm theMethod args0 = true := by decide +kernel
set_option maxRecDepth 65536 in
theorem w_heap : heapFits about1 = true := by decide +kernel
set_option maxRecDepth 65536 in
theorem w_runnable : about1.curStatus? = some .runnable := by decide +kernel
set_option maxRecDepth 65536 in
theorem w_alone : about1.alone = true := by decide +kernel
set_option maxRecDepth 65536 in
theorem w_named : about1.methodNamed? x = some theMethod := by decide +kernel
set_option maxRecDepth 65536 in
theorem w_hears : about1.hears theMethod below0 = true := by decide +kernel
set_option maxRecDepth 65536 in
theorem w_ripe : about1.ripe theMethod args0 below0 = true := by decide +kernel
theorem w_running : about1.status = .running := rfl
set_option maxRecDepth 65536 in
theorem w_room : about1.hasRoom e0.platform room_1 = true :=
  launch0.hasRoom_least _ room_1 (by decide +kernel) (by decide +kernel) (by decide +kernel) (by decide +kernel) (by decide +kernel) (by decide +kernel)
theorem allAtoms_all (ts : List Jvm.Cond) (a : Array Jvm.Value) (st : Jvm.State) : (allAtoms ts).before a st = ts.all (fun c => c.before a st) := by
  induction ts with
  | nil => rfl
  | cons c t ih =>
    show (Jvm.Cond.and c (allAtoms t)).before a st = _
    rw [Jvm.Cond.before_and, ih, List.all_cons]
def words1 : List Jvm.Cond := Jvm.Cond.code x code maxLocals ret :: tables_1
/-- a 'code' word, met by the world's own term for the bytes: nothing is compared byte by byte -/
theorem code_word {y : MethodName} {bytes : ByteArray} {mx : Nat} {rt : Option FieldType} {a : Array Value} {s : State} {m : MethodId} {meth : Method} {c : Code} (h1 : s.methodNamed? y = some m) (h2 : s.vm.method? m = some meth) (h3 : meth.code = some c) (h4 : c.code = bytes)
    (h5 : (c.maxLocals == mx && c.exceptionTable.isEmpty && decide (c.maxStack ≤ mostOperands) && decide (meth.sig.returnType = rt) && !meth.locks && decide (parseMethodDescriptor y.desc = some meth.sig)) = true) : (Jvm.Cond.code y bytes mx rt).before a s = true := by
  simp only [Bool.and_eq_true, beq_iff_eq, Bool.not_eq_true', decide_eq_true_eq] at h5
  obtain ⟨⟨⟨⟨⟨g1, g2⟩, g3⟩, g4⟩, g5⟩, g6⟩ := h5
  simp [Cond.before, Cond.holds, Cond.value, h1, h2, h3, h4, g1, g2, g3, g4, g5, g6]
def isCode : Jvm.Cond → Bool
  | .code _ _ _ _ => true
  | _ => false
theorem all_split {L : List Jvm.Cond} {P : Jvm.Cond → Bool} (h1 : L.all (fun c => isCode c || P c) = true) (h2 : ∀ c ∈ L.filter isCode, P c = true) : L.all P = true := by
  refine List.all_eq_true.mpr fun c hc => ?_
  have h := List.all_eq_true.mp h1 c hc
  rcases Bool.eq_false_or_eq_true (isCode c) with hi | hi
  · exact h2 c (List.mem_filter.mpr ⟨hc, hi⟩)
  · simpa [hi] using h
set_option maxRecDepth 65536 in
theorem w_c0 : (Jvm.Cond.code x code maxLocals ret).before args0 about1 = true := code_word (m := ⟨1, 1⟩) (meth := k1m1) (c := k1c1) (by decide +kernel) rfl rfl rfl (by decide +kernel)
set_option maxRecDepth 65536 in
theorem w_c1 : (Jvm.Cond.code ({ cls := "com/example/tagwire/tagwire/wire/WireWriterWriteVarintPinLaw", name := "expectedLength", desc := "(J)I" } : Jvm.MethodName) method_3_code (2 : Nat) (Option.some Jvm.ClassFile.FieldType.int)).before args0 about1 = true := code_word (m := ⟨1, 2⟩) (meth := k1m2) (c := k1c2) (by decide +kernel) rfl rfl rfl (by decide +kernel)
set_option maxRecDepth 65536 in
theorem w_c2 : (Jvm.Cond.code ({ cls := "com/example/tagwire/tagwire/wire/WireWriter", name := "<init>", desc := "(I)V" } : Jvm.MethodName) prog_103_method_1_code (2 : Nat) (Option.none : Option Jvm.ClassFile.FieldType)).before args0 about1 = true := code_word (m := ⟨2, 0⟩) (meth := k2m0) (c := k2c0) (by decide +kernel) rfl rfl rfl (by decide +kernel)
set_option maxRecDepth 65536 in
theorem w_c3 : (Jvm.Cond.code ({ cls := "java/lang/Object", name := "<init>", desc := "()V" } : Jvm.MethodName) object_method_1_code (1 : Nat) (Option.none : Option Jvm.ClassFile.FieldType)).before args0 about1 = true := code_word (m := ⟨0, 0⟩) (meth := k0m0) (c := k0c0) (by decide +kernel) rfl rfl rfl (by decide +kernel)
set_option maxRecDepth 65536 in
theorem w_c4 : (Jvm.Cond.code ({ cls := "com/example/tagwire/tagwire/wire/WireWriter", name := "writeRawBytes", desc := "([B)V" } : Jvm.MethodName) prog_103_method_11_code (2 : Nat) (Option.none : Option Jvm.ClassFile.FieldType)).before args0 about1 = true := code_word (m := ⟨2, 2⟩) (meth := k2m2) (c := k2c2) (by decide +kernel) rfl rfl rfl (by decide +kernel)
set_option maxRecDepth 65536 in
theorem w_c5 : (Jvm.Cond.code ({ cls := "com/example/tagwire/tagwire/wire/WireWriter", name := "writeVarint", desc := "(J)V" } : Jvm.MethodName) prog_103_method_5_code (5 : Nat) (Option.none : Option Jvm.ClassFile.FieldType)).before args0 about1 = true := code_word (m := ⟨2, 1⟩) (meth := k2m1) (c := k2c1) (by decide +kernel) rfl rfl rfl (by decide +kernel)
set_option maxRecDepth 65536 in
theorem w_c6 : (Jvm.Cond.code ({ cls := "com/example/tagwire/tagwire/wire/WireWriter", name := "toByteArray", desc := "()[B" } : Jvm.MethodName) prog_103_method_12_code (1 : Nat) (Option.some (Jvm.ClassFile.FieldType.array Jvm.ClassFile.FieldType.byte))).before args0 about1 = true := code_word (m := ⟨2, 3⟩) (meth := k2m3) (c := k2c3) (by decide +kernel) rfl rfl rfl (by decide +kernel)
set_option maxRecDepth 65536 in
theorem w_c7 : (Jvm.Cond.code ({ cls := "com/example/tagwire/tagwire/wire/WireWriterWriteVarintPinLaw", name := "at", desc := "([BIIJI)Z" } : Jvm.MethodName) method_4_code (7 : Nat) (Option.some Jvm.ClassFile.FieldType.boolean)).before args0 about1 = true := code_word (m := ⟨1, 3⟩) (meth := k1m3) (c := k1c3) (by decide +kernel) rfl rfl rfl (by decide +kernel)
def codes1 : List Jvm.Cond := [Jvm.Cond.code x code maxLocals ret, Jvm.Cond.code ({ cls := "com/example/tagwire/tagwire/wire/WireWriterWriteVarintPinLaw", name := "expectedLength", desc := "(J)I" } : Jvm.MethodName) method_3_code (2 : Nat) (Option.some Jvm.ClassFile.FieldType.int), Jvm.Cond.code ({ cls := "com/example/tagwire/tagwire/wire/WireWriter", name := "<init>", desc := "(I)V" } : Jvm.MethodName) prog_103_method_1_code (2 : Nat) (Option.none : Option Jvm.ClassFile.FieldType), Jvm.Cond.code ({ cls := "java/lang/Object", name := "<init>", desc := "()V" } : Jvm.MethodName) object_method_1_code (1 : Nat) (Option.none : Option Jvm.ClassFile.FieldType), Jvm.Cond.code ({ cls := "com/example/tagwire/tagwire/wire/WireWriter", name := "writeRawBytes", desc := "([B)V" } : Jvm.MethodName) prog_103_method_11_code (2 : Nat) (Option.none : Option Jvm.ClassFile.FieldType), Jvm.Cond.code ({ cls := "com/example/tagwire/tagwire/wire/WireWriter", name := "writeVarint", desc := "(J)V" } : Jvm.MethodName) prog_103_method_5_code (5 : Nat) (Option.none : Option Jvm.ClassFile.FieldType), Jvm.Cond.code ({ cls := "com/example/tagwire/tagwire/wire/WireWriter", name := "toByteArray", desc := "()[B" } : Jvm.MethodName) prog_103_method_12_code (1 : Nat) (Option.some (Jvm.ClassFile.FieldType.array Jvm.ClassFile.FieldType.byte)), Jvm.Cond.code ({ cls := "com/example/tagwire/tagwire/wire/WireWriterWriteVarintPinLaw", name := "at", desc := "([BIIJI)Z" } : Jvm.MethodName) method_4_code (7 : Nat) (Option.some Jvm.ClassFile.FieldType.boolean)]
set_option maxRecDepth 65536 in
theorem codes_eq : words1.filter isCode = codes1 := rfl
theorem w_codes : ∀ c ∈ words1.filter isCode, c.before args0 about1 = true := by
  rw [codes_eq]
  intro c hc
  simp only [codes1, List.mem_cons, List.not_mem_nil, or_false] at hc
  rcases hc with rfl | rfl | rfl | rfl | rfl | rfl | rfl | rfl
  · exact w_c0
  · exact w_c1
  · exact w_c2
  · exact w_c3
  · exact w_c4
  · exact w_c5
  · exact w_c6
  · exact w_c7
set_option maxRecDepth 65536 in
theorem w_t1 : (words1.take 24).all (fun c => isCode c || c.before args0 about1) = true := by decide +kernel
set_option maxRecDepth 65536 in
theorem w_t2 : ((words1.drop 24).take 24).all (fun c => isCode c || c.before args0 about1) = true := by decide +kernel
set_option maxRecDepth 65536 in
theorem w_t3 : ((words1.drop 24).drop 24).all (fun c => isCode c || c.before args0 about1) = true := by decide +kernel
theorem w_tables : (allAtoms (Jvm.Cond.code x code maxLocals ret :: tables_1)).before args0 about1 = true := by
  rw [allAtoms_all]
  show words1.all (fun c => c.before args0 about1) = true
  refine all_split ?_ w_codes
  rw [← List.take_append_drop 24 words1, List.all_append, w_t1, ← List.take_append_drop 24 (words1.drop 24), List.all_append, w_t2, w_t3]
  rfl
set_option maxRecDepth 65536 in
theorem w_case : (Jvm.Cond.and given_1 narrow_1).before args0 about1 = true := by decide +kernel
theorem w_applies : (headSpec (Jvm.Cond.code x code maxLocals ret :: tables_1) room_1).applies x e0.platform about1 = true :=
  (Spec.applies_iff w_frames).mpr ⟨w_running, w_runnable, w_alone, w_named, w_hears, w_ripe, w_room, w_tables⟩
theorem atStart : AtStart classFile x code maxLocals ret World_1 tables_1 room_1 Calls_1 rest_1 Pre_1 launch0 p0 e0 about1 theMethod args0 below0 :=
  ⟨lists_1, trivial, launch0.admits_env _ _ _, launch0.least_env, fairChoices_fair.cas, fairChoices_fair.clock, w_frames, w_args, w_heap, w_applies, trivial, trivial, w_case⟩
end start1
theorem witness_1 : WitnessClaimed_1 := ⟨start1.p0, start1.e0, start1.about1, start1.theMethod, start1.args0, start1.below0, start1.atStart⟩
end Jvm.Pilot.@@N@@
