import JvmDerived
import JvmDerived.Pilot.@@N@@Statement
import JvmDerived.Pilot.@@N@@Code
set_option linter.unusedVariables false
set_option linter.unusedSimpArgs false
namespace Jvm.Own
open Sem ClassFile Op Lib Jvm.Stand Jvm.Free Jvm.LawKit Jvm.RoadKit
section Layer
variable {p : Program} {l : Launch} {e : Env} {R : Room} {s : State} {m : MethodId} {args : Array Value} {below : List Frame} {meth : Method} {c : Code} {Z : State} {own nm : String} {bytes : ByteArray} {maxL : Nat} {ret : Option FieldType} {n0 : Nat} {EE : Outcome → State → Prop} {h : Heap} {k n : Nat} {a0 : Array Value} {pc : Nat} {ls : Array Slot} {st : List Value}
def Cx (p : Program) (s : State) (m : MethodId) (meth : Method) (c : Code) (Z : State) (own nm : String) (bytes : ByteArray) (maxL : Nat) (ret : Option FieldType) (n0 : Nat) : Prop :=
  p.tables.exec = Jvm.exec ∧ c.code = bytes ∧ c.maxLocals = maxL ∧ s.vm.findClass own = some m.cls ∧ meth.name = nm ∧ Z.Warmed39 s.vm ∧ meth.sig.returnType = ret ∧ meth.locks = false ∧ n0 ≤ s.heap.size
def EndN (s : State) (n0 : Nat) (Q : Option Value → Heap → Prop) (K N : Nat) (o : Outcome) (t : State) : Prop := ∃ v L, o = .returned v ∧ (Q v t.heap ∧ Fr n0 L) ∧ FrameEnd s o t L K N
def Run (p : Program) (l : Launch) (e : Env) (R : Room) (s : State) (m : MethodId) (args : Array Value) (below : List Frame) (meth : Method) (c : Code) (Z : State) (own nm : String) (bytes : ByteArray) (maxL : Nat) (ret : Option FieldType) (n0 : Nat) (EE : Outcome → State → Prop) (h : Heap) (k n : Nat) (g : JFrame) : Prop :=
  Cx p s m meth c Z own nm bytes maxL ret n0 → ∀ (T : State) (locs : List Loc), Stand p l e R s m args below meth c T locs k n → Fr n0 locs → T.heap = h →
    ∃ s₂ o, Steps p.tables e below (T.setTop g) s₂ ∧ s₂.status = .running ∧ Ended s₂ below o ∧ EE o s₂
/-- a callee's contract: from heap h with the arguments as it returns with what Q says, nothing older than n0 written -/
def Pays (l : Launch) (Z : State) (y : MethodName) (bytes : ByteArray) (maxL : Nat) (ret : Option FieldType) (rm : Room) (as' : Array Value) (h : Heap) (n0 : Nat) (Q : Option Value → Heap → Prop) : Prop :=
  ∀ ws : List Jvm.Cond, MetFree l y (head1 (Jvm.Cond.code y bytes maxL ret :: ws) rm) (fun a U => a = as' ∧ Z.Warmed39 U.vm ∧ U.heap = h) (fun _ _ _ _ _ => True) (fun _ U o U' => ∃ v L, o = .returned v ∧ (Q v U'.heap ∧ Fr n0 L) ∧ FrameEnd U o U' L rm.cells rm.slots)
theorem Pays.of {Q : Option Value → Heap → Prop} {y : MethodName} {rm : Room} {as' : Array Value} (hpl : plainFor y = true) (ef : ∀ m, entryFrame m as' maxL = mkF m 0 ls []) (hn0 : n0 ≤ h.size)
    (body : ∀ p e s m below meth c, Run p l e rm s m as' below meth c Z y.cls y.name bytes maxL ret n0 (EndN s n0 Q rm.cells rm.slots) h 0 0 (mkF m 0 ls [])) : Pays l Z y bytes maxL ret rm as' h n0 Q := fun ws => by
  refine MetFree.of_bodySF hpl hisR ?_
  intro p e s m args below meth c s₁ Bd hml0 hP hK
  obtain ⟨rfl, hZ, hh⟩ := hP
  have hown : s.vm.findClass y.cls = some m.cls := findClass_of_methodNamed Bd.named
  have hnm := (name_of_methodNamed Bd.named Bd.method).1
  have e0 : s₁.heap = h := by rw [← hh, Bd.state]; rfl
  have q := body p e s m below meth c ⟨Bd.exec, Bd.bytes, hml0, hown, hnm, hZ, Bd.returns, Bd.notSynchronized, by rw [hh]; exact hn0⟩ s₁ [] (Stand.of_body Bd) (Fr.nil n0) e0
  obtain ⟨s₂, o, q1, q2⟩ := q
  exact ⟨s₂, o, castTop (ef m) q1, q2⟩
theorem Run.sz {g : JFrame} (hr : n0 ≤ h.size → Run p l e R s m args below meth c Z own nm bytes maxL ret n0 EE h k n g) : Run p l e R s m args below meth c Z own nm bytes maxL ret n0 EE h k n g := fun C T locs X F E =>
  hr (by subst E; exact Nat.le_trans C.2.2.2.2.2.2.2.2 X.same.2.1) C T locs X F E
theorem Run.step {g g' : JFrame} (hs : ∀ T target, p.tables.exec = Jvm.exec → c.code = bytes → At T m c below → Steps p.tables e below (T.setTop g') target → Steps p.tables e below (T.setTop g) target) (hr : Run p l e R s m args below meth c Z own nm bytes maxL ret n0 EE h k n g') : Run p l e R s m args below meth c Z own nm bytes maxL ret n0 EE h k n g := fun C T locs X F E => by
  obtain ⟨s₂, o, q1, q2⟩ := hr C T locs X F E
  exact ⟨s₂, o, hs T s₂ C.1 C.2.1 X.here q1, q2⟩
theorem Run.cut {g : JFrame} (g' : JFrame) (hj : Run p l e R s m args below meth c Z own nm bytes maxL ret n0 EE h k n g') (hr : Run p l e R s m args below meth c Z own nm bytes maxL ret n0 EE h k n g' → Run p l e R s m args below meth c Z own nm bytes maxL ret n0 EE h k n g) : Run p l e R s m args below meth c Z own nm bytes maxL ret n0 EE h k n g := hr hj
theorem Run.cast {g g' : JFrame} (q : g = g') (hr : Run p l e R s m args below meth c Z own nm bytes maxL ret n0 EE h k n g') : Run p l e R s m args below meth c Z own nm bytes maxL ret n0 EE h k n g := q ▸ hr

theorem Run.aloadN {i : Fin 4} {v : Value} (q : Nat) (hd : decode bytes pc = .ok (.aload_n i, 1)) (hl : ls[i.val]? = some (.val v)) (hr : Run p l e R s m args below meth c Z own nm bytes maxL ret n0 EE h k n (mkF m q ls (v :: st))) (hv : v.isRef = true := by rfl) (hq : q = pc + 1 := by rfl) : Run p l e R s m args below meth c Z own nm bytes maxL ret n0 EE h k n (mkF m pc ls st) := by
  subst hq; exact Run.step (fun T t hx hb A z => XS.aloadN A hx rfl (hb ▸ hd) hl hv z) hr
theorem Run.aload {i : Nat} {v : Value} (q : Nat) (hd : decode bytes pc = .ok (.aload i, 2)) (hl : ls[i]? = some (.val v)) (hr : Run p l e R s m args below meth c Z own nm bytes maxL ret n0 EE h k n (mkF m q ls (v :: st))) (hv : v.isRef = true := by rfl) (hq : q = pc + 2 := by rfl) : Run p l e R s m args below meth c Z own nm bytes maxL ret n0 EE h k n (mkF m pc ls st) := by
  subst hq; exact Run.step (fun T t hx hb A z => XS.aload A hx rfl (hb ▸ hd) hl hv z) hr
theorem Run.iloadN {i : Fin 4} {v : Int32} (q : Nat) (hd : decode bytes pc = .ok (.iload_n i, 1)) (hl : ls[i.val]? = some (.val (.int v))) (hr : Run p l e R s m args below meth c Z own nm bytes maxL ret n0 EE h k n (mkF m q ls (.int v :: st))) (hq : q = pc + 1 := by rfl) : Run p l e R s m args below meth c Z own nm bytes maxL ret n0 EE h k n (mkF m pc ls st) := by
  subst hq; exact Run.step (fun T t hx hb A z => XS.iloadN A hx rfl (hb ▸ hd) hl z) hr
theorem Run.iload {i : Nat} {v : Int32} (q : Nat) (hd : decode bytes pc = .ok (.iload i, 2)) (hl : ls[i]? = some (.val (.int v))) (hr : Run p l e R s m args below meth c Z own nm bytes maxL ret n0 EE h k n (mkF m q ls (.int v :: st))) (hq : q = pc + 2 := by rfl) : Run p l e R s m args below meth c Z own nm bytes maxL ret n0 EE h k n (mkF m pc ls st) := by
  subst hq; exact Run.step (fun T t hx hb A z => XS.iload A hx rfl (hb ▸ hd) hl z) hr
theorem Run.lloadN {i : Fin 4} {v : Int64} (q : Nat) (hd : decode bytes pc = .ok (.lload_n i, 1)) (hl : ls[i.val]? = some (.val (.long v))) (hr : Run p l e R s m args below meth c Z own nm bytes maxL ret n0 EE h k n (mkF m q ls (.long v :: st))) (hq : q = pc + 1 := by rfl) : Run p l e R s m args below meth c Z own nm bytes maxL ret n0 EE h k n (mkF m pc ls st) := by
  subst hq; exact Run.step (fun T t hx hb A z => XS.lloadN A hx rfl (hb ▸ hd) hl z) hr
theorem Run.lload {i : Nat} {v : Int64} (q : Nat) (hd : decode bytes pc = .ok (.lload i, 2)) (hl : ls[i]? = some (.val (.long v))) (hr : Run p l e R s m args below meth c Z own nm bytes maxL ret n0 EE h k n (mkF m q ls (.long v :: st))) (hq : q = pc + 2 := by rfl) : Run p l e R s m args below meth c Z own nm bytes maxL ret n0 EE h k n (mkF m pc ls st) := by
  subst hq; exact Run.step (fun T t hx hb A z => XS.lload A hx rfl (hb ▸ hd) hl z) hr
theorem Run.istoreN {i : Fin 4} {x : Int32} (q : Nat) (ls' : Array Slot) (hd : decode bytes pc = .ok (.istore_n i, 1)) (hr : Run p l e R s m args below meth c Z own nm bytes maxL ret n0 EE h k n (mkF m q ls' st)) (hl : storeLocals ls i.val (.int x) = some ls' := by rfl) (hq : q = pc + 1 := by rfl) : Run p l e R s m args below meth c Z own nm bytes maxL ret n0 EE h k n (mkF m pc ls (.int x :: st)) := by
  subst hq; exact Run.step (fun T t hx hb A z => XS.istoreN A hx rfl (hb ▸ hd) rfl hl z) hr
theorem Run.istore {i : Nat} {x : Int32} (q : Nat) (ls' : Array Slot) (hd : decode bytes pc = .ok (.istore i, 2)) (hr : Run p l e R s m args below meth c Z own nm bytes maxL ret n0 EE h k n (mkF m q ls' st)) (hl : storeLocals ls i (.int x) = some ls' := by rfl) (hq : q = pc + 2 := by rfl) : Run p l e R s m args below meth c Z own nm bytes maxL ret n0 EE h k n (mkF m pc ls (.int x :: st)) := by
  subst hq; exact Run.step (fun T t hx hb A z => XS.istore A hx rfl (hb ▸ hd) rfl hl z) hr
theorem Run.lstoreN {i : Fin 4} {x : Int64} (q : Nat) (ls' : Array Slot) (hd : decode bytes pc = .ok (.lstore_n i, 1)) (hr : Run p l e R s m args below meth c Z own nm bytes maxL ret n0 EE h k n (mkF m q ls' st)) (hl : storeLocals ls i.val (.long x) = some ls' := by rfl) (hq : q = pc + 1 := by rfl) : Run p l e R s m args below meth c Z own nm bytes maxL ret n0 EE h k n (mkF m pc ls (.long x :: st)) := by
  subst hq; exact Run.step (fun T t hx hb A z => XS.lstoreN A hx rfl (hb ▸ hd) rfl hl z) hr
theorem Run.lstore {i : Nat} {x : Int64} (q : Nat) (ls' : Array Slot) (hd : decode bytes pc = .ok (.lstore i, 2)) (hr : Run p l e R s m args below meth c Z own nm bytes maxL ret n0 EE h k n (mkF m q ls' st)) (hl : storeLocals ls i (.long x) = some ls' := by rfl) (hq : q = pc + 2 := by rfl) : Run p l e R s m args below meth c Z own nm bytes maxL ret n0 EE h k n (mkF m pc ls (.long x :: st)) := by
  subst hq; exact Run.step (fun T t hx hb A z => XS.lstore A hx rfl (hb ▸ hd) rfl hl z) hr
theorem Run.astoreN {i : Fin 4} {x : Value} (q : Nat) (ls' : Array Slot) (hd : decode bytes pc = .ok (.astore_n i, 1)) (hr : Run p l e R s m args below meth c Z own nm bytes maxL ret n0 EE h k n (mkF m q ls' st)) (hv : x.isRef = true := by rfl) (hl : storeLocals ls i.val x = some ls' := by rfl) (hq : q = pc + 1 := by rfl) : Run p l e R s m args below meth c Z own nm bytes maxL ret n0 EE h k n (mkF m pc ls (x :: st)) := by
  subst hq; exact Run.step (fun T t hx hb A z => XS.astoreN A hx rfl (hb ▸ hd) rfl hv hl z) hr
theorem Run.astore {i : Nat} {x : Value} (q : Nat) (ls' : Array Slot) (hd : decode bytes pc = .ok (.astore i, 2)) (hr : Run p l e R s m args below meth c Z own nm bytes maxL ret n0 EE h k n (mkF m q ls' st)) (hv : x.isRef = true := by rfl) (hl : storeLocals ls i x = some ls' := by rfl) (hq : q = pc + 2 := by rfl) : Run p l e R s m args below meth c Z own nm bytes maxL ret n0 EE h k n (mkF m pc ls (x :: st)) := by
  subst hq; exact Run.step (fun T t hx hb A z => XS.astore A hx rfl (hb ▸ hd) rfl hv hl z) hr
theorem Run.iconst {i : Int} (x : Int32) (q : Nat) (hd : decode bytes pc = .ok (.iconst i, 1)) (hr : Run p l e R s m args below meth c Z own nm bytes maxL ret n0 EE h k n (mkF m q ls (.int x :: st))) (hv : Int32.ofInt i = x := by first | rfl | decide) (hq : q = pc + 1 := by rfl) : Run p l e R s m args below meth c Z own nm bytes maxL ret n0 EE h k n (mkF m pc ls st) := by
  subst hq hv; exact Run.step (fun T t hx hb A z => XS.iconst A hx rfl (hb ▸ hd) z) hr
theorem Run.bipush {i : Int} (x : Int32) (q : Nat) (hd : decode bytes pc = .ok (.bipush i, 2)) (hr : Run p l e R s m args below meth c Z own nm bytes maxL ret n0 EE h k n (mkF m q ls (.int x :: st))) (hv : (Int8.ofInt i).toInt32 = x := by first | rfl | decide) (hq : q = pc + 2 := by rfl) : Run p l e R s m args below meth c Z own nm bytes maxL ret n0 EE h k n (mkF m pc ls st) := by
  subst hq hv; exact Run.step (fun T t hx hb A z => XS.bipush A hx rfl (hb ▸ hd) z) hr
theorem Run.sipush {i : Int} (x : Int32) (q : Nat) (hd : decode bytes pc = .ok (.sipush i, 3)) (hr : Run p l e R s m args below meth c Z own nm bytes maxL ret n0 EE h k n (mkF m q ls (.int x :: st))) (hv : (Int16.ofInt i).toInt32 = x := by first | rfl | decide) (hq : q = pc + 3 := by rfl) : Run p l e R s m args below meth c Z own nm bytes maxL ret n0 EE h k n (mkF m pc ls st) := by
  subst hq hv; exact Run.step (fun T t hx hb A z => XS.sipush A hx rfl (hb ▸ hd) z) hr
theorem Run.lconst {i : Fin 2} (x : Int64) (q : Nat) (hd : decode bytes pc = .ok (.lconst i, 1)) (hr : Run p l e R s m args below meth c Z own nm bytes maxL ret n0 EE h k n (mkF m q ls (.long x :: st))) (hv : Int64.ofNat i = x := by first | rfl | decide) (hq : q = pc + 1 := by rfl) : Run p l e R s m args below meth c Z own nm bytes maxL ret n0 EE h k n (mkF m pc ls st) := by
  subst hq hv; exact Run.step (fun T t hx hb A z => XS.lconst A hx rfl (hb ▸ hd) z) hr
theorem Run.aconstNull (q : Nat) (hd : decode bytes pc = .ok (.aconst_null, 1)) (hr : Run p l e R s m args below meth c Z own nm bytes maxL ret n0 EE h k n (mkF m q ls (.null :: st))) (hq : q = pc + 1 := by rfl) : Run p l e R s m args below meth c Z own nm bytes maxL ret n0 EE h k n (mkF m pc ls st) := by
  subst hq; exact Run.step (fun T t hx hb A z => XS.aconstNull A hx rfl (hb ▸ hd) z) hr
theorem Run.iadd {x y : Int32} (w : Int32) (q : Nat) (hd : decode bytes pc = .ok (.iadd, 1)) (hr : Run p l e R s m args below meth c Z own nm bytes maxL ret n0 EE h k n (mkF m q ls (.int w :: st))) (hv : x + y = w := by rfl) (hq : q = pc + 1 := by rfl) : Run p l e R s m args below meth c Z own nm bytes maxL ret n0 EE h k n (mkF m pc ls (.int y :: .int x :: st)) := by
  subst hq hv; exact Run.step (fun T t hx hb A z => XS.iadd A hx rfl (hb ▸ hd) rfl z) hr
theorem Run.isub {x y : Int32} (w : Int32) (q : Nat) (hd : decode bytes pc = .ok (.isub, 1)) (hr : Run p l e R s m args below meth c Z own nm bytes maxL ret n0 EE h k n (mkF m q ls (.int w :: st))) (hv : x - y = w := by rfl) (hq : q = pc + 1 := by rfl) : Run p l e R s m args below meth c Z own nm bytes maxL ret n0 EE h k n (mkF m pc ls (.int y :: .int x :: st)) := by
  subst hq hv; exact Run.step (fun T t hx hb A z => XS.isub A hx rfl (hb ▸ hd) rfl z) hr
theorem Run.imul {x y : Int32} (w : Int32) (q : Nat) (hd : decode bytes pc = .ok (.imul, 1)) (hr : Run p l e R s m args below meth c Z own nm bytes maxL ret n0 EE h k n (mkF m q ls (.int w :: st))) (hv : x * y = w := by rfl) (hq : q = pc + 1 := by rfl) : Run p l e R s m args below meth c Z own nm bytes maxL ret n0 EE h k n (mkF m pc ls (.int y :: .int x :: st)) := by
  subst hq hv; exact Run.step (fun T t hx hb A z => XS.imul A hx rfl (hb ▸ hd) rfl z) hr
theorem Run.iand {x y : Int32} (w : Int32) (q : Nat) (hd : decode bytes pc = .ok (.iand, 1)) (hr : Run p l e R s m args below meth c Z own nm bytes maxL ret n0 EE h k n (mkF m q ls (.int w :: st))) (hv : x &&& y = w := by rfl) (hq : q = pc + 1 := by rfl) : Run p l e R s m args below meth c Z own nm bytes maxL ret n0 EE h k n (mkF m pc ls (.int y :: .int x :: st)) := by
  subst hq hv; exact Run.step (fun T t hx hb A z => XS.iand A hx rfl (hb ▸ hd) rfl z) hr
theorem Run.ior {x y : Int32} (w : Int32) (q : Nat) (hd : decode bytes pc = .ok (.ior, 1)) (hr : Run p l e R s m args below meth c Z own nm bytes maxL ret n0 EE h k n (mkF m q ls (.int w :: st))) (hv : x ||| y = w := by rfl) (hq : q = pc + 1 := by rfl) : Run p l e R s m args below meth c Z own nm bytes maxL ret n0 EE h k n (mkF m pc ls (.int y :: .int x :: st)) := by
  subst hq hv; exact Run.step (fun T t hx hb A z => XS.ior A hx rfl (hb ▸ hd) rfl z) hr
theorem Run.ixor {x y : Int32} (w : Int32) (q : Nat) (hd : decode bytes pc = .ok (.ixor, 1)) (hr : Run p l e R s m args below meth c Z own nm bytes maxL ret n0 EE h k n (mkF m q ls (.int w :: st))) (hv : x ^^^ y = w := by rfl) (hq : q = pc + 1 := by rfl) : Run p l e R s m args below meth c Z own nm bytes maxL ret n0 EE h k n (mkF m pc ls (.int y :: .int x :: st)) := by
  subst hq hv; exact Run.step (fun T t hx hb A z => XS.ixor A hx rfl (hb ▸ hd) rfl z) hr
theorem Run.ishl {x y : Int32} (w : Int32) (q : Nat) (hd : decode bytes pc = .ok (.ishl, 1)) (hr : Run p l e R s m args below meth c Z own nm bytes maxL ret n0 EE h k n (mkF m q ls (.int w :: st))) (hv : x <<< (y &&& 31) = w := by rfl) (hq : q = pc + 1 := by rfl) : Run p l e R s m args below meth c Z own nm bytes maxL ret n0 EE h k n (mkF m pc ls (.int y :: .int x :: st)) := by
  subst hq hv; exact Run.step (fun T t hx hb A z => XS.ishl A hx rfl (hb ▸ hd) rfl z) hr
theorem Run.ishr {x y : Int32} (w : Int32) (q : Nat) (hd : decode bytes pc = .ok (.ishr, 1)) (hr : Run p l e R s m args below meth c Z own nm bytes maxL ret n0 EE h k n (mkF m q ls (.int w :: st))) (hv : x >>> (y &&& 31) = w := by rfl) (hq : q = pc + 1 := by rfl) : Run p l e R s m args below meth c Z own nm bytes maxL ret n0 EE h k n (mkF m pc ls (.int y :: .int x :: st)) := by
  subst hq hv; exact Run.step (fun T t hx hb A z => XS.ishr A hx rfl (hb ▸ hd) rfl z) hr
theorem Run.iushr {x y : Int32} (w : Int32) (q : Nat) (hd : decode bytes pc = .ok (.iushr, 1)) (hr : Run p l e R s m args below meth c Z own nm bytes maxL ret n0 EE h k n (mkF m q ls (.int w :: st))) (hv : (x.toUInt32 >>> (y &&& 31).toUInt32).toInt32 = w := by rfl) (hq : q = pc + 1 := by rfl) : Run p l e R s m args below meth c Z own nm bytes maxL ret n0 EE h k n (mkF m pc ls (.int y :: .int x :: st)) := by
  subst hq hv; exact Run.step (fun T t hx hb A z => XS.iushr A hx rfl (hb ▸ hd) rfl z) hr
theorem Run.idiv {x y : Int32} (w : Int32) (q : Nat) (hd : decode bytes pc = .ok (.idiv, 1)) (hy : y ≠ 0) (hr : Run p l e R s m args below meth c Z own nm bytes maxL ret n0 EE h k n (mkF m q ls (.int w :: st))) (hv : x / y = w := by rfl) (hq : q = pc + 1 := by rfl) : Run p l e R s m args below meth c Z own nm bytes maxL ret n0 EE h k n (mkF m pc ls (.int y :: .int x :: st)) := by
  subst hq hv; exact Run.step (fun T t hx hb A z => XS.idiv A hx rfl (hb ▸ hd) rfl hy z) hr
theorem Run.irem {x y : Int32} (w : Int32) (q : Nat) (hd : decode bytes pc = .ok (.irem, 1)) (hy : y ≠ 0) (hr : Run p l e R s m args below meth c Z own nm bytes maxL ret n0 EE h k n (mkF m q ls (.int w :: st))) (hv : x - (x / y) * y = w := by rfl) (hq : q = pc + 1 := by rfl) : Run p l e R s m args below meth c Z own nm bytes maxL ret n0 EE h k n (mkF m pc ls (.int y :: .int x :: st)) := by
  subst hq hv; exact Run.step (fun T t hx hb A z => XS.irem A hx rfl (hb ▸ hd) rfl hy z) hr
theorem Run.ladd {x y : Int64} (w : Int64) (q : Nat) (hd : decode bytes pc = .ok (.ladd, 1)) (hr : Run p l e R s m args below meth c Z own nm bytes maxL ret n0 EE h k n (mkF m q ls (.long w :: st))) (hv : x + y = w := by rfl) (hq : q = pc + 1 := by rfl) : Run p l e R s m args below meth c Z own nm bytes maxL ret n0 EE h k n (mkF m pc ls (.long y :: .long x :: st)) := by
  subst hq hv; exact Run.step (fun T t hx hb A z => XS.ladd A hx rfl (hb ▸ hd) rfl z) hr
theorem Run.lsub {x y : Int64} (w : Int64) (q : Nat) (hd : decode bytes pc = .ok (.lsub, 1)) (hr : Run p l e R s m args below meth c Z own nm bytes maxL ret n0 EE h k n (mkF m q ls (.long w :: st))) (hv : x - y = w := by rfl) (hq : q = pc + 1 := by rfl) : Run p l e R s m args below meth c Z own nm bytes maxL ret n0 EE h k n (mkF m pc ls (.long y :: .long x :: st)) := by
  subst hq hv; exact Run.step (fun T t hx hb A z => XS.lsub A hx rfl (hb ▸ hd) rfl z) hr
theorem Run.lmul {x y : Int64} (w : Int64) (q : Nat) (hd : decode bytes pc = .ok (.lmul, 1)) (hr : Run p l e R s m args below meth c Z own nm bytes maxL ret n0 EE h k n (mkF m q ls (.long w :: st))) (hv : x * y = w := by rfl) (hq : q = pc + 1 := by rfl) : Run p l e R s m args below meth c Z own nm bytes maxL ret n0 EE h k n (mkF m pc ls (.long y :: .long x :: st)) := by
  subst hq hv; exact Run.step (fun T t hx hb A z => XS.lmul A hx rfl (hb ▸ hd) rfl z) hr
theorem Run.land {x y : Int64} (w : Int64) (q : Nat) (hd : decode bytes pc = .ok (.land, 1)) (hr : Run p l e R s m args below meth c Z own nm bytes maxL ret n0 EE h k n (mkF m q ls (.long w :: st))) (hv : x &&& y = w := by rfl) (hq : q = pc + 1 := by rfl) : Run p l e R s m args below meth c Z own nm bytes maxL ret n0 EE h k n (mkF m pc ls (.long y :: .long x :: st)) := by
  subst hq hv; exact Run.step (fun T t hx hb A z => XS.land A hx rfl (hb ▸ hd) rfl z) hr
theorem Run.lor {x y : Int64} (w : Int64) (q : Nat) (hd : decode bytes pc = .ok (.lor, 1)) (hr : Run p l e R s m args below meth c Z own nm bytes maxL ret n0 EE h k n (mkF m q ls (.long w :: st))) (hv : x ||| y = w := by rfl) (hq : q = pc + 1 := by rfl) : Run p l e R s m args below meth c Z own nm bytes maxL ret n0 EE h k n (mkF m pc ls (.long y :: .long x :: st)) := by
  subst hq hv; exact Run.step (fun T t hx hb A z => XS.lor A hx rfl (hb ▸ hd) rfl z) hr
theorem Run.lxor {x y : Int64} (w : Int64) (q : Nat) (hd : decode bytes pc = .ok (.lxor, 1)) (hr : Run p l e R s m args below meth c Z own nm bytes maxL ret n0 EE h k n (mkF m q ls (.long w :: st))) (hv : x ^^^ y = w := by rfl) (hq : q = pc + 1 := by rfl) : Run p l e R s m args below meth c Z own nm bytes maxL ret n0 EE h k n (mkF m pc ls (.long y :: .long x :: st)) := by
  subst hq hv; exact Run.step (fun T t hx hb A z => XS.lxor A hx rfl (hb ▸ hd) rfl z) hr
theorem Run.ldiv {x y : Int64} (w : Int64) (q : Nat) (hd : decode bytes pc = .ok (.ldiv, 1)) (hy : y ≠ 0) (hr : Run p l e R s m args below meth c Z own nm bytes maxL ret n0 EE h k n (mkF m q ls (.long w :: st))) (hv : x / y = w := by rfl) (hq : q = pc + 1 := by rfl) : Run p l e R s m args below meth c Z own nm bytes maxL ret n0 EE h k n (mkF m pc ls (.long y :: .long x :: st)) := by
  subst hq hv; exact Run.step (fun T t hx hb A z => XS.ldiv A hx rfl (hb ▸ hd) rfl hy z) hr
theorem Run.lrem {x y : Int64} (w : Int64) (q : Nat) (hd : decode bytes pc = .ok (.lrem, 1)) (hy : y ≠ 0) (hr : Run p l e R s m args below meth c Z own nm bytes maxL ret n0 EE h k n (mkF m q ls (.long w :: st))) (hv : x - (x / y) * y = w := by rfl) (hq : q = pc + 1 := by rfl) : Run p l e R s m args below meth c Z own nm bytes maxL ret n0 EE h k n (mkF m pc ls (.long y :: .long x :: st)) := by
  subst hq hv; exact Run.step (fun T t hx hb A z => XS.lrem A hx rfl (hb ▸ hd) rfl hy z) hr
theorem Run.lshl {x : Int64} {y : Int32} (w : Int64) (q : Nat) (hd : decode bytes pc = .ok (.lshl, 1)) (hr : Run p l e R s m args below meth c Z own nm bytes maxL ret n0 EE h k n (mkF m q ls (.long w :: st))) (hv : x <<< (y &&& 0x3f).toInt64 = w := by rfl) (hq : q = pc + 1 := by rfl) : Run p l e R s m args below meth c Z own nm bytes maxL ret n0 EE h k n (mkF m pc ls (.int y :: .long x :: st)) := by
  subst hq hv; exact Run.step (fun T t hx hb A z => XS.lshl A hx rfl (hb ▸ hd) rfl z) hr
theorem Run.lshr {x : Int64} {y : Int32} (w : Int64) (q : Nat) (hd : decode bytes pc = .ok (.lshr, 1)) (hr : Run p l e R s m args below meth c Z own nm bytes maxL ret n0 EE h k n (mkF m q ls (.long w :: st))) (hv : x >>> (y &&& 0x3f).toInt64 = w := by rfl) (hq : q = pc + 1 := by rfl) : Run p l e R s m args below meth c Z own nm bytes maxL ret n0 EE h k n (mkF m pc ls (.int y :: .long x :: st)) := by
  subst hq hv; exact Run.step (fun T t hx hb A z => XS.lshr A hx rfl (hb ▸ hd) rfl z) hr
theorem Run.lushr {x : Int64} {y : Int32} (w : Int64) (q : Nat) (hd : decode bytes pc = .ok (.lushr, 1)) (hr : Run p l e R s m args below meth c Z own nm bytes maxL ret n0 EE h k n (mkF m q ls (.long w :: st))) (hv : (x.toUInt64 >>> (y &&& 0x3f).toInt64.toUInt64).toInt64 = w := by rfl) (hq : q = pc + 1 := by rfl) : Run p l e R s m args below meth c Z own nm bytes maxL ret n0 EE h k n (mkF m pc ls (.int y :: .long x :: st)) := by
  subst hq hv; exact Run.step (fun T t hx hb A z => XS.lushr A hx rfl (hb ▸ hd) rfl z) hr
theorem Run.i2b {x : Int32} (w : Int32) (q : Nat) (hd : decode bytes pc = .ok (.i2b, 1)) (hr : Run p l e R s m args below meth c Z own nm bytes maxL ret n0 EE h k n (mkF m q ls (.int w :: st))) (hv : x.toInt8.toInt32 = w := by rfl) (hq : q = pc + 1 := by rfl) : Run p l e R s m args below meth c Z own nm bytes maxL ret n0 EE h k n (mkF m pc ls (.int x :: st)) := by
  subst hq hv; exact Run.step (fun T t hx hb A z => XS.i2b A hx rfl (hb ▸ hd) rfl z) hr
theorem Run.i2c {x : Int32} (w : Int32) (q : Nat) (hd : decode bytes pc = .ok (.i2c, 1)) (hr : Run p l e R s m args below meth c Z own nm bytes maxL ret n0 EE h k n (mkF m q ls (.int w :: st))) (hv : x.toUInt32.toUInt16.toUInt32.toInt32 = w := by rfl) (hq : q = pc + 1 := by rfl) : Run p l e R s m args below meth c Z own nm bytes maxL ret n0 EE h k n (mkF m pc ls (.int x :: st)) := by
  subst hq hv; exact Run.step (fun T t hx hb A z => XS.i2c A hx rfl (hb ▸ hd) rfl z) hr
theorem Run.i2s {x : Int32} (w : Int32) (q : Nat) (hd : decode bytes pc = .ok (.i2s, 1)) (hr : Run p l e R s m args below meth c Z own nm bytes maxL ret n0 EE h k n (mkF m q ls (.int w :: st))) (hv : x.toInt16.toInt32 = w := by rfl) (hq : q = pc + 1 := by rfl) : Run p l e R s m args below meth c Z own nm bytes maxL ret n0 EE h k n (mkF m pc ls (.int x :: st)) := by
  subst hq hv; exact Run.step (fun T t hx hb A z => XS.i2s A hx rfl (hb ▸ hd) rfl z) hr
theorem Run.i2l {x : Int32} (w : Int64) (q : Nat) (hd : decode bytes pc = .ok (.i2l, 1)) (hr : Run p l e R s m args below meth c Z own nm bytes maxL ret n0 EE h k n (mkF m q ls (.long w :: st))) (hv : x.toInt64 = w := by rfl) (hq : q = pc + 1 := by rfl) : Run p l e R s m args below meth c Z own nm bytes maxL ret n0 EE h k n (mkF m pc ls (.int x :: st)) := by
  subst hq hv; exact Run.step (fun T t hx hb A z => XS.i2l A hx rfl (hb ▸ hd) rfl z) hr
theorem Run.l2i {x : Int64} (w : Int32) (q : Nat) (hd : decode bytes pc = .ok (.l2i, 1)) (hr : Run p l e R s m args below meth c Z own nm bytes maxL ret n0 EE h k n (mkF m q ls (.int w :: st))) (hv : x.toInt32 = w := by rfl) (hq : q = pc + 1 := by rfl) : Run p l e R s m args below meth c Z own nm bytes maxL ret n0 EE h k n (mkF m pc ls (.long x :: st)) := by
  subst hq hv; exact Run.step (fun T t hx hb A z => XS.l2i A hx rfl (hb ▸ hd) rfl z) hr
theorem Run.ineg {x : Int32} (w : Int32) (q : Nat) (hd : decode bytes pc = .ok (.ineg, 1)) (hr : Run p l e R s m args below meth c Z own nm bytes maxL ret n0 EE h k n (mkF m q ls (.int w :: st))) (hv : -x = w := by rfl) (hq : q = pc + 1 := by rfl) : Run p l e R s m args below meth c Z own nm bytes maxL ret n0 EE h k n (mkF m pc ls (.int x :: st)) := by
  subst hq hv; exact Run.step (fun T t hx hb A z => XS.ineg A hx rfl (hb ▸ hd) rfl z) hr
theorem Run.lneg {x : Int64} (w : Int64) (q : Nat) (hd : decode bytes pc = .ok (.lneg, 1)) (hr : Run p l e R s m args below meth c Z own nm bytes maxL ret n0 EE h k n (mkF m q ls (.long w :: st))) (hv : -x = w := by rfl) (hq : q = pc + 1 := by rfl) : Run p l e R s m args below meth c Z own nm bytes maxL ret n0 EE h k n (mkF m pc ls (.long x :: st)) := by
  subst hq hv; exact Run.step (fun T t hx hb A z => XS.lneg A hx rfl (hb ▸ hd) rfl z) hr
theorem Run.iinc {i : Nat} {cst : Int} {x : Int32} (w : Int32) (q : Nat) (ls' : Array Slot) (hd : decode bytes pc = .ok (.iinc i cst, 3)) (hl : ls[i]? = some (.val (.int x))) (hr : Run p l e R s m args below meth c Z own nm bytes maxL ret n0 EE h k n (mkF m q ls' st)) (hv : x + Int32.ofInt cst = w := by first | rfl | decide) (hs : storeLocals ls i (.int w) = some ls' := by rfl) (hq : q = pc + 3 := by rfl) : Run p l e R s m args below meth c Z own nm bytes maxL ret n0 EE h k n (mkF m pc ls st) := by
  subst hq hv; exact Run.step (fun T t hx hb A z => XS.iinc A hx rfl (hb ▸ hd) hl hs z) hr
theorem Run.dup {x : Value} (q : Nat) (hd : decode bytes pc = .ok (.dup, 1)) (hr : Run p l e R s m args below meth c Z own nm bytes maxL ret n0 EE h k n (mkF m q ls (x :: x :: st))) (hc : x.category = 1 := by rfl) (hq : q = pc + 1 := by rfl) : Run p l e R s m args below meth c Z own nm bytes maxL ret n0 EE h k n (mkF m pc ls (x :: st)) := by
  subst hq; exact Run.step (fun T t hx hb A z => XS.dup A hx rfl (hb ▸ hd) rfl hc z) hr
theorem Run.pop {x : Value} (q : Nat) (hd : decode bytes pc = .ok (.pop, 1)) (hr : Run p l e R s m args below meth c Z own nm bytes maxL ret n0 EE h k n (mkF m q ls st)) (hc : x.category = 1 := by rfl) (hq : q = pc + 1 := by rfl) : Run p l e R s m args below meth c Z own nm bytes maxL ret n0 EE h k n (mkF m pc ls (x :: st)) := by
  subst hq; exact Run.step (fun T t hx hb A z => XS.pop A hx rfl (hb ▸ hd) rfl hc z) hr
theorem Run.dupX1 {x y : Value} (q : Nat) (hd : decode bytes pc = .ok (.dup_x1, 1)) (hr : Run p l e R s m args below meth c Z own nm bytes maxL ret n0 EE h k n (mkF m q ls (x :: y :: x :: st))) (hc : x.category = 1 := by rfl) (hc' : y.category = 1 := by rfl) (hq : q = pc + 1 := by rfl) : Run p l e R s m args below meth c Z own nm bytes maxL ret n0 EE h k n (mkF m pc ls (x :: y :: st)) := by
  subst hq; exact Run.step (fun T t hx hb A z => XS.dupX1 A hx rfl (hb ▸ hd) rfl hc hc' z) hr
theorem Run.goto {o : Int} (q : Nat) (hd : decode bytes pc = .ok (.goto o, 3)) (hr : Run p l e R s m args below meth c Z own nm bytes maxL ret n0 EE h k n (mkF m q ls st)) (ho : 0 ≤ (pc : Int) + o := by decide) (hq : ((pc : Int) + o).toNat = q := by rfl) : Run p l e R s m args below meth c Z own nm bytes maxL ret n0 EE h k n (mkF m pc ls st) :=
  Run.step (fun T t hx hb A z => XS.goto A hx rfl rfl (hb ▸ hd) ho hq z) hr
theorem Run.ltY {x y : Int32} {o : Int} (q : Nat) (hd : decode bytes pc = .ok (.if_icmp .lt o, 3)) (hc : x < y) (hr : Run p l e R s m args below meth c Z own nm bytes maxL ret n0 EE h k n (mkF m q ls st)) (ho : 0 ≤ (pc : Int) + o := by decide) (hq : ((pc : Int) + o).toNat = q := by rfl) : Run p l e R s m args below meth c Z own nm bytes maxL ret n0 EE h k n (mkF m pc ls (.int y :: .int x :: st)) :=
  Run.step (fun T t hx hb A z => XS.icmpYes A hx rfl rfl (hb ▸ hd) rfl (tlt hc).1 ho hq z) hr
theorem Run.ltN {x y : Int32} {o : Int} (q : Nat) (hd : decode bytes pc = .ok (.if_icmp .lt o, 3)) (hc : ¬ (x < y)) (hr : Run p l e R s m args below meth c Z own nm bytes maxL ret n0 EE h k n (mkF m q ls st)) (hq : q = pc + 3 := by rfl) : Run p l e R s m args below meth c Z own nm bytes maxL ret n0 EE h k n (mkF m pc ls (.int y :: .int x :: st)) := by
  subst hq; exact Run.step (fun T t hx hb A z => XS.icmpNo A hx rfl (hb ▸ hd) rfl (flt hc).1 z) hr
theorem Run.lt {x y : Int32} {o : Int} (q q' : Nat) (hd : decode bytes pc = .ok (.if_icmp .lt o, 3)) (hr : x < y → Run p l e R s m args below meth c Z own nm bytes maxL ret n0 EE h k n (mkF m q ls st)) (hr' : ¬ (x < y) → Run p l e R s m args below meth c Z own nm bytes maxL ret n0 EE h k n (mkF m q' ls st)) (ho : 0 ≤ (pc : Int) + o := by decide) (hq : ((pc : Int) + o).toNat = q := by rfl) (hq' : q' = pc + 3 := by rfl) : Run p l e R s m args below meth c Z own nm bytes maxL ret n0 EE h k n (mkF m pc ls (.int y :: .int x :: st)) := by
  by_cases hc : x < y
  · exact Run.ltY q hd hc (hr hc) ho hq
  · exact Run.ltN q' hd hc (hr' hc) hq'
theorem Run.lt0Y {x : Int32} {o : Int} (q : Nat) (hd : decode bytes pc = .ok (.ifCond .lt o, 3)) (hc : x < (0 : Int32)) (hr : Run p l e R s m args below meth c Z own nm bytes maxL ret n0 EE h k n (mkF m q ls st)) (ho : 0 ≤ (pc : Int) + o := by decide) (hq : ((pc : Int) + o).toNat = q := by rfl) : Run p l e R s m args below meth c Z own nm bytes maxL ret n0 EE h k n (mkF m pc ls (.int x :: st)) :=
  Run.step (fun T t hx hb A z => XS.ifYes A hx rfl rfl (hb ▸ hd) rfl ((if0 _ _).trans (tlt hc).1) ho hq z) hr
theorem Run.lt0N {x : Int32} {o : Int} (q : Nat) (hd : decode bytes pc = .ok (.ifCond .lt o, 3)) (hc : ¬ (x < (0 : Int32))) (hr : Run p l e R s m args below meth c Z own nm bytes maxL ret n0 EE h k n (mkF m q ls st)) (hq : q = pc + 3 := by rfl) : Run p l e R s m args below meth c Z own nm bytes maxL ret n0 EE h k n (mkF m pc ls (.int x :: st)) := by
  subst hq; exact Run.step (fun T t hx hb A z => XS.ifNo A hx rfl (hb ▸ hd) rfl ((if0 _ _).trans (flt hc).1) z) hr
theorem Run.lt0 {x : Int32} {o : Int} (q q' : Nat) (hd : decode bytes pc = .ok (.ifCond .lt o, 3)) (hr : x < (0 : Int32) → Run p l e R s m args below meth c Z own nm bytes maxL ret n0 EE h k n (mkF m q ls st)) (hr' : ¬ (x < (0 : Int32)) → Run p l e R s m args below meth c Z own nm bytes maxL ret n0 EE h k n (mkF m q' ls st)) (ho : 0 ≤ (pc : Int) + o := by decide) (hq : ((pc : Int) + o).toNat = q := by rfl) (hq' : q' = pc + 3 := by rfl) : Run p l e R s m args below meth c Z own nm bytes maxL ret n0 EE h k n (mkF m pc ls (.int x :: st)) := by
  by_cases hc : x < (0 : Int32)
  · exact Run.lt0Y q hd hc (hr hc) ho hq
  · exact Run.lt0N q' hd hc (hr' hc) hq'
theorem Run.geY {x y : Int32} {o : Int} (q : Nat) (hd : decode bytes pc = .ok (.if_icmp .ge o, 3)) (hc : ¬ (x < y)) (hr : Run p l e R s m args below meth c Z own nm bytes maxL ret n0 EE h k n (mkF m q ls st)) (ho : 0 ≤ (pc : Int) + o := by decide) (hq : ((pc : Int) + o).toNat = q := by rfl) : Run p l e R s m args below meth c Z own nm bytes maxL ret n0 EE h k n (mkF m pc ls (.int y :: .int x :: st)) :=
  Run.step (fun T t hx hb A z => XS.icmpYes A hx rfl rfl (hb ▸ hd) rfl (flt hc).2.1 ho hq z) hr
theorem Run.geN {x y : Int32} {o : Int} (q : Nat) (hd : decode bytes pc = .ok (.if_icmp .ge o, 3)) (hc : x < y) (hr : Run p l e R s m args below meth c Z own nm bytes maxL ret n0 EE h k n (mkF m q ls st)) (hq : q = pc + 3 := by rfl) : Run p l e R s m args below meth c Z own nm bytes maxL ret n0 EE h k n (mkF m pc ls (.int y :: .int x :: st)) := by
  subst hq; exact Run.step (fun T t hx hb A z => XS.icmpNo A hx rfl (hb ▸ hd) rfl (tlt hc).2.1 z) hr
theorem Run.ge {x y : Int32} {o : Int} (q q' : Nat) (hd : decode bytes pc = .ok (.if_icmp .ge o, 3)) (hr : ¬ (x < y) → Run p l e R s m args below meth c Z own nm bytes maxL ret n0 EE h k n (mkF m q ls st)) (hr' : x < y → Run p l e R s m args below meth c Z own nm bytes maxL ret n0 EE h k n (mkF m q' ls st)) (ho : 0 ≤ (pc : Int) + o := by decide) (hq : ((pc : Int) + o).toNat = q := by rfl) (hq' : q' = pc + 3 := by rfl) : Run p l e R s m args below meth c Z own nm bytes maxL ret n0 EE h k n (mkF m pc ls (.int y :: .int x :: st)) := by
  by_cases hc : x < y
  · exact Run.geN q' hd hc (hr' hc) hq'
  · exact Run.geY q hd hc (hr hc) ho hq
theorem Run.ge0Y {x : Int32} {o : Int} (q : Nat) (hd : decode bytes pc = .ok (.ifCond .ge o, 3)) (hc : ¬ (x < (0 : Int32))) (hr : Run p l e R s m args below meth c Z own nm bytes maxL ret n0 EE h k n (mkF m q ls st)) (ho : 0 ≤ (pc : Int) + o := by decide) (hq : ((pc : Int) + o).toNat = q := by rfl) : Run p l e R s m args below meth c Z own nm bytes maxL ret n0 EE h k n (mkF m pc ls (.int x :: st)) :=
  Run.step (fun T t hx hb A z => XS.ifYes A hx rfl rfl (hb ▸ hd) rfl ((if0 _ _).trans (flt hc).2.1) ho hq z) hr
theorem Run.ge0N {x : Int32} {o : Int} (q : Nat) (hd : decode bytes pc = .ok (.ifCond .ge o, 3)) (hc : x < (0 : Int32)) (hr : Run p l e R s m args below meth c Z own nm bytes maxL ret n0 EE h k n (mkF m q ls st)) (hq : q = pc + 3 := by rfl) : Run p l e R s m args below meth c Z own nm bytes maxL ret n0 EE h k n (mkF m pc ls (.int x :: st)) := by
  subst hq; exact Run.step (fun T t hx hb A z => XS.ifNo A hx rfl (hb ▸ hd) rfl ((if0 _ _).trans (tlt hc).2.1) z) hr
theorem Run.ge0 {x : Int32} {o : Int} (q q' : Nat) (hd : decode bytes pc = .ok (.ifCond .ge o, 3)) (hr : ¬ (x < (0 : Int32)) → Run p l e R s m args below meth c Z own nm bytes maxL ret n0 EE h k n (mkF m q ls st)) (hr' : x < (0 : Int32) → Run p l e R s m args below meth c Z own nm bytes maxL ret n0 EE h k n (mkF m q' ls st)) (ho : 0 ≤ (pc : Int) + o := by decide) (hq : ((pc : Int) + o).toNat = q := by rfl) (hq' : q' = pc + 3 := by rfl) : Run p l e R s m args below meth c Z own nm bytes maxL ret n0 EE h k n (mkF m pc ls (.int x :: st)) := by
  by_cases hc : x < (0 : Int32)
  · exact Run.ge0N q' hd hc (hr' hc) hq'
  · exact Run.ge0Y q hd hc (hr hc) ho hq
theorem Run.gtY {x y : Int32} {o : Int} (q : Nat) (hd : decode bytes pc = .ok (.if_icmp .gt o, 3)) (hc : y < x) (hr : Run p l e R s m args below meth c Z own nm bytes maxL ret n0 EE h k n (mkF m q ls st)) (ho : 0 ≤ (pc : Int) + o := by decide) (hq : ((pc : Int) + o).toNat = q := by rfl) : Run p l e R s m args below meth c Z own nm bytes maxL ret n0 EE h k n (mkF m pc ls (.int y :: .int x :: st)) :=
  Run.step (fun T t hx hb A z => XS.icmpYes A hx rfl rfl (hb ▸ hd) rfl (tlt hc).2.2.1 ho hq z) hr
theorem Run.gtN {x y : Int32} {o : Int} (q : Nat) (hd : decode bytes pc = .ok (.if_icmp .gt o, 3)) (hc : ¬ (y < x)) (hr : Run p l e R s m args below meth c Z own nm bytes maxL ret n0 EE h k n (mkF m q ls st)) (hq : q = pc + 3 := by rfl) : Run p l e R s m args below meth c Z own nm bytes maxL ret n0 EE h k n (mkF m pc ls (.int y :: .int x :: st)) := by
  subst hq; exact Run.step (fun T t hx hb A z => XS.icmpNo A hx rfl (hb ▸ hd) rfl (flt hc).2.2.1 z) hr
theorem Run.gt {x y : Int32} {o : Int} (q q' : Nat) (hd : decode bytes pc = .ok (.if_icmp .gt o, 3)) (hr : y < x → Run p l e R s m args below meth c Z own nm bytes maxL ret n0 EE h k n (mkF m q ls st)) (hr' : ¬ (y < x) → Run p l e R s m args below meth c Z own nm bytes maxL ret n0 EE h k n (mkF m q' ls st)) (ho : 0 ≤ (pc : Int) + o := by decide) (hq : ((pc : Int) + o).toNat = q := by rfl) (hq' : q' = pc + 3 := by rfl) : Run p l e R s m args below meth c Z own nm bytes maxL ret n0 EE h k n (mkF m pc ls (.int y :: .int x :: st)) := by
  by_cases hc : y < x
  · exact Run.gtY q hd hc (hr hc) ho hq
  · exact Run.gtN q' hd hc (hr' hc) hq'
theorem Run.gt0Y {x : Int32} {o : Int} (q : Nat) (hd : decode bytes pc = .ok (.ifCond .gt o, 3)) (hc : (0 : Int32) < x) (hr : Run p l e R s m args below meth c Z own nm bytes maxL ret n0 EE h k n (mkF m q ls st)) (ho : 0 ≤ (pc : Int) + o := by decide) (hq : ((pc : Int) + o).toNat = q := by rfl) : Run p l e R s m args below meth c Z own nm bytes maxL ret n0 EE h k n (mkF m pc ls (.int x :: st)) :=
  Run.step (fun T t hx hb A z => XS.ifYes A hx rfl rfl (hb ▸ hd) rfl ((if0 _ _).trans (tlt hc).2.2.1) ho hq z) hr
theorem Run.gt0N {x : Int32} {o : Int} (q : Nat) (hd : decode bytes pc = .ok (.ifCond .gt o, 3)) (hc : ¬ ((0 : Int32) < x)) (hr : Run p l e R s m args below meth c Z own nm bytes maxL ret n0 EE h k n (mkF m q ls st)) (hq : q = pc + 3 := by rfl) : Run p l e R s m args below meth c Z own nm bytes maxL ret n0 EE h k n (mkF m pc ls (.int x :: st)) := by
  subst hq; exact Run.step (fun T t hx hb A z => XS.ifNo A hx rfl (hb ▸ hd) rfl ((if0 _ _).trans (flt hc).2.2.1) z) hr
theorem Run.gt0 {x : Int32} {o : Int} (q q' : Nat) (hd : decode bytes pc = .ok (.ifCond .gt o, 3)) (hr : (0 : Int32) < x → Run p l e R s m args below meth c Z own nm bytes maxL ret n0 EE h k n (mkF m q ls st)) (hr' : ¬ ((0 : Int32) < x) → Run p l e R s m args below meth c Z own nm bytes maxL ret n0 EE h k n (mkF m q' ls st)) (ho : 0 ≤ (pc : Int) + o := by decide) (hq : ((pc : Int) + o).toNat = q := by rfl) (hq' : q' = pc + 3 := by rfl) : Run p l e R s m args below meth c Z own nm bytes maxL ret n0 EE h k n (mkF m pc ls (.int x :: st)) := by
  by_cases hc : (0 : Int32) < x
  · exact Run.gt0Y q hd hc (hr hc) ho hq
  · exact Run.gt0N q' hd hc (hr' hc) hq'
theorem Run.leY {x y : Int32} {o : Int} (q : Nat) (hd : decode bytes pc = .ok (.if_icmp .le o, 3)) (hc : ¬ (y < x)) (hr : Run p l e R s m args below meth c Z own nm bytes maxL ret n0 EE h k n (mkF m q ls st)) (ho : 0 ≤ (pc : Int) + o := by decide) (hq : ((pc : Int) + o).toNat = q := by rfl) : Run p l e R s m args below meth c Z own nm bytes maxL ret n0 EE h k n (mkF m pc ls (.int y :: .int x :: st)) :=
  Run.step (fun T t hx hb A z => XS.icmpYes A hx rfl rfl (hb ▸ hd) rfl (flt hc).2.2.2 ho hq z) hr
theorem Run.leN {x y : Int32} {o : Int} (q : Nat) (hd : decode bytes pc = .ok (.if_icmp .le o, 3)) (hc : y < x) (hr : Run p l e R s m args below meth c Z own nm bytes maxL ret n0 EE h k n (mkF m q ls st)) (hq : q = pc + 3 := by rfl) : Run p l e R s m args below meth c Z own nm bytes maxL ret n0 EE h k n (mkF m pc ls (.int y :: .int x :: st)) := by
  subst hq; exact Run.step (fun T t hx hb A z => XS.icmpNo A hx rfl (hb ▸ hd) rfl (tlt hc).2.2.2 z) hr
theorem Run.le {x y : Int32} {o : Int} (q q' : Nat) (hd : decode bytes pc = .ok (.if_icmp .le o, 3)) (hr : ¬ (y < x) → Run p l e R s m args below meth c Z own nm bytes maxL ret n0 EE h k n (mkF m q ls st)) (hr' : y < x → Run p l e R s m args below meth c Z own nm bytes maxL ret n0 EE h k n (mkF m q' ls st)) (ho : 0 ≤ (pc : Int) + o := by decide) (hq : ((pc : Int) + o).toNat = q := by rfl) (hq' : q' = pc + 3 := by rfl) : Run p l e R s m args below meth c Z own nm bytes maxL ret n0 EE h k n (mkF m pc ls (.int y :: .int x :: st)) := by
  by_cases hc : y < x
  · exact Run.leN q' hd hc (hr' hc) hq'
  · exact Run.leY q hd hc (hr hc) ho hq
theorem Run.le0Y {x : Int32} {o : Int} (q : Nat) (hd : decode bytes pc = .ok (.ifCond .le o, 3)) (hc : ¬ ((0 : Int32) < x)) (hr : Run p l e R s m args below meth c Z own nm bytes maxL ret n0 EE h k n (mkF m q ls st)) (ho : 0 ≤ (pc : Int) + o := by decide) (hq : ((pc : Int) + o).toNat = q := by rfl) : Run p l e R s m args below meth c Z own nm bytes maxL ret n0 EE h k n (mkF m pc ls (.int x :: st)) :=
  Run.step (fun T t hx hb A z => XS.ifYes A hx rfl rfl (hb ▸ hd) rfl ((if0 _ _).trans (flt hc).2.2.2) ho hq z) hr
theorem Run.le0N {x : Int32} {o : Int} (q : Nat) (hd : decode bytes pc = .ok (.ifCond .le o, 3)) (hc : (0 : Int32) < x) (hr : Run p l e R s m args below meth c Z own nm bytes maxL ret n0 EE h k n (mkF m q ls st)) (hq : q = pc + 3 := by rfl) : Run p l e R s m args below meth c Z own nm bytes maxL ret n0 EE h k n (mkF m pc ls (.int x :: st)) := by
  subst hq; exact Run.step (fun T t hx hb A z => XS.ifNo A hx rfl (hb ▸ hd) rfl ((if0 _ _).trans (tlt hc).2.2.2) z) hr
theorem Run.le0 {x : Int32} {o : Int} (q q' : Nat) (hd : decode bytes pc = .ok (.ifCond .le o, 3)) (hr : ¬ ((0 : Int32) < x) → Run p l e R s m args below meth c Z own nm bytes maxL ret n0 EE h k n (mkF m q ls st)) (hr' : (0 : Int32) < x → Run p l e R s m args below meth c Z own nm bytes maxL ret n0 EE h k n (mkF m q' ls st)) (ho : 0 ≤ (pc : Int) + o := by decide) (hq : ((pc : Int) + o).toNat = q := by rfl) (hq' : q' = pc + 3 := by rfl) : Run p l e R s m args below meth c Z own nm bytes maxL ret n0 EE h k n (mkF m pc ls (.int x :: st)) := by
  by_cases hc : (0 : Int32) < x
  · exact Run.le0N q' hd hc (hr' hc) hq'
  · exact Run.le0Y q hd hc (hr hc) ho hq
theorem Run.eqY {x y : Int32} {o : Int} (q : Nat) (hd : decode bytes pc = .ok (.if_icmp .eq o, 3)) (hc : x = y) (hr : Run p l e R s m args below meth c Z own nm bytes maxL ret n0 EE h k n (mkF m q ls st)) (ho : 0 ≤ (pc : Int) + o := by decide) (hq : ((pc : Int) + o).toNat = q := by rfl) : Run p l e R s m args below meth c Z own nm bytes maxL ret n0 EE h k n (mkF m pc ls (.int y :: .int x :: st)) :=
  Run.step (fun T t hx hb A z => XS.icmpYes A hx rfl rfl (hb ▸ hd) rfl (teq hc).1 ho hq z) hr
theorem Run.eqN {x y : Int32} {o : Int} (q : Nat) (hd : decode bytes pc = .ok (.if_icmp .eq o, 3)) (hc : ¬ (x = y)) (hr : Run p l e R s m args below meth c Z own nm bytes maxL ret n0 EE h k n (mkF m q ls st)) (hq : q = pc + 3 := by rfl) : Run p l e R s m args below meth c Z own nm bytes maxL ret n0 EE h k n (mkF m pc ls (.int y :: .int x :: st)) := by
  subst hq; exact Run.step (fun T t hx hb A z => XS.icmpNo A hx rfl (hb ▸ hd) rfl (feq hc).1 z) hr
theorem Run.eq {x y : Int32} {o : Int} (q q' : Nat) (hd : decode bytes pc = .ok (.if_icmp .eq o, 3)) (hr : x = y → Run p l e R s m args below meth c Z own nm bytes maxL ret n0 EE h k n (mkF m q ls st)) (hr' : ¬ (x = y) → Run p l e R s m args below meth c Z own nm bytes maxL ret n0 EE h k n (mkF m q' ls st)) (ho : 0 ≤ (pc : Int) + o := by decide) (hq : ((pc : Int) + o).toNat = q := by rfl) (hq' : q' = pc + 3 := by rfl) : Run p l e R s m args below meth c Z own nm bytes maxL ret n0 EE h k n (mkF m pc ls (.int y :: .int x :: st)) := by
  by_cases hc : x = y
  · exact Run.eqY q hd hc (hr hc) ho hq
  · exact Run.eqN q' hd hc (hr' hc) hq'
theorem Run.eq0Y {x : Int32} {o : Int} (q : Nat) (hd : decode bytes pc = .ok (.ifCond .eq o, 3)) (hc : x = (0 : Int32)) (hr : Run p l e R s m args below meth c Z own nm bytes maxL ret n0 EE h k n (mkF m q ls st)) (ho : 0 ≤ (pc : Int) + o := by decide) (hq : ((pc : Int) + o).toNat = q := by rfl) : Run p l e R s m args below meth c Z own nm bytes maxL ret n0 EE h k n (mkF m pc ls (.int x :: st)) :=
  Run.step (fun T t hx hb A z => XS.ifYes A hx rfl rfl (hb ▸ hd) rfl ((if0 _ _).trans (teq hc).1) ho hq z) hr
theorem Run.eq0N {x : Int32} {o : Int} (q : Nat) (hd : decode bytes pc = .ok (.ifCond .eq o, 3)) (hc : ¬ (x = (0 : Int32))) (hr : Run p l e R s m args below meth c Z own nm bytes maxL ret n0 EE h k n (mkF m q ls st)) (hq : q = pc + 3 := by rfl) : Run p l e R s m args below meth c Z own nm bytes maxL ret n0 EE h k n (mkF m pc ls (.int x :: st)) := by
  subst hq; exact Run.step (fun T t hx hb A z => XS.ifNo A hx rfl (hb ▸ hd) rfl ((if0 _ _).trans (feq hc).1) z) hr
theorem Run.eq0 {x : Int32} {o : Int} (q q' : Nat) (hd : decode bytes pc = .ok (.ifCond .eq o, 3)) (hr : x = (0 : Int32) → Run p l e R s m args below meth c Z own nm bytes maxL ret n0 EE h k n (mkF m q ls st)) (hr' : ¬ (x = (0 : Int32)) → Run p l e R s m args below meth c Z own nm bytes maxL ret n0 EE h k n (mkF m q' ls st)) (ho : 0 ≤ (pc : Int) + o := by decide) (hq : ((pc : Int) + o).toNat = q := by rfl) (hq' : q' = pc + 3 := by rfl) : Run p l e R s m args below meth c Z own nm bytes maxL ret n0 EE h k n (mkF m pc ls (.int x :: st)) := by
  by_cases hc : x = (0 : Int32)
  · exact Run.eq0Y q hd hc (hr hc) ho hq
  · exact Run.eq0N q' hd hc (hr' hc) hq'
theorem Run.neY {x y : Int32} {o : Int} (q : Nat) (hd : decode bytes pc = .ok (.if_icmp .ne o, 3)) (hc : ¬ (x = y)) (hr : Run p l e R s m args below meth c Z own nm bytes maxL ret n0 EE h k n (mkF m q ls st)) (ho : 0 ≤ (pc : Int) + o := by decide) (hq : ((pc : Int) + o).toNat = q := by rfl) : Run p l e R s m args below meth c Z own nm bytes maxL ret n0 EE h k n (mkF m pc ls (.int y :: .int x :: st)) :=
  Run.step (fun T t hx hb A z => XS.icmpYes A hx rfl rfl (hb ▸ hd) rfl (feq hc).2 ho hq z) hr
theorem Run.neN {x y : Int32} {o : Int} (q : Nat) (hd : decode bytes pc = .ok (.if_icmp .ne o, 3)) (hc : x = y) (hr : Run p l e R s m args below meth c Z own nm bytes maxL ret n0 EE h k n (mkF m q ls st)) (hq : q = pc + 3 := by rfl) : Run p l e R s m args below meth c Z own nm bytes maxL ret n0 EE h k n (mkF m pc ls (.int y :: .int x :: st)) := by
  subst hq; exact Run.step (fun T t hx hb A z => XS.icmpNo A hx rfl (hb ▸ hd) rfl (teq hc).2 z) hr
theorem Run.ne {x y : Int32} {o : Int} (q q' : Nat) (hd : decode bytes pc = .ok (.if_icmp .ne o, 3)) (hr : ¬ (x = y) → Run p l e R s m args below meth c Z own nm bytes maxL ret n0 EE h k n (mkF m q ls st)) (hr' : x = y → Run p l e R s m args below meth c Z own nm bytes maxL ret n0 EE h k n (mkF m q' ls st)) (ho : 0 ≤ (pc : Int) + o := by decide) (hq : ((pc : Int) + o).toNat = q := by rfl) (hq' : q' = pc + 3 := by rfl) : Run p l e R s m args below meth c Z own nm bytes maxL ret n0 EE h k n (mkF m pc ls (.int y :: .int x :: st)) := by
  by_cases hc : x = y
  · exact Run.neN q' hd hc (hr' hc) hq'
  · exact Run.neY q hd hc (hr hc) ho hq
theorem Run.ne0Y {x : Int32} {o : Int} (q : Nat) (hd : decode bytes pc = .ok (.ifCond .ne o, 3)) (hc : ¬ (x = (0 : Int32))) (hr : Run p l e R s m args below meth c Z own nm bytes maxL ret n0 EE h k n (mkF m q ls st)) (ho : 0 ≤ (pc : Int) + o := by decide) (hq : ((pc : Int) + o).toNat = q := by rfl) : Run p l e R s m args below meth c Z own nm bytes maxL ret n0 EE h k n (mkF m pc ls (.int x :: st)) :=
  Run.step (fun T t hx hb A z => XS.ifYes A hx rfl rfl (hb ▸ hd) rfl ((if0 _ _).trans (feq hc).2) ho hq z) hr
theorem Run.ne0N {x : Int32} {o : Int} (q : Nat) (hd : decode bytes pc = .ok (.ifCond .ne o, 3)) (hc : x = (0 : Int32)) (hr : Run p l e R s m args below meth c Z own nm bytes maxL ret n0 EE h k n (mkF m q ls st)) (hq : q = pc + 3 := by rfl) : Run p l e R s m args below meth c Z own nm bytes maxL ret n0 EE h k n (mkF m pc ls (.int x :: st)) := by
  subst hq; exact Run.step (fun T t hx hb A z => XS.ifNo A hx rfl (hb ▸ hd) rfl ((if0 _ _).trans (teq hc).2) z) hr
theorem Run.ne0 {x : Int32} {o : Int} (q q' : Nat) (hd : decode bytes pc = .ok (.ifCond .ne o, 3)) (hr : ¬ (x = (0 : Int32)) → Run p l e R s m args below meth c Z own nm bytes maxL ret n0 EE h k n (mkF m q ls st)) (hr' : x = (0 : Int32) → Run p l e R s m args below meth c Z own nm bytes maxL ret n0 EE h k n (mkF m q' ls st)) (ho : 0 ≤ (pc : Int) + o := by decide) (hq : ((pc : Int) + o).toNat = q := by rfl) (hq' : q' = pc + 3 := by rfl) : Run p l e R s m args below meth c Z own nm bytes maxL ret n0 EE h k n (mkF m pc ls (.int x :: st)) := by
  by_cases hc : x = (0 : Int32)
  · exact Run.ne0N q' hd hc (hr' hc) hq'
  · exact Run.ne0Y q hd hc (hr hc) ho hq
theorem Run.lltY {x y : Int64} {o : Int} (q : Nat) (hd1 : decode bytes pc = .ok (.lcmp, 1)) (hd : decode bytes (pc + 1) = .ok (.ifCond .lt o, 3)) (hc : x < y) (hr : Run p l e R s m args below meth c Z own nm bytes maxL ret n0 EE h k n (mkF m q ls st)) (ho : 0 ≤ ((pc + 1 : Nat) : Int) + o := by decide) (hq : (((pc + 1 : Nat) : Int) + o).toNat = q := by rfl) : Run p l e R s m args below meth c Z own nm bytes maxL ret n0 EE h k n (mkF m pc ls (.long y :: .long x :: st)) :=
  Run.step (fun T t hx hb A z => XS.lcmp A hx rfl (hb ▸ hd1) rfl (XS.ifYes (x := lcmpW x y) (rest := st) (g := mkF m (pc + 1) ls (.int (lcmpW x y) :: st)) A hx rfl rfl (hb ▸ hd) rfl ((if0 _ _).trans (tlt ((lw_lt x y).mpr hc)).1) ho hq z)) hr
theorem Run.lltN {x y : Int64} {o : Int} (q : Nat) (hd1 : decode bytes pc = .ok (.lcmp, 1)) (hd : decode bytes (pc + 1) = .ok (.ifCond .lt o, 3)) (hc : ¬ (x < y)) (hr : Run p l e R s m args below meth c Z own nm bytes maxL ret n0 EE h k n (mkF m q ls st)) (hq : q = pc + 4 := by rfl) : Run p l e R s m args below meth c Z own nm bytes maxL ret n0 EE h k n (mkF m pc ls (.long y :: .long x :: st)) := by
  subst hq; exact Run.step (fun T t hx hb A z => XS.lcmp A hx rfl (hb ▸ hd1) rfl (XS.ifNo (x := lcmpW x y) (rest := st) (g := mkF m (pc + 1) ls (.int (lcmpW x y) :: st)) A hx rfl (hb ▸ hd) rfl ((if0 _ _).trans (flt (fun z => hc ((lw_lt x y).mp z))).1) z)) hr
theorem Run.llt {x y : Int64} {o : Int} (q q' : Nat) (hd1 : decode bytes pc = .ok (.lcmp, 1)) (hd : decode bytes (pc + 1) = .ok (.ifCond .lt o, 3)) (hr : x < y → Run p l e R s m args below meth c Z own nm bytes maxL ret n0 EE h k n (mkF m q ls st)) (hr' : ¬ (x < y) → Run p l e R s m args below meth c Z own nm bytes maxL ret n0 EE h k n (mkF m q' ls st)) (ho : 0 ≤ ((pc + 1 : Nat) : Int) + o := by decide) (hq : (((pc + 1 : Nat) : Int) + o).toNat = q := by rfl) (hq' : q' = pc + 4 := by rfl) : Run p l e R s m args below meth c Z own nm bytes maxL ret n0 EE h k n (mkF m pc ls (.long y :: .long x :: st)) := by
  by_cases hc : x < y
  · exact Run.lltY q hd1 hd hc (hr hc) ho hq
  · exact Run.lltN q' hd1 hd hc (hr' hc) hq'
theorem Run.lgeY {x y : Int64} {o : Int} (q : Nat) (hd1 : decode bytes pc = .ok (.lcmp, 1)) (hd : decode bytes (pc + 1) = .ok (.ifCond .ge o, 3)) (hc : ¬ (x < y)) (hr : Run p l e R s m args below meth c Z own nm bytes maxL ret n0 EE h k n (mkF m q ls st)) (ho : 0 ≤ ((pc + 1 : Nat) : Int) + o := by decide) (hq : (((pc + 1 : Nat) : Int) + o).toNat = q := by rfl) : Run p l e R s m args below meth c Z own nm bytes maxL ret n0 EE h k n (mkF m pc ls (.long y :: .long x :: st)) :=
  Run.step (fun T t hx hb A z => XS.lcmp A hx rfl (hb ▸ hd1) rfl (XS.ifYes (x := lcmpW x y) (rest := st) (g := mkF m (pc + 1) ls (.int (lcmpW x y) :: st)) A hx rfl rfl (hb ▸ hd) rfl ((if0 _ _).trans (flt (fun z => hc ((lw_lt x y).mp z))).2.1) ho hq z)) hr
theorem Run.lgeN {x y : Int64} {o : Int} (q : Nat) (hd1 : decode bytes pc = .ok (.lcmp, 1)) (hd : decode bytes (pc + 1) = .ok (.ifCond .ge o, 3)) (hc : x < y) (hr : Run p l e R s m args below meth c Z own nm bytes maxL ret n0 EE h k n (mkF m q ls st)) (hq : q = pc + 4 := by rfl) : Run p l e R s m args below meth c Z own nm bytes maxL ret n0 EE h k n (mkF m pc ls (.long y :: .long x :: st)) := by
  subst hq; exact Run.step (fun T t hx hb A z => XS.lcmp A hx rfl (hb ▸ hd1) rfl (XS.ifNo (x := lcmpW x y) (rest := st) (g := mkF m (pc + 1) ls (.int (lcmpW x y) :: st)) A hx rfl (hb ▸ hd) rfl ((if0 _ _).trans (tlt ((lw_lt x y).mpr hc)).2.1) z)) hr
theorem Run.lge {x y : Int64} {o : Int} (q q' : Nat) (hd1 : decode bytes pc = .ok (.lcmp, 1)) (hd : decode bytes (pc + 1) = .ok (.ifCond .ge o, 3)) (hr : ¬ (x < y) → Run p l e R s m args below meth c Z own nm bytes maxL ret n0 EE h k n (mkF m q ls st)) (hr' : x < y → Run p l e R s m args below meth c Z own nm bytes maxL ret n0 EE h k n (mkF m q' ls st)) (ho : 0 ≤ ((pc + 1 : Nat) : Int) + o := by decide) (hq : (((pc + 1 : Nat) : Int) + o).toNat = q := by rfl) (hq' : q' = pc + 4 := by rfl) : Run p l e R s m args below meth c Z own nm bytes maxL ret n0 EE h k n (mkF m pc ls (.long y :: .long x :: st)) := by
  by_cases hc : x < y
  · exact Run.lgeN q' hd1 hd hc (hr' hc) hq'
  · exact Run.lgeY q hd1 hd hc (hr hc) ho hq
theorem Run.lgtY {x y : Int64} {o : Int} (q : Nat) (hd1 : decode bytes pc = .ok (.lcmp, 1)) (hd : decode bytes (pc + 1) = .ok (.ifCond .gt o, 3)) (hc : y < x) (hr : Run p l e R s m args below meth c Z own nm bytes maxL ret n0 EE h k n (mkF m q ls st)) (ho : 0 ≤ ((pc + 1 : Nat) : Int) + o := by decide) (hq : (((pc + 1 : Nat) : Int) + o).toNat = q := by rfl) : Run p l e R s m args below meth c Z own nm bytes maxL ret n0 EE h k n (mkF m pc ls (.long y :: .long x :: st)) :=
  Run.step (fun T t hx hb A z => XS.lcmp A hx rfl (hb ▸ hd1) rfl (XS.ifYes (x := lcmpW x y) (rest := st) (g := mkF m (pc + 1) ls (.int (lcmpW x y) :: st)) A hx rfl rfl (hb ▸ hd) rfl ((if0 _ _).trans (tlt ((lw_gt x y).mpr hc)).2.2.1) ho hq z)) hr
theorem Run.lgtN {x y : Int64} {o : Int} (q : Nat) (hd1 : decode bytes pc = .ok (.lcmp, 1)) (hd : decode bytes (pc + 1) = .ok (.ifCond .gt o, 3)) (hc : ¬ (y < x)) (hr : Run p l e R s m args below meth c Z own nm bytes maxL ret n0 EE h k n (mkF m q ls st)) (hq : q = pc + 4 := by rfl) : Run p l e R s m args below meth c Z own nm bytes maxL ret n0 EE h k n (mkF m pc ls (.long y :: .long x :: st)) := by
  subst hq; exact Run.step (fun T t hx hb A z => XS.lcmp A hx rfl (hb ▸ hd1) rfl (XS.ifNo (x := lcmpW x y) (rest := st) (g := mkF m (pc + 1) ls (.int (lcmpW x y) :: st)) A hx rfl (hb ▸ hd) rfl ((if0 _ _).trans (flt (fun z => hc ((lw_gt x y).mp z))).2.2.1) z)) hr
theorem Run.lgt {x y : Int64} {o : Int} (q q' : Nat) (hd1 : decode bytes pc = .ok (.lcmp, 1)) (hd : decode bytes (pc + 1) = .ok (.ifCond .gt o, 3)) (hr : y < x → Run p l e R s m args below meth c Z own nm bytes maxL ret n0 EE h k n (mkF m q ls st)) (hr' : ¬ (y < x) → Run p l e R s m args below meth c Z own nm bytes maxL ret n0 EE h k n (mkF m q' ls st)) (ho : 0 ≤ ((pc + 1 : Nat) : Int) + o := by decide) (hq : (((pc + 1 : Nat) : Int) + o).toNat = q := by rfl) (hq' : q' = pc + 4 := by rfl) : Run p l e R s m args below meth c Z own nm bytes maxL ret n0 EE h k n (mkF m pc ls (.long y :: .long x :: st)) := by
  by_cases hc : y < x
  · exact Run.lgtY q hd1 hd hc (hr hc) ho hq
  · exact Run.lgtN q' hd1 hd hc (hr' hc) hq'
theorem Run.lleY {x y : Int64} {o : Int} (q : Nat) (hd1 : decode bytes pc = .ok (.lcmp, 1)) (hd : decode bytes (pc + 1) = .ok (.ifCond .le o, 3)) (hc : ¬ (y < x)) (hr : Run p l e R s m args below meth c Z own nm bytes maxL ret n0 EE h k n (mkF m q ls st)) (ho : 0 ≤ ((pc + 1 : Nat) : Int) + o := by decide) (hq : (((pc + 1 : Nat) : Int) + o).toNat = q := by rfl) : Run p l e R s m args below meth c Z own nm bytes maxL ret n0 EE h k n (mkF m pc ls (.long y :: .long x :: st)) :=
  Run.step (fun T t hx hb A z => XS.lcmp A hx rfl (hb ▸ hd1) rfl (XS.ifYes (x := lcmpW x y) (rest := st) (g := mkF m (pc + 1) ls (.int (lcmpW x y) :: st)) A hx rfl rfl (hb ▸ hd) rfl ((if0 _ _).trans (flt (fun z => hc ((lw_gt x y).mp z))).2.2.2) ho hq z)) hr
theorem Run.lleN {x y : Int64} {o : Int} (q : Nat) (hd1 : decode bytes pc = .ok (.lcmp, 1)) (hd : decode bytes (pc + 1) = .ok (.ifCond .le o, 3)) (hc : y < x) (hr : Run p l e R s m args below meth c Z own nm bytes maxL ret n0 EE h k n (mkF m q ls st)) (hq : q = pc + 4 := by rfl) : Run p l e R s m args below meth c Z own nm bytes maxL ret n0 EE h k n (mkF m pc ls (.long y :: .long x :: st)) := by
  subst hq; exact Run.step (fun T t hx hb A z => XS.lcmp A hx rfl (hb ▸ hd1) rfl (XS.ifNo (x := lcmpW x y) (rest := st) (g := mkF m (pc + 1) ls (.int (lcmpW x y) :: st)) A hx rfl (hb ▸ hd) rfl ((if0 _ _).trans (tlt ((lw_gt x y).mpr hc)).2.2.2) z)) hr
theorem Run.lle {x y : Int64} {o : Int} (q q' : Nat) (hd1 : decode bytes pc = .ok (.lcmp, 1)) (hd : decode bytes (pc + 1) = .ok (.ifCond .le o, 3)) (hr : ¬ (y < x) → Run p l e R s m args below meth c Z own nm bytes maxL ret n0 EE h k n (mkF m q ls st)) (hr' : y < x → Run p l e R s m args below meth c Z own nm bytes maxL ret n0 EE h k n (mkF m q' ls st)) (ho : 0 ≤ ((pc + 1 : Nat) : Int) + o := by decide) (hq : (((pc + 1 : Nat) : Int) + o).toNat = q := by rfl) (hq' : q' = pc + 4 := by rfl) : Run p l e R s m args below meth c Z own nm bytes maxL ret n0 EE h k n (mkF m pc ls (.long y :: .long x :: st)) := by
  by_cases hc : y < x
  · exact Run.lleN q' hd1 hd hc (hr' hc) hq'
  · exact Run.lleY q hd1 hd hc (hr hc) ho hq
theorem Run.leqY {x y : Int64} {o : Int} (q : Nat) (hd1 : decode bytes pc = .ok (.lcmp, 1)) (hd : decode bytes (pc + 1) = .ok (.ifCond .eq o, 3)) (hc : x = y) (hr : Run p l e R s m args below meth c Z own nm bytes maxL ret n0 EE h k n (mkF m q ls st)) (ho : 0 ≤ ((pc + 1 : Nat) : Int) + o := by decide) (hq : (((pc + 1 : Nat) : Int) + o).toNat = q := by rfl) : Run p l e R s m args below meth c Z own nm bytes maxL ret n0 EE h k n (mkF m pc ls (.long y :: .long x :: st)) :=
  Run.step (fun T t hx hb A z => XS.lcmp A hx rfl (hb ▸ hd1) rfl (XS.ifYes (x := lcmpW x y) (rest := st) (g := mkF m (pc + 1) ls (.int (lcmpW x y) :: st)) A hx rfl rfl (hb ▸ hd) rfl ((if0 _ _).trans (teq ((lw_eq x y).mpr hc)).1) ho hq z)) hr
theorem Run.leqN {x y : Int64} {o : Int} (q : Nat) (hd1 : decode bytes pc = .ok (.lcmp, 1)) (hd : decode bytes (pc + 1) = .ok (.ifCond .eq o, 3)) (hc : ¬ (x = y)) (hr : Run p l e R s m args below meth c Z own nm bytes maxL ret n0 EE h k n (mkF m q ls st)) (hq : q = pc + 4 := by rfl) : Run p l e R s m args below meth c Z own nm bytes maxL ret n0 EE h k n (mkF m pc ls (.long y :: .long x :: st)) := by
  subst hq; exact Run.step (fun T t hx hb A z => XS.lcmp A hx rfl (hb ▸ hd1) rfl (XS.ifNo (x := lcmpW x y) (rest := st) (g := mkF m (pc + 1) ls (.int (lcmpW x y) :: st)) A hx rfl (hb ▸ hd) rfl ((if0 _ _).trans (feq (fun z => hc ((lw_eq x y).mp z))).1) z)) hr
theorem Run.leq {x y : Int64} {o : Int} (q q' : Nat) (hd1 : decode bytes pc = .ok (.lcmp, 1)) (hd : decode bytes (pc + 1) = .ok (.ifCond .eq o, 3)) (hr : x = y → Run p l e R s m args below meth c Z own nm bytes maxL ret n0 EE h k n (mkF m q ls st)) (hr' : ¬ (x = y) → Run p l e R s m args below meth c Z own nm bytes maxL ret n0 EE h k n (mkF m q' ls st)) (ho : 0 ≤ ((pc + 1 : Nat) : Int) + o := by decide) (hq : (((pc + 1 : Nat) : Int) + o).toNat = q := by rfl) (hq' : q' = pc + 4 := by rfl) : Run p l e R s m args below meth c Z own nm bytes maxL ret n0 EE h k n (mkF m pc ls (.long y :: .long x :: st)) := by
  by_cases hc : x = y
  · exact Run.leqY q hd1 hd hc (hr hc) ho hq
  · exact Run.leqN q' hd1 hd hc (hr' hc) hq'
theorem Run.lneY {x y : Int64} {o : Int} (q : Nat) (hd1 : decode bytes pc = .ok (.lcmp, 1)) (hd : decode bytes (pc + 1) = .ok (.ifCond .ne o, 3)) (hc : ¬ (x = y)) (hr : Run p l e R s m args below meth c Z own nm bytes maxL ret n0 EE h k n (mkF m q ls st)) (ho : 0 ≤ ((pc + 1 : Nat) : Int) + o := by decide) (hq : (((pc + 1 : Nat) : Int) + o).toNat = q := by rfl) : Run p l e R s m args below meth c Z own nm bytes maxL ret n0 EE h k n (mkF m pc ls (.long y :: .long x :: st)) :=
  Run.step (fun T t hx hb A z => XS.lcmp A hx rfl (hb ▸ hd1) rfl (XS.ifYes (x := lcmpW x y) (rest := st) (g := mkF m (pc + 1) ls (.int (lcmpW x y) :: st)) A hx rfl rfl (hb ▸ hd) rfl ((if0 _ _).trans (feq (fun z => hc ((lw_eq x y).mp z))).2) ho hq z)) hr
theorem Run.lneN {x y : Int64} {o : Int} (q : Nat) (hd1 : decode bytes pc = .ok (.lcmp, 1)) (hd : decode bytes (pc + 1) = .ok (.ifCond .ne o, 3)) (hc : x = y) (hr : Run p l e R s m args below meth c Z own nm bytes maxL ret n0 EE h k n (mkF m q ls st)) (hq : q = pc + 4 := by rfl) : Run p l e R s m args below meth c Z own nm bytes maxL ret n0 EE h k n (mkF m pc ls (.long y :: .long x :: st)) := by
  subst hq; exact Run.step (fun T t hx hb A z => XS.lcmp A hx rfl (hb ▸ hd1) rfl (XS.ifNo (x := lcmpW x y) (rest := st) (g := mkF m (pc + 1) ls (.int (lcmpW x y) :: st)) A hx rfl (hb ▸ hd) rfl ((if0 _ _).trans (teq ((lw_eq x y).mpr hc)).2) z)) hr
theorem Run.lne {x y : Int64} {o : Int} (q q' : Nat) (hd1 : decode bytes pc = .ok (.lcmp, 1)) (hd : decode bytes (pc + 1) = .ok (.ifCond .ne o, 3)) (hr : ¬ (x = y) → Run p l e R s m args below meth c Z own nm bytes maxL ret n0 EE h k n (mkF m q ls st)) (hr' : x = y → Run p l e R s m args below meth c Z own nm bytes maxL ret n0 EE h k n (mkF m q' ls st)) (ho : 0 ≤ ((pc + 1 : Nat) : Int) + o := by decide) (hq : (((pc + 1 : Nat) : Int) + o).toNat = q := by rfl) (hq' : q' = pc + 4 := by rfl) : Run p l e R s m args below meth c Z own nm bytes maxL ret n0 EE h k n (mkF m pc ls (.long y :: .long x :: st)) := by
  by_cases hc : x = y
  · exact Run.lneN q' hd1 hd hc (hr' hc) hq'
  · exact Run.lneY q hd1 hd hc (hr hc) ho hq
theorem Run.ldcI {i : Nat} {v : Int32} (q : Nat) (w : (Jvm.Cond.constant own i v).before a0 Z = true) (hd : decode bytes pc = .ok (.ldc i, 2)) (hr : Run p l e R s m args below meth c Z own nm bytes maxL ret n0 EE h k n (mkF m q ls (.int v :: st))) (hq : q = pc + 2 := by rfl) : Run p l e R s m args below meth c Z own nm bytes maxL ret n0 EE h k n (mkF m pc ls st) := by
  subst hq; intro C T locs X F E
  obtain ⟨s₂, o, q1, q2⟩ := hr C T locs X F E
  exact ⟨s₂, o, X.ldcInt C.1 C.2.2.2.1 (mvT C.2.2.2.2.2.1 w) (g := mkF m pc ls st) rfl (C.2.1 ▸ hd) _ q1, q2⟩
theorem Run.ldcwI {i : Nat} {v : Int32} (q : Nat) (w : (Jvm.Cond.constant own i v).before a0 Z = true) (hd : decode bytes pc = .ok (.ldc_w i, 3)) (hr : Run p l e R s m args below meth c Z own nm bytes maxL ret n0 EE h k n (mkF m q ls (.int v :: st))) (hq : q = pc + 3 := by rfl) : Run p l e R s m args below meth c Z own nm bytes maxL ret n0 EE h k n (mkF m pc ls st) := by
  subst hq; intro C T locs X F E
  obtain ⟨s₂, o, q1, q2⟩ := hr C T locs X F E
  exact ⟨s₂, o, X.ldcwInt C.1 C.2.2.2.1 (mvT C.2.2.2.2.2.1 w) (g := mkF m pc ls st) rfl (C.2.1 ▸ hd) _ q1, q2⟩
theorem Run.ldcJ {i : Nat} {v : Int64} (q : Nat) (w : (Jvm.Cond.constantLong own i v).before a0 Z = true) (hd : decode bytes pc = .ok (.ldc2_w i, 3)) (hr : Run p l e R s m args below meth c Z own nm bytes maxL ret n0 EE h k n (mkF m q ls (.long v :: st))) (hq : q = pc + 3 := by rfl) : Run p l e R s m args below meth c Z own nm bytes maxL ret n0 EE h k n (mkF m pc ls st) := by
  subst hq; intro C T locs X F E
  obtain ⟨s₂, o, q1, q2⟩ := hr C T locs X F E
  exact ⟨s₂, o, X.ldc2Long C.1 C.2.2.2.1 (mvT C.2.2.2.2.2.1 w) (g := mkF m pc ls st) rfl (C.2.1 ▸ hd) _ q1, q2⟩
theorem own_retI {T : State} {locs : List Loc} {cells slots : Nat} (X : Stand p l e R s m args below meth c T locs cells slots) (hx : p.tables.exec = Jvm.exec) {Ls : Array Slot} {z : Int32} {rest : List Value} (hret : meth.sig.returnType = some .int) (hd : decode c.code pc = .ok (.ireturn, 1)) {fs : List Frame}
    (hl : ∀ (f : JFrame) (acts : List Action), f.method = m → f.locked = none → f.entered = [] → (doReturn e (T.setTop f) acts (some (.int z))).1 = T.setFrames fs) : Steps p.tables e below (T.setTop (mkF m pc Ls (.int z :: rest))) (T.setFrames fs) := by
  have hm' : T.vm.method? m = some meth := X.method'
  have hn : narrow .int (.int z) = .int z := rfl
  show Steps p.tables e below (T.setTop { method := m, pc := pc, locals := Ls, stack := _ :: rest, locked := none }) _
  jvm_step X.here [X.here.top, hx, hd, hm', hret, hn]
  first | (intro acts; rw [hl _ acts rfl rfl rfl]) | rw [hl _ _ rfl rfl rfl]
  exact Steps.refl _
theorem Run.retN {Q : Option Value → Heap → Prop} {K N : Nat} {z : Int32} (t : FieldType) (ht : t = .boolean ∨ t = .byte ∨ t = .char ∨ t = .short) (hd : decode bytes pc = .ok (.ireturn, 1)) (hQ : Q (some (.int (nar t z))) h) (hk : k ≤ K := by decide) (hn : n ≤ N := by decide) : Run p l e R s m args below meth c Z own nm bytes maxL (some t) n0 (EndN s n0 Q K N) h k n (mkF m pc ls (.int z :: st)) := by
  intro C T locs X F E
  obtain ⟨fs, hr, hrun, hended, hW, hsame⟩ := X.leave (v := some (.int (nar t z))) (fun z => by rw [C.2.2.2.2.2.2.1] at z; cases z) C.2.2.2.2.2.2.2.1
  exact ⟨_, _, Jvm.RoadKit.retN X C.1 C.2.2.2.2.2.2.1 ht (C.2.1 ▸ hd) hr, hrun, hended, _, _, rfl, ⟨by show Q _ T.heap; rw [E]; exact hQ, F⟩, ⟨_, rfl⟩, hW, hsame.mono hk hn⟩
theorem Run.retI {Q : Option Value → Heap → Prop} {K N : Nat} {z : Int32} (hd : decode bytes pc = .ok (.ireturn, 1)) (hQ : Q (some (.int z)) h) (hk : k ≤ K := by decide) (hn : n ≤ N := by decide) : Run p l e R s m args below meth c Z own nm bytes maxL (some .int) n0 (EndN s n0 Q K N) h k n (mkF m pc ls (.int z :: st)) := by
  intro C T locs X F E
  obtain ⟨fs, hr, hrun, hended, hW, hsame⟩ := X.leave (v := some (.int z)) (fun z => by rw [C.2.2.2.2.2.2.1] at z; cases z) C.2.2.2.2.2.2.2.1
  exact ⟨_, _, own_retI X C.1 C.2.2.2.2.2.2.1 (C.2.1 ▸ hd) hr, hrun, hended, _, _, rfl, ⟨by show Q _ T.heap; rw [E]; exact hQ, F⟩, ⟨_, rfl⟩, hW, hsame.mono hk hn⟩
theorem Run.retJ {Q : Option Value → Heap → Prop} {K N : Nat} {z : Int64} (hd : decode bytes pc = .ok (.lreturn, 1)) (hQ : Q (some (.long z)) h) (hk : k ≤ K := by decide) (hn : n ≤ N := by decide) : Run p l e R s m args below meth c Z own nm bytes maxL (some .long) n0 (EndN s n0 Q K N) h k n (mkF m pc ls [.long z]) := by
  intro C T locs X F E
  obtain ⟨fs, hr, hrun, hended, hW, hsame⟩ := X.leave (v := some (.long z)) (fun z => by rw [C.2.2.2.2.2.2.1] at z; cases z) C.2.2.2.2.2.2.2.1
  exact ⟨_, _, X.lreturnOut C.1 C.2.2.2.2.2.2.1 (C.2.1 ▸ hd) hr, hrun, hended, _, _, rfl, ⟨by show Q _ T.heap; rw [E]; exact hQ, F⟩, ⟨_, rfl⟩, hW, hsame.mono hk hn⟩
theorem Run.retV {Q : Option Value → Heap → Prop} {K N : Nat}  (hd : decode bytes pc = .ok (.return_, 1)) (hQ : Q (none) h) (hk : k ≤ K := by decide) (hn : n ≤ N := by decide) : Run p l e R s m args below meth c Z own nm bytes maxL none n0 (EndN s n0 Q K N) h k n (mkF m pc ls []) := by
  intro C T locs X F E
  obtain ⟨fs, hr, hrun, hended, hW, hsame⟩ := X.leave (v := none) (fun _ => rfl) C.2.2.2.2.2.2.2.1
  exact ⟨_, _, X.returnOut C.1 C.2.2.2.2.2.2.1 (C.2.1 ▸ hd) hr, hrun, hended, _, _, rfl, ⟨by show Q _ T.heap; rw [E]; exact hQ, F⟩, ⟨_, rfl⟩, hW, hsame.mono hk hn⟩
theorem Run.retA {Q : Option Value → Heap → Prop} {K N : Nat} {v : Value} {t : FieldType} (hv : v.isRef = true) (ht : t.isReference = true) (hd : decode bytes pc = .ok (.areturn, 1)) (hQ : Q (some v) h) (hk : k ≤ K := by decide) (hn : n ≤ N := by decide) : Run p l e R s m args below meth c Z own nm bytes maxL (some t) n0 (EndN s n0 Q K N) h k n (mkF m pc ls [v]) := by
  intro C T locs X F E
  obtain ⟨fs, hr, hrun, hended, hW, hsame⟩ := X.leave (v := some v) (fun z => by rw [C.2.2.2.2.2.2.1] at z; cases z) C.2.2.2.2.2.2.2.1
  exact ⟨_, _, X.areturnOut C.1 hv C.2.2.2.2.2.2.1 ht (C.2.1 ▸ hd) hr, hrun, hended, _, _, rfl, ⟨by show Q _ T.heap; rw [E]; exact hQ, F⟩, ⟨_, rfl⟩, hW, hsame.mono hk hn⟩
theorem Run.ret1 {Q : Option Value → Heap → Prop} {K N : Nat} (hd : decode bytes pc = .ok (.ireturn, 1)) (hQ : Q (some (.int 1)) h) (hk : k ≤ K := by decide) (hn : n ≤ N := by decide) : Run p l e R s m args below meth c Z own nm bytes maxL (some .boolean) n0 (EndN s n0 Q K N) h k n (mkF m pc ls (.int (1 : Int32) :: st)) :=
  Run.retN .boolean (Or.inl rfl) hd (by rw [show nar .boolean 1 = 1 from by decide]; exact hQ) hk hn
theorem Run.ret0 {Q : Option Value → Heap → Prop} {K N : Nat} (hd : decode bytes pc = .ok (.ireturn, 1)) (hQ : Q (some (.int 0)) h) (hk : k ≤ K := by decide) (hn : n ≤ N := by decide) : Run p l e R s m args below meth c Z own nm bytes maxL (some .boolean) n0 (EndN s n0 Q K N) h k n (mkF m pc ls (.int (0 : Int32) :: st)) :=
  Run.retN .boolean (Or.inl rfl) hd (by rw [show nar .boolean 0 = 0 from by decide]; exact hQ) hk hn
theorem Run.retX {Q : Option Value → Heap → Prop} {K N : Nat} {z w : Int32} (t : FieldType) (ht : t = .boolean ∨ t = .byte ∨ t = .char ∨ t = .short) (hd : decode bytes pc = .ok (.ireturn, 1)) (hQ : Q (some (.int w)) h) (hv : nar t z = w := by rfl) (hk : k ≤ K := by decide) (hn : n ≤ N := by decide) : Run p l e R s m args below meth c Z own nm bytes maxL (some t) n0 (EndN s n0 Q K N) h k n (mkF m pc ls (.int z :: st)) :=
  Run.retN t ht hd (by rw [hv]; exact hQ) hk hn
theorem Run.getF {R0 O f d host : String} {i : Nat} {a : Addr} {v : Value} (q : Nat) (w : (Jvm.Cond.fieldLink own i R0 f d).before a0 Z = true ∨ (Jvm.Cond.fieldLinkNest own i R0 f d host).before a0 Z = true) (via : Via Z R0 O f d) (F : Fld Z h a O f d v) (hd : decode bytes pc = .ok (.getfield i, 3)) (hr : Run p l e R s m args below meth c Z own nm bytes maxL ret n0 EE h k n (mkF m q ls (v :: st))) (hq : q = pc + 3 := by rfl) : Run p l e R s m args below meth c Z own nm bytes maxL ret n0 EE h k n (mkF m pc ls (.ref a :: st)) := by
  subst hq; intro C T locs X Fr0 E
  obtain ⟨T', X', e', st'⟩ := Jvm.RoadKit.getF X C.1 C.2.2.2.2.2.1 C.2.2.2.1 (host := host) w via E F (g := mkF m pc ls (.ref a :: st)) rfl rfl (C.2.1 ▸ hd)
  obtain ⟨s₂, o, q1, q2⟩ := hr C T' locs X' Fr0 e'
  exact ⟨s₂, o, st' _ q1, q2⟩
theorem Run.getS {R0 O f d host : String} {i : Nat} {v : Value} (q : Nat) (w : (Jvm.Cond.fieldLink own i R0 f d).before a0 Z = true ∨ (Jvm.Cond.fieldLinkNest own i R0 f d host).before a0 Z = true) (via : Via Z R0 O f d) (F : Sta Z h O f d v) (hd : decode bytes pc = .ok (.getstatic i, 3)) (hr : Run p l e R s m args below meth c Z own nm bytes maxL ret n0 EE h k n (mkF m q ls (v :: st))) (hq : q = pc + 3 := by rfl) : Run p l e R s m args below meth c Z own nm bytes maxL ret n0 EE h k n (mkF m pc ls st) := by
  subst hq; intro C T locs X Fr0 E
  obtain ⟨T', X', e', st'⟩ := Jvm.RoadKit.getS2 X C.1 C.2.2.2.2.2.1 C.2.2.2.1 (host := host) w via E F (g := mkF m pc ls st) rfl (C.2.1 ▸ hd)
  obtain ⟨s₂, o, q1, q2⟩ := hr C T' locs X' Fr0 e'
  exact ⟨s₂, o, st' _ q1, q2⟩
theorem Run.putF {R0 O f d host CL : String} {i kk : Nat} {a : Addr} {v old : Value} {ty : FieldType} (q : Nat) (w : (Jvm.Cond.fieldLink own i R0 f d).before a0 Z = true ∨ (Jvm.Cond.fieldLinkNest own i R0 f d host).before a0 Z = true) (via : Via Z R0 O f d) (F : Fld Z h a O f d old) (EX : Exa Z h a CL) (L : (Jvm.Cond.lays CL O f d).before a0 Z = true ∨ ((Jvm.Cond.laysFinal CL O f d).before a0 Z = true ∧ own = O ∧ nm = "<init>")) (wi : (Jvm.Cond.instantiable CL kk).before a0 Z = true) (hty : parseFieldDescriptor d = some ty) (ga : n0 ≤ a) (hd : decode bytes pc = .ok (.putfield i, 3)) (hr : ∀ h' : Heap, Wr h h' a (Jvm.RoadKit.slotOf Z O f d) v → Run p l e R s m args below meth c Z own nm bytes maxL ret n0 EE h' k n (mkF m q ls st)) (hn : narrow ty v = v := by rfl) (hf : fits ty v = true := by rfl) (hq : q = pc + 3 := by rfl) : Run p l e R s m args below meth c Z own nm bytes maxL ret n0 EE h k n (mkF m pc ls (v :: .ref a :: st)) := by
  subst hq; intro C T locs X Fr0 E
  obtain ⟨T', h', X', e', W, st'⟩ := Jvm.RoadKit.putF X C.1 C.2.2.2.2.2.1 C.2.2.2.1 (host := host) w via E F EX (L.imp id fun z => ⟨z.1, z.2.1, C.2.2.2.2.1.trans z.2.2⟩) wi hty hn hf (g := mkF m pc ls (v :: .ref a :: st)) rfl rfl (C.2.1 ▸ hd)
  obtain ⟨s₂, o, q1, q2⟩ := hr h' W C T' _ X' (Fr.snoc X' Fr0 ga) e'
  exact ⟨s₂, o, st' _ q1, q2⟩
theorem Run.new {CL : String} {i sz : Nat} (q : Nat) (w : (Jvm.Cond.classLink own i CL).before a0 Z = true) (wi : (Jvm.Cond.instantiable CL sz).before a0 Z = true) (wz : (Jvm.Cond.initialized CL).before a0 Z = true) (hd : decode bytes pc = .ok (.new i, 3)) (hr : ∀ (h' : Heap) (a : Addr), a = h.size → n0 ≤ a → Ext h h' → Exa Z h' a CL → (∀ {O f d : String} {ty : FieldType}, Laid Z a0 CL O f d → parseFieldDescriptor d = some ty → Fld Z h' a O f d (defaultValue ty)) → Run p l e R s m args below meth c Z own nm bytes maxL ret n0 EE h' (k + 1) (n + sz) (mkF m q ls (.ref a :: st))) (hc : k + 1 ≤ R.cells := by decide) (hl : n + sz ≤ R.slots := by decide) (hq : q = pc + 3 := by rfl) : Run p l e R s m args below meth c Z own nm bytes maxL ret n0 EE h k n (mkF m pc ls st) := by
  subst hq; refine Run.sz fun hs => ?_; intro C T locs X Fr0 E
  obtain ⟨T', h', X', e', EX, A, D, -, st'⟩ := newO X C.1 C.2.2.2.2.2.1 C.2.2.2.1 w wi wz E (g := mkF m pc ls st) rfl (C.2.1 ▸ hd) hc hl
  obtain ⟨s₂, o, q1, q2⟩ := hr h' h.size rfl hs EX A (fun L t => D L t) C T' locs X' Fr0 e'
  exact ⟨s₂, o, st' _ q1, q2⟩
theorem Run.initO {i : Nat} {a : Addr} (q W : Nat) (w1 : (Jvm.Cond.methodLink own i Lib.objectInit).before a0 Z = true) (w2 : (Jvm.Cond.instanceMethod Lib.objectInit).before a0 Z = true) (w3 : (Jvm.Cond.code Lib.objectInit Jvm.Pilot.@@N@@.object_method_1_code 1 none).before a0 Z = true) (hd : decode bytes pc = .ok (.invokespecial i, 3)) (hr : Run p l e R s m args below meth c Z own nm bytes maxL ret n0 EE h k n (mkF m q ls st)) (hsz : ls.size = maxL := by rfl) (hf : 1 ≤ R.frames := by decide) (hW : (st.map fun v => v.category).sum ≤ W := by first | exact Nat.le_of_eq rfl | decide) (hl : W + 12 ≤ R.locals := by decide) (hq : q = pc + 3 := by rfl) : Run p l e R s m args below meth c Z own nm bytes maxL ret n0 EE h k n (mkF m pc ls (.ref a :: st)) := by
  subst hq; intro C T locs X Fr0 E
  obtain ⟨T', X', e', st'⟩ := Jvm.RoadKit.initO X C.1 C.2.2.2.2.2.1 C.2.2.2.1 w1 w2 w3 E (g := mkF m pc ls (.ref a :: st)) rfl (by rw [C.2.2.1]; exact hsz) rfl (C.2.1 ▸ hd) hf (W := W) (by show 2 * 0 + _ ≤ _; omega) hl
  obtain ⟨s₂, o, q1, q2⟩ := hr C T' locs X' Fr0 e'
  exact ⟨s₂, o, st' _ q1, q2⟩
theorem Run.callS {y : MethodName} {bytes' : ByteArray} {maxL' : Nat} {ret' : Option FieldType} {rm : Room} {Q' : Option Value → Heap → Prop} {i : Nat} {argsL : List Value} (q W : Nat) (P : Pays l Z y bytes' maxL' ret' rm argsL.toArray h n0 Q') (w1 : (Jvm.Cond.methodLink own i y).before a0 Z = true) (w2 : (Jvm.Cond.static y).before a0 Z = true) (w3 : (Jvm.Cond.initialized y.cls).before a0 Z = true) (w4 : (Jvm.Cond.code y bytes' maxL' ret').before a0 Z = true) {sig : MethodDescriptor} (hsig : parseMethodDescriptor y.desc = some sig) (hd : decode bytes pc = .ok (.invokestatic i, 3)) {stk : List Value} (hr : ∀ (v : Option Value) (h' : Heap), Q' v h' → Run p l e R s m args below meth c Z own nm bytes maxL ret n0 EE h' (k + rm.cells) (n + rm.slots) (mkF m q ls (v.toList ++ st))) (hlen : argsL.length = sig.parameters.length := by rfl) (hstk : stk = argsL.reverse ++ st := by rfl) (hsz : ls.size = maxL := by rfl) (hf : rm.frames + 1 ≤ R.frames := by decide) (hW : (st.map fun v => v.category).sum ≤ W := by first | exact Nat.le_of_eq rfl | decide) (hl : W + (maxL' + 11) + rm.locals ≤ R.locals := by decide) (hc : k + rm.cells ≤ R.cells := by decide) (hs : n + rm.slots ≤ R.slots := by decide) (hy : y.cls ≠ "java/lang/invoke/MethodHandle" ∧ y.cls ≠ "java/lang/invoke/VarHandle" := by decide) (hq : q = pc + 3 := by rfl) : Run p l e R s m args below meth c Z own nm bytes maxL ret n0 EE h k n (mkF m pc ls stk) := by
  subst hq; intro C T locs X Fr0 E
  have hZ := C.2.2.2.2.2.1
  obtain ⟨v', _, ⟨T', L', k', n'⟩, -, X', ⟨Lc', hQ', l', y', z'⟩, st'⟩ := Jvm.LawKit.callS X C.1 (y := y) C.2.2.2.1 (mvT hZ w1) (mvT hZ w2) (mvT hZ w3) (mvT hZ w4) hy (backOf (W := W) (Q := fun v h L => Q' v h ∧ Fr n0 L) (P []) hZ w4 w3 hf hl) (g := mkF m pc ls stk) rfl (by rw [C.2.2.1]; exact hsz) (argsL := argsL) (rest := st) (lenOf hsig hlen) hstk (by show 2 * 0 + _ ≤ _; omega) (C.2.1 ▸ hd) (fun _ _ => ⟨rfl, E, hc, hs⟩)
  dsimp only [Pt.U, Pt.locs, Pt.cells, Pt.slots] at X' l' y' z' st' hQ'
  subst l' y' z'
  obtain ⟨hQ1, N'⟩ := hQ'
  obtain ⟨s₂, o, q1, q2⟩ := hr v' _ hQ1 C T' _ X' (Fr.app Fr0 N') rfl
  exact ⟨s₂, o, st' _ q1, q2⟩
theorem Run.callC {y : MethodName} {bytes' : ByteArray} {maxL' : Nat} {rm : Room} {Q' : Option Value → Heap → Prop} {i : Nat} {a : Addr} {argsL : List Value} (q W : Nat) (P : Pays l Z y bytes' maxL' none rm (.ref a :: argsL).toArray h n0 Q') (w1 : (Jvm.Cond.methodLink own i y).before a0 Z = true) (w2 : (Jvm.Cond.instanceMethod y).before a0 Z = true) (w3 : (Jvm.Cond.initialized y.cls).before a0 Z = true) (w4 : (Jvm.Cond.code y bytes' maxL' none).before a0 Z = true) {sig : MethodDescriptor} (hsig : parseMethodDescriptor y.desc = some sig) (hd : decode bytes pc = .ok (.invokespecial i, 3)) {stk : List Value} (hr : ∀ (v : Option Value) (h' : Heap), Q' v h' → Run p l e R s m args below meth c Z own nm bytes maxL ret n0 EE h' (k + rm.cells) (n + rm.slots) (mkF m q ls (v.toList ++ st))) (hy1 : y.name = "<init>" := by rfl) (hlen : argsL.length = sig.parameters.length := by rfl) (hstk : stk = argsL.reverse ++ .ref a :: st := by rfl) (hsz : ls.size = maxL := by rfl) (hf : rm.frames + 1 ≤ R.frames := by decide) (hW : (st.map fun v => v.category).sum ≤ W := by first | exact Nat.le_of_eq rfl | decide) (hl : W + (maxL' + 11) + rm.locals ≤ R.locals := by decide) (hc : k + rm.cells ≤ R.cells := by decide) (hs : n + rm.slots ≤ R.slots := by decide) (hy : y.cls ≠ "java/lang/invoke/MethodHandle" ∧ y.cls ≠ "java/lang/invoke/VarHandle" := by decide) (hq : q = pc + 3 := by rfl) : Run p l e R s m args below meth c Z own nm bytes maxL ret n0 EE h k n (mkF m pc ls stk) := by
  subst hq; intro C T locs X Fr0 E
  have hZ := C.2.2.2.2.2.1
  obtain ⟨v', _, ⟨T', L', k', n'⟩, -, X', ⟨Lc', hQ', l', y', z'⟩, st'⟩ := X.specialBack C.1 (y := y) hy1 C.2.2.2.1 (mvT hZ w1) (mvT hZ w2) (mvT hZ w4) hy (backOf (W := W) (Q := fun v h L => Q' v h ∧ Fr n0 L) (P []) hZ w4 w3 hf hl) (g := mkF m pc ls stk) rfl (by rw [C.2.2.1]; exact hsz) (Steps.refl _) (a := a) (argsL := argsL) (rest := st) (lenOf hsig hlen) hstk (by show 2 * 0 + _ ≤ _; omega) (C.2.1 ▸ hd) (fun _ _ => ⟨rfl, E, hc, hs⟩)
  dsimp only [Pt.U, Pt.locs, Pt.cells, Pt.slots] at X' l' y' z' st' hQ'
  subst l' y' z'
  obtain ⟨hQ1, N'⟩ := hQ'
  obtain ⟨s₂, o, q1, q2⟩ := hr v' _ hQ1 C T' _ X' (Fr.app Fr0 N') rfl
  exact ⟨s₂, o, st'.trans q1, q2⟩
theorem Run.callV {y : MethodName} {bytes' : ByteArray} {maxL' : Nat} {ret' : Option FieldType} {rm : Room} {Q' : Option Value → Heap → Prop} {i : Nat} {CL : String} {a : Addr} {argsL : List Value} (q W : Nat) (P : Pays l Z y bytes' maxL' ret' rm (.ref a :: argsL).toArray h n0 Q') (EX : Exa Z h a CL) (w1 : (Jvm.Cond.methodLink own i y).before a0 Z = true) (w2 : (Jvm.Cond.declares y).before a0 Z = true) (w5 : (Jvm.Cond.selects CL y y).before a0 Z = true) (w6 : (Jvm.Cond.instanceMethod y).before a0 Z = true) (w3 : (Jvm.Cond.initialized y.cls).before a0 Z = true) (w4 : (Jvm.Cond.code y bytes' maxL' ret').before a0 Z = true) {sig : MethodDescriptor} (hsig : parseMethodDescriptor y.desc = some sig) (hd : decode bytes pc = .ok (.invokevirtual i, 3)) {stk : List Value} (hr : ∀ (v : Option Value) (h' : Heap), Q' v h' → Run p l e R s m args below meth c Z own nm bytes maxL ret n0 EE h' (k + rm.cells) (n + rm.slots) (mkF m q ls (v.toList ++ st))) (hcl : CL = y.cls := by rfl) (hlen : argsL.length = sig.parameters.length := by rfl) (hstk : stk = argsL.reverse ++ .ref a :: st := by rfl) (hsz : ls.size = maxL := by rfl) (hf : rm.frames + 1 ≤ R.frames := by decide) (hW : (st.map fun v => v.category).sum ≤ W := by first | exact Nat.le_of_eq rfl | decide) (hl : W + (maxL' + 11) + rm.locals ≤ R.locals := by decide) (hc : k + rm.cells ≤ R.cells := by decide) (hs : n + rm.slots ≤ R.slots := by decide) (hy : y.cls ≠ "java/lang/invoke/MethodHandle" ∧ y.cls ≠ "java/lang/invoke/VarHandle" := by decide) (hq : q = pc + 3 := by rfl) : Run p l e R s m args below meth c Z own nm bytes maxL ret n0 EE h k n (mkF m pc ls stk) := by
  subst hq; subst hcl; intro C T locs X Fr0 E
  have hZ := C.2.2.2.2.2.1
  obtain ⟨cq, kq, qa, qb, qc⟩ := isOf hZ E EX
  obtain ⟨v', _, ⟨T', L', k', n'⟩, -, X', ⟨Lc', hQ', l', y', z'⟩, st'⟩ := X.virtualBack C.1 (y := y) (z := y) C.2.2.2.1 (mvT hZ w1) (mvT hZ w2) (notFace_of_selects (args := #[]) (mvT hZ w5)) (mvT hZ w5) (mvT hZ w6) hy (backOf (W := W) (Q := fun v h L => Q' v h ∧ Fr n0 L) (P []) hZ w4 w3 hf hl) qa qc (g := mkF m pc ls stk) rfl (by rw [C.2.2.1]; exact hsz) (Steps.refl _) (argsL := argsL) (rest := st) (lenOf hsig hlen) hstk (by show 2 * 0 + _ ≤ _; omega) (C.2.1 ▸ hd) (fun _ _ => ⟨rfl, E, hc, hs⟩)
  dsimp only [Pt.U, Pt.locs, Pt.cells, Pt.slots] at X' l' y' z' st' hQ'
  subst l' y' z'
  obtain ⟨hQ1, N'⟩ := hQ'
  obtain ⟨s₂, o, q1, q2⟩ := hr v' _ hQ1 C T' _ X' (Fr.app Fr0 N') rfl
  exact ⟨s₂, o, st'.trans q1, q2⟩
/-- an array of int-like values: n places, place i holds f i -/
def AI (Z : State) (h : Heap) (a : Addr) (ty : FieldType) (n : Nat) (f : Nat → Int32) : Prop := n < 2 ^ 31 ∧ ∃ cl : Cell, Arr Z h a cl ty ∧ cl.slots.size = n ∧ ∀ i, i < n → cl.slots[i]? = some (.int (f i))
def AJ (Z : State) (h : Heap) (a : Addr) (n : Nat) (f : Nat → Int64) : Prop := n < 2 ^ 31 ∧ ∃ cl : Cell, Arr Z h a cl .long ∧ cl.slots.size = n ∧ ∀ i, i < n → cl.slots[i]? = some (.long (f i))
def oupd {α : Type} (f : Nat → α) (i : Nat) (v : α) : Nat → α := fun j => if j = i then v else f j
theorem oupd_same {α : Type} (f : Nat → α) (i : Nat) (v : α) : oupd f i v i = v := if_pos rfl
theorem oupd_other {α : Type} (f : Nat → α) {i j : Nat} (v : α) (h : j ≠ i) : oupd f i v j = f j := if_neg h

theorem AI.lt {a : Addr} {ty : FieldType} {nn : Nat} {f : Nat → Int32} (F : AI Z h a ty nn f) : a < h.size := by obtain ⟨_, c, A, -⟩ := F; exact A.lt
theorem AI.ext {a : Addr} {h' : Heap} {ty : FieldType} {nn : Nat} {f : Nat → Int32} (F : AI Z h a ty nn f) (E : Ext h h') : AI Z h' a ty nn f := by obtain ⟨z, c, A, r⟩ := F; exact ⟨z, c, A.ext E, r⟩
theorem AI.other {a b : Addr} {h' : Heap} {sl : Nat} {v : Value} {ty : FieldType} {nn : Nat} {f : Nat → Int32} (F : AI Z h a ty nn f) (W : Wr h h' b sl v) (q : a ≠ b) : AI Z h' a ty nn f := by obtain ⟨z, c, A, r⟩ := F; exact ⟨z, c, A.other W q, r⟩
theorem AI.keep {a : Addr} {h' : Heap} {ws : List Addr} {ty : FieldType} {nn : Nat} {f : Nat → Int32} (F : AI Z h a ty nn f) (KP : Keep h h' ws) (q : a ∉ ws) : AI Z h' a ty nn f := by obtain ⟨z, c, A, r⟩ := F; exact ⟨z, c, ⟨KP.2.1 a c A.1 q, A.2⟩, r⟩
theorem AI.set {a : Addr} {h' : Heap} {ty : FieldType} {nn : Nat} {f : Nat → Int32} {i : Nat} {v : Int32} (F : AI Z h a ty nn f) (hi : i < nn) (W : Wr h h' a i (.int v)) : AI Z h' a ty nn (oupd f i v) := by
  obtain ⟨z, c, A, r1, r2⟩ := F
  refine ⟨z, c.setSlot i (.int v), A.same W, by rw [sz_set, r1], fun j hj => ?_⟩
  by_cases q : j = i
  · subst q; rw [oupd_same]; simp [Cell.setSlot, Array.getElem?_setIfInBounds, r1, hi]
  · rw [oupd_other _ _ q, ← r2 j hj]; simp [Cell.setSlot, Array.getElem?_setIfInBounds, Ne.symm q]
theorem AI.cong {a : Addr} {ty : FieldType} {nn : Nat} {f : Nat → Int32} {f' : Nat → Int32} (F : AI Z h a ty nn f) (q : ∀ i, i < nn → f i = f' i) : AI Z h a ty nn f' := by
  obtain ⟨z, c, A, r1, r2⟩ := F; exact ⟨z, c, A, r1, fun i hi => by rw [← q i hi]; exact r2 i hi⟩
theorem AJ.lt {a : Addr} {nn : Nat} {f : Nat → Int64} (F : AJ Z h a nn f) : a < h.size := by obtain ⟨_, c, A, -⟩ := F; exact A.lt
theorem AJ.ext {a : Addr} {h' : Heap} {nn : Nat} {f : Nat → Int64} (F : AJ Z h a nn f) (E : Ext h h') : AJ Z h' a nn f := by obtain ⟨z, c, A, r⟩ := F; exact ⟨z, c, A.ext E, r⟩
theorem AJ.other {a b : Addr} {h' : Heap} {sl : Nat} {v : Value} {nn : Nat} {f : Nat → Int64} (F : AJ Z h a nn f) (W : Wr h h' b sl v) (q : a ≠ b) : AJ Z h' a nn f := by obtain ⟨z, c, A, r⟩ := F; exact ⟨z, c, A.other W q, r⟩
theorem AJ.keep {a : Addr} {h' : Heap} {ws : List Addr} {nn : Nat} {f : Nat → Int64} (F : AJ Z h a nn f) (KP : Keep h h' ws) (q : a ∉ ws) : AJ Z h' a nn f := by obtain ⟨z, c, A, r⟩ := F; exact ⟨z, c, ⟨KP.2.1 a c A.1 q, A.2⟩, r⟩
theorem AJ.set {a : Addr} {h' : Heap} {nn : Nat} {f : Nat → Int64} {i : Nat} {v : Int64} (F : AJ Z h a nn f) (hi : i < nn) (W : Wr h h' a i (.long v)) : AJ Z h' a nn (oupd f i v) := by
  obtain ⟨z, c, A, r1, r2⟩ := F
  refine ⟨z, c.setSlot i (.long v), A.same W, by rw [sz_set, r1], fun j hj => ?_⟩
  by_cases q : j = i
  · subst q; rw [oupd_same]; simp [Cell.setSlot, Array.getElem?_setIfInBounds, r1, hi]
  · rw [oupd_other _ _ q, ← r2 j hj]; simp [Cell.setSlot, Array.getElem?_setIfInBounds, Ne.symm q]
theorem AJ.cong {a : Addr} {nn : Nat} {f : Nat → Int64} {f' : Nat → Int64} (F : AJ Z h a nn f) (q : ∀ i, i < nn → f i = f' i) : AJ Z h a nn f' := by
  obtain ⟨z, c, A, r1, r2⟩ := F; exact ⟨z, c, A, r1, fun i hi => by rw [← q i hi]; exact r2 i hi⟩
theorem inb {cl : Cell} {j : Int32} {nn : Nat} (S : cl.slots.size = nn) (hj : 0 ≤ j.toInt ∧ j.toInt < nn) : ¬ (j < 0 ∨ cl.slots.size ≤ j.toNatClampNeg) := by
  have h1 : (j.toNatClampNeg : Int) = j.toInt := by rw [show j.toNatClampNeg = j.toInt.toNat from rfl]; omega
  rw [Int32.lt_iff_toInt_lt, S]; simp only [show (0 : Int32).toInt = 0 from by decide]; omega
theorem inn {j : Int32} {nn : Nat} (hj : 0 ≤ j.toInt ∧ j.toInt < nn) : j.toNatClampNeg < nn := by
  rw [show j.toNatClampNeg = j.toInt.toNat from rfl]; omega

theorem Run.iaload {a : Addr} {nn : Nat} {f : Nat → Int32} {j : Int32} (w : Int32) (q : Nat) (F : AI Z h a .int nn f) (hj : 0 ≤ j.toInt ∧ j.toInt < nn) (hd : decode bytes pc = .ok (.iaload, 1)) (hr : Run p l e R s m args below meth c Z own nm bytes maxL ret n0 EE h k n (mkF m q ls (.int w :: st))) (hv : f j.toNatClampNeg = w := by rfl) (hq : q = pc + 1 := by rfl) : Run p l e R s m args below meth c Z own nm bytes maxL ret n0 EE h k n (mkF m pc ls (.int j :: .ref a :: st)) := by
  subst hq hv; intro C T locs X Fr0 E
  obtain ⟨-, cl, A, r1, r2⟩ := F
  obtain ⟨s₂, o, q1, q2⟩ := hr C T locs X Fr0 E
  exact ⟨s₂, o, X.iaload C.1 (j := j) (by rw [E]; exact A.1) (State.isArrayOf_alike C.2.2.2.2.2.1.alike A.2.1) A.2.2 (inb r1 hj) (r2 _ (inn hj)) (g := mkF m pc ls (.int j :: .ref a :: st)) rfl rfl (C.2.1 ▸ hd) _ q1, q2⟩
theorem Run.baload {a : Addr} {nn : Nat} {f : Nat → Int32} {j : Int32} (w : Int32) (q : Nat) (F : AI Z h a .byte nn f) (hj : 0 ≤ j.toInt ∧ j.toInt < nn) (hd : decode bytes pc = .ok (.baload, 1)) (hr : Run p l e R s m args below meth c Z own nm bytes maxL ret n0 EE h k n (mkF m q ls (.int w :: st))) (hv : f j.toNatClampNeg = w := by rfl) (hq : q = pc + 1 := by rfl) : Run p l e R s m args below meth c Z own nm bytes maxL ret n0 EE h k n (mkF m pc ls (.int j :: .ref a :: st)) := by
  subst hq hv; intro C T locs X Fr0 E
  obtain ⟨-, cl, A, r1, r2⟩ := F
  obtain ⟨s₂, o, q1, q2⟩ := hr C T locs X Fr0 E
  exact ⟨s₂, o, X.baloadBytes C.1 (j := j) (by rw [E]; exact A.1) (State.isArrayOf_alike C.2.2.2.2.2.1.alike A.2.1) A.2.2 (inb r1 hj) (r2 _ (inn hj)) (g := mkF m pc ls (.int j :: .ref a :: st)) rfl rfl (C.2.1 ▸ hd) _ q1, q2⟩
theorem Run.caload {a : Addr} {nn : Nat} {f : Nat → Int32} {j : Int32} (w : Int32) (q : Nat) (F : AI Z h a .char nn f) (hj : 0 ≤ j.toInt ∧ j.toInt < nn) (hd : decode bytes pc = .ok (.caload, 1)) (hr : Run p l e R s m args below meth c Z own nm bytes maxL ret n0 EE h k n (mkF m q ls (.int w :: st))) (hv : f j.toNatClampNeg = w := by rfl) (hq : q = pc + 1 := by rfl) : Run p l e R s m args below meth c Z own nm bytes maxL ret n0 EE h k n (mkF m pc ls (.int j :: .ref a :: st)) := by
  subst hq hv; intro C T locs X Fr0 E
  obtain ⟨-, cl, A, r1, r2⟩ := F
  obtain ⟨s₂, o, q1, q2⟩ := hr C T locs X Fr0 E
  exact ⟨s₂, o, X.caload C.1 (j := j) (by rw [E]; exact A.1) (State.isArrayOf_alike C.2.2.2.2.2.1.alike A.2.1) A.2.2 (inb r1 hj) (r2 _ (inn hj)) (g := mkF m pc ls (.int j :: .ref a :: st)) rfl rfl (C.2.1 ▸ hd) _ q1, q2⟩
theorem Run.saload {a : Addr} {nn : Nat} {f : Nat → Int32} {j : Int32} (w : Int32) (q : Nat) (F : AI Z h a .short nn f) (hj : 0 ≤ j.toInt ∧ j.toInt < nn) (hd : decode bytes pc = .ok (.saload, 1)) (hr : Run p l e R s m args below meth c Z own nm bytes maxL ret n0 EE h k n (mkF m q ls (.int w :: st))) (hv : f j.toNatClampNeg = w := by rfl) (hq : q = pc + 1 := by rfl) : Run p l e R s m args below meth c Z own nm bytes maxL ret n0 EE h k n (mkF m pc ls (.int j :: .ref a :: st)) := by
  subst hq hv; intro C T locs X Fr0 E
  obtain ⟨-, cl, A, r1, r2⟩ := F
  obtain ⟨s₂, o, q1, q2⟩ := hr C T locs X Fr0 E
  exact ⟨s₂, o, X.saload C.1 (j := j) (by rw [E]; exact A.1) (State.isArrayOf_alike C.2.2.2.2.2.1.alike A.2.1) A.2.2 (inb r1 hj) (r2 _ (inn hj)) (g := mkF m pc ls (.int j :: .ref a :: st)) rfl rfl (C.2.1 ▸ hd) _ q1, q2⟩
theorem Run.laload {a : Addr} {nn : Nat} {f : Nat → Int64} {j : Int32} (w : Int64) (q : Nat) (F : AJ Z h a nn f) (hj : 0 ≤ j.toInt ∧ j.toInt < nn) (hd : decode bytes pc = .ok (.laload, 1)) (hr : Run p l e R s m args below meth c Z own nm bytes maxL ret n0 EE h k n (mkF m q ls (.long w :: st))) (hv : f j.toNatClampNeg = w := by rfl) (hq : q = pc + 1 := by rfl) : Run p l e R s m args below meth c Z own nm bytes maxL ret n0 EE h k n (mkF m pc ls (.int j :: .ref a :: st)) := by
  subst hq hv; intro C T locs X Fr0 E
  obtain ⟨-, cl, A, r1, r2⟩ := F
  obtain ⟨s₂, o, q1, q2⟩ := hr C T locs X Fr0 E
  exact ⟨s₂, o, X.laload C.1 (j := j) (by rw [E]; exact A.1) (State.isArrayOf_alike C.2.2.2.2.2.1.alike A.2.1) A.2.2 (inb r1 hj) (r2 _ (inn hj)) (g := mkF m pc ls (.int j :: .ref a :: st)) rfl rfl (C.2.1 ▸ hd) _ q1, q2⟩
theorem Run.iastore {a : Addr} {nn : Nat} {f : Nat → Int32} {j v : Int32} (w : Int32) (q : Nat) (F : AI Z h a .int nn f) (hj : 0 ≤ j.toInt ∧ j.toInt < nn) (ga : n0 ≤ a) (hd : decode bytes pc = .ok (.iastore, 1)) (hr : ∀ h' : Heap, Wr h h' a j.toNatClampNeg (.int w) → AI Z h' a .int nn (oupd f j.toNatClampNeg w) → Run p l e R s m args below meth c Z own nm bytes maxL ret n0 EE h' k n (mkF m q ls st)) (hv : v = w := by rfl) (hq : q = pc + 1 := by rfl) : Run p l e R s m args below meth c Z own nm bytes maxL ret n0 EE h k n (mkF m pc ls (.int v :: .int j :: .ref a :: st)) := by
  subst hq hv; intro C T locs X Fr0 E
  have F0 := F
  obtain ⟨-, cl, A, r1, r2⟩ := F
  obtain ⟨T', h', X', e', W, st'⟩ := stI X C.1 C.2.2.2.2.2.1 E A (j := j) (x := v) (inb r1 hj) (g := mkF m pc ls (.int v :: .int j :: .ref a :: st)) rfl rfl (C.2.1 ▸ hd)
  obtain ⟨s₂, o, q1, q2⟩ := hr h' W (F0.set (inn hj) W) C T' _ X' (Fr.snoc X' Fr0 ga) e'
  exact ⟨s₂, o, st' _ q1, q2⟩
theorem Run.bastore {a : Addr} {nn : Nat} {f : Nat → Int32} {j v : Int32} (w : Int32) (q : Nat) (F : AI Z h a .byte nn f) (hj : 0 ≤ j.toInt ∧ j.toInt < nn) (ga : n0 ≤ a) (hd : decode bytes pc = .ok (.bastore, 1)) (hr : ∀ h' : Heap, Wr h h' a j.toNatClampNeg (.int w) → AI Z h' a .byte nn (oupd f j.toNatClampNeg w) → Run p l e R s m args below meth c Z own nm bytes maxL ret n0 EE h' k n (mkF m q ls st)) (hv : (nar .byte v) = w := by rfl) (hq : q = pc + 1 := by rfl) : Run p l e R s m args below meth c Z own nm bytes maxL ret n0 EE h k n (mkF m pc ls (.int v :: .int j :: .ref a :: st)) := by
  subst hq hv; intro C T locs X Fr0 E
  have F0 := F
  obtain ⟨-, cl, A, r1, r2⟩ := F
  obtain ⟨T', h', X', e', W, st'⟩ := stB X C.1 C.2.2.2.2.2.1 E A (j := j) (x := v) (inb r1 hj) (g := mkF m pc ls (.int v :: .int j :: .ref a :: st)) rfl rfl (C.2.1 ▸ hd)
  obtain ⟨s₂, o, q1, q2⟩ := hr h' W (F0.set (inn hj) W) C T' _ X' (Fr.snoc X' Fr0 ga) e'
  exact ⟨s₂, o, st' _ q1, q2⟩
theorem Run.castore {a : Addr} {nn : Nat} {f : Nat → Int32} {j v : Int32} (w : Int32) (q : Nat) (F : AI Z h a .char nn f) (hj : 0 ≤ j.toInt ∧ j.toInt < nn) (ga : n0 ≤ a) (hd : decode bytes pc = .ok (.castore, 1)) (hr : ∀ h' : Heap, Wr h h' a j.toNatClampNeg (.int w) → AI Z h' a .char nn (oupd f j.toNatClampNeg w) → Run p l e R s m args below meth c Z own nm bytes maxL ret n0 EE h' k n (mkF m q ls st)) (hv : (nar .char v) = w := by rfl) (hq : q = pc + 1 := by rfl) : Run p l e R s m args below meth c Z own nm bytes maxL ret n0 EE h k n (mkF m pc ls (.int v :: .int j :: .ref a :: st)) := by
  subst hq hv; intro C T locs X Fr0 E
  have F0 := F
  obtain ⟨-, cl, A, r1, r2⟩ := F
  obtain ⟨T', h', X', e', W, st'⟩ := stC X C.1 C.2.2.2.2.2.1 E A (j := j) (x := v) (inb r1 hj) (g := mkF m pc ls (.int v :: .int j :: .ref a :: st)) rfl rfl (C.2.1 ▸ hd)
  obtain ⟨s₂, o, q1, q2⟩ := hr h' W (F0.set (inn hj) W) C T' _ X' (Fr.snoc X' Fr0 ga) e'
  exact ⟨s₂, o, st' _ q1, q2⟩
theorem Run.lastore {a : Addr} {nn : Nat} {f : Nat → Int64} {j : Int32} {v : Int64} (q : Nat) (F : AJ Z h a nn f) (hj : 0 ≤ j.toInt ∧ j.toInt < nn) (ga : n0 ≤ a) (hd : decode bytes pc = .ok (.lastore, 1)) (hr : ∀ h' : Heap, Wr h h' a j.toNatClampNeg (.long v) → AJ Z h' a nn (oupd f j.toNatClampNeg v) → Run p l e R s m args below meth c Z own nm bytes maxL ret n0 EE h' k n (mkF m q ls st)) (hq : q = pc + 1 := by rfl) : Run p l e R s m args below meth c Z own nm bytes maxL ret n0 EE h k n (mkF m pc ls (.long v :: .int j :: .ref a :: st)) := by
  subst hq; intro C T locs X Fr0 E
  have F0 := F
  obtain ⟨-, cl, A, r1, r2⟩ := F
  obtain ⟨T', h', X', e', W, st'⟩ := stJ X C.1 C.2.2.2.2.2.1 E A (j := j) (x := v) (inb r1 hj) (g := mkF m pc ls (.long v :: .int j :: .ref a :: st)) rfl rfl (C.2.1 ▸ hd)
  obtain ⟨s₂, o, q1, q2⟩ := hr h' W (F0.set (inn hj) W) C T' _ X' (Fr.snoc X' Fr0 ga) e'
  exact ⟨s₂, o, st' _ q1, q2⟩
theorem Run.lenI {a : Addr} {nn : Nat} {ty : FieldType} {f : Nat → Int32} (w : Int32) (q : Nat) (F : AI Z h a ty nn f) (hd : decode bytes pc = .ok (.arraylength, 1)) (hr : Run p l e R s m args below meth c Z own nm bytes maxL ret n0 EE h k n (mkF m q ls (.int w :: st))) (hv : Int32.ofNat nn = w := by first | rfl | decide) (hq : q = pc + 1 := by rfl) : Run p l e R s m args below meth c Z own nm bytes maxL ret n0 EE h k n (mkF m pc ls (.ref a :: st)) := by
  subst hq; intro C T locs X Fr0 E
  obtain ⟨-, cl, A, r1, r2⟩ := F
  obtain ⟨s₂, o, q1, q2⟩ := hr C T locs X Fr0 E
  have hz : cl.slots.size.toInt32 = w := by rw [r1]; exact hv
  exact ⟨s₂, o, X.arraylength C.1 (by rw [E]; exact A.1) (State.isArrayOf_alike C.2.2.2.2.2.1.alike A.2.1) (g := mkF m pc ls (.ref a :: st)) rfl rfl (C.2.1 ▸ hd) _ (by rw [hz]; exact q1), q2⟩
theorem Run.lenJ {a : Addr} {nn : Nat} {f : Nat → Int64} (w : Int32) (q : Nat) (F : AJ Z h a nn f) (hd : decode bytes pc = .ok (.arraylength, 1)) (hr : Run p l e R s m args below meth c Z own nm bytes maxL ret n0 EE h k n (mkF m q ls (.int w :: st))) (hv : Int32.ofNat nn = w := by first | rfl | decide) (hq : q = pc + 1 := by rfl) : Run p l e R s m args below meth c Z own nm bytes maxL ret n0 EE h k n (mkF m pc ls (.ref a :: st)) := by
  subst hq; intro C T locs X Fr0 E
  obtain ⟨-, cl, A, r1, r2⟩ := F
  obtain ⟨s₂, o, q1, q2⟩ := hr C T locs X Fr0 E
  have hz : cl.slots.size.toInt32 = w := by rw [r1]; exact hv
  exact ⟨s₂, o, X.arraylength C.1 (by rw [E]; exact A.1) (State.isArrayOf_alike C.2.2.2.2.2.1.alike A.2.1) (g := mkF m pc ls (.ref a :: st)) rfl rfl (C.2.1 ▸ hd) _ (by rw [hz]; exact q1), q2⟩
theorem Run.new_int {z : Int32} (q nn cap : Nat) (w : (Jvm.Cond.arrayClass .int).before a0 Z = true) (hz : z.toInt = nn) (hd : decode bytes pc = .ok (.newarray .int, 2)) (hr : ∀ (h' : Heap) (a : Addr), a = h.size → n0 ≤ a → Ext h h' → AI Z h' a .int nn (fun _ => 0) → Run p l e R s m args below meth c Z own nm bytes maxL ret n0 EE h' (k + 1) (n + cap) (mkF m q ls (.ref a :: st))) (hcap : nn ≤ cap := by decide) (hb : cap * 8 ≤ 536870912 := by decide) (hc : k + 1 ≤ R.cells := by decide) (hl : n + cap ≤ R.slots := by decide) (hq : q = pc + 2 := by rfl) : Run p l e R s m args below meth c Z own nm bytes maxL ret n0 EE h k n (mkF m pc ls (.int z :: st)) := by
  subst hq; refine Run.sz fun hs => ?_; intro C T locs X Fr0 E
  have hz2 : z.toNatClampNeg = nn := by rw [show z.toNatClampNeg = z.toInt.toNat from rfl, hz]; rfl
  have hneg : ¬ z < 0 := by rw [Int32.lt_iff_toInt_lt, show (0 : Int32).toInt = 0 from by decide]; omega
  have hd' : decode c.code pc = .ok (.newarray .int, 2) := C.2.1 ▸ hd
  have hcap' : z.toNatClampNeg ≤ cap := by omega
  obtain ⟨T', h', cA, X', e', EX, A, st'⟩ := newP (aty := .int) (h := h) (n := z) (rest := st) X C.1 C.2.2.2.2.2.1 w E (g := mkF m pc ls (.int z :: st)) rfl hd' rfl hneg (cap := cap) hcap' hb hc hl
  have hlt : nn < 2 ^ 31 := by have := z.toInt_lt; omega
  obtain ⟨s₂, o, q1, q2⟩ := hr h' h.size rfl hs EX ⟨hlt, _, A, by rw [sz_new]; exact hz2, fun i hi => by simp [newA, newarray.typeOf, defaultValue, hz2, hi]⟩ C T' locs X' Fr0 e'
  exact ⟨s₂, o, st' _ q1, q2⟩
theorem Run.new_byte {z : Int32} (q nn cap : Nat) (w : (Jvm.Cond.arrayClass .byte).before a0 Z = true) (hz : z.toInt = nn) (hd : decode bytes pc = .ok (.newarray .byte, 2)) (hr : ∀ (h' : Heap) (a : Addr), a = h.size → n0 ≤ a → Ext h h' → AI Z h' a .byte nn (fun _ => 0) → Run p l e R s m args below meth c Z own nm bytes maxL ret n0 EE h' (k + 1) (n + cap) (mkF m q ls (.ref a :: st))) (hcap : nn ≤ cap := by decide) (hb : cap * 8 ≤ 536870912 := by decide) (hc : k + 1 ≤ R.cells := by decide) (hl : n + cap ≤ R.slots := by decide) (hq : q = pc + 2 := by rfl) : Run p l e R s m args below meth c Z own nm bytes maxL ret n0 EE h k n (mkF m pc ls (.int z :: st)) := by
  subst hq; refine Run.sz fun hs => ?_; intro C T locs X Fr0 E
  have hz2 : z.toNatClampNeg = nn := by rw [show z.toNatClampNeg = z.toInt.toNat from rfl, hz]; rfl
  have hneg : ¬ z < 0 := by rw [Int32.lt_iff_toInt_lt, show (0 : Int32).toInt = 0 from by decide]; omega
  have hd' : decode c.code pc = .ok (.newarray .byte, 2) := C.2.1 ▸ hd
  have hcap' : z.toNatClampNeg ≤ cap := by omega
  obtain ⟨T', h', cA, X', e', EX, A, st'⟩ := newP (aty := .byte) (h := h) (n := z) (rest := st) X C.1 C.2.2.2.2.2.1 w E (g := mkF m pc ls (.int z :: st)) rfl hd' rfl hneg (cap := cap) hcap' hb hc hl
  have hlt : nn < 2 ^ 31 := by have := z.toInt_lt; omega
  obtain ⟨s₂, o, q1, q2⟩ := hr h' h.size rfl hs EX ⟨hlt, _, A, by rw [sz_new]; exact hz2, fun i hi => by simp [newA, newarray.typeOf, defaultValue, hz2, hi]⟩ C T' locs X' Fr0 e'
  exact ⟨s₂, o, st' _ q1, q2⟩
theorem Run.new_char {z : Int32} (q nn cap : Nat) (w : (Jvm.Cond.arrayClass .char).before a0 Z = true) (hz : z.toInt = nn) (hd : decode bytes pc = .ok (.newarray .char, 2)) (hr : ∀ (h' : Heap) (a : Addr), a = h.size → n0 ≤ a → Ext h h' → AI Z h' a .char nn (fun _ => 0) → Run p l e R s m args below meth c Z own nm bytes maxL ret n0 EE h' (k + 1) (n + cap) (mkF m q ls (.ref a :: st))) (hcap : nn ≤ cap := by decide) (hb : cap * 8 ≤ 536870912 := by decide) (hc : k + 1 ≤ R.cells := by decide) (hl : n + cap ≤ R.slots := by decide) (hq : q = pc + 2 := by rfl) : Run p l e R s m args below meth c Z own nm bytes maxL ret n0 EE h k n (mkF m pc ls (.int z :: st)) := by
  subst hq; refine Run.sz fun hs => ?_; intro C T locs X Fr0 E
  have hz2 : z.toNatClampNeg = nn := by rw [show z.toNatClampNeg = z.toInt.toNat from rfl, hz]; rfl
  have hneg : ¬ z < 0 := by rw [Int32.lt_iff_toInt_lt, show (0 : Int32).toInt = 0 from by decide]; omega
  have hd' : decode c.code pc = .ok (.newarray .char, 2) := C.2.1 ▸ hd
  have hcap' : z.toNatClampNeg ≤ cap := by omega
  obtain ⟨T', h', cA, X', e', EX, A, st'⟩ := newP (aty := .char) (h := h) (n := z) (rest := st) X C.1 C.2.2.2.2.2.1 w E (g := mkF m pc ls (.int z :: st)) rfl hd' rfl hneg (cap := cap) hcap' hb hc hl
  have hlt : nn < 2 ^ 31 := by have := z.toInt_lt; omega
  obtain ⟨s₂, o, q1, q2⟩ := hr h' h.size rfl hs EX ⟨hlt, _, A, by rw [sz_new]; exact hz2, fun i hi => by simp [newA, newarray.typeOf, defaultValue, hz2, hi]⟩ C T' locs X' Fr0 e'
  exact ⟨s₂, o, st' _ q1, q2⟩
theorem Run.new_long {z : Int32} (q nn cap : Nat) (w : (Jvm.Cond.arrayClass .long).before a0 Z = true) (hz : z.toInt = nn) (hd : decode bytes pc = .ok (.newarray .long, 2)) (hr : ∀ (h' : Heap) (a : Addr), a = h.size → n0 ≤ a → Ext h h' → AJ Z h' a nn (fun _ => 0) → Run p l e R s m args below meth c Z own nm bytes maxL ret n0 EE h' (k + 1) (n + cap) (mkF m q ls (.ref a :: st))) (hcap : nn ≤ cap := by decide) (hb : cap * 8 ≤ 536870912 := by decide) (hc : k + 1 ≤ R.cells := by decide) (hl : n + cap ≤ R.slots := by decide) (hq : q = pc + 2 := by rfl) : Run p l e R s m args below meth c Z own nm bytes maxL ret n0 EE h k n (mkF m pc ls (.int z :: st)) := by
  subst hq; refine Run.sz fun hs => ?_; intro C T locs X Fr0 E
  have hz2 : z.toNatClampNeg = nn := by rw [show z.toNatClampNeg = z.toInt.toNat from rfl, hz]; rfl
  have hneg : ¬ z < 0 := by rw [Int32.lt_iff_toInt_lt, show (0 : Int32).toInt = 0 from by decide]; omega
  have hd' : decode c.code pc = .ok (.newarray .long, 2) := C.2.1 ▸ hd
  have hcap' : z.toNatClampNeg ≤ cap := by omega
  obtain ⟨T', h', cA, X', e', EX, A, st'⟩ := newP (aty := .long) (h := h) (n := z) (rest := st) X C.1 C.2.2.2.2.2.1 w E (g := mkF m pc ls (.int z :: st)) rfl hd' rfl hneg (cap := cap) hcap' hb hc hl
  have hlt : nn < 2 ^ 31 := by have := z.toInt_lt; omega
  obtain ⟨s₂, o, q1, q2⟩ := hr h' h.size rfl hs EX ⟨hlt, _, A, by rw [sz_new]; exact hz2, fun i hi => by simp [newA, newarray.typeOf, defaultValue, hz2, hi]⟩ C T' locs X' Fr0 e'
  exact ⟨s₂, o, st' _ q1, q2⟩
theorem getD_all {L : List Value} {d : Value} (h : ∀ x ∈ L, x = d) (i : Nat) : L.getD i d = d := by
  rw [List.getD_eq_getElem?_getD]
  cases q : L[i]? with
  | none => rfl
  | some x => exact h x (List.mem_of_getElem? q)
theorem AI.arv0 {a : Addr} {nn : Nat} (A : AI Z h a .byte nn (fun _ => 0)) {z : Int32} (hz : z.toInt = nn) : ∃ kc, Arv Z h a kc .byte z (List.replicate nn (.int 0)) (.int 0) := by
  obtain ⟨hlt, cl, Ar, S, H⟩ := A
  have g : ∀ i, (List.replicate nn (Value.int 0)).getD i (.int 0) = .int 0 := fun i => getD_all (fun x hx => List.eq_of_mem_replicate hx) i
  refine ⟨cl.cls, cl, Ar, rfl, ?_, ?_, fun i hi => ?_, fun i hi => ?_⟩
  · rw [S, show z.toNatClampNeg = z.toInt.toNat from rfl, hz]; rfl
  · rw [Int32.lt_iff_toInt_lt, show (0 : Int32).toInt = 0 from by decide]; omega
  · rw [g i]; exact H i (by rw [← S]; exact hi)
  · rw [g i]; decide
theorem AI.of_arv0 {a : Addr} {nn : Nat} {kc : ClassId} {z : Int32} {L : List Value} (A : Arv Z h a kc .byte z L (.int 0)) (hz : z.toInt = nn) (hL : ∀ x ∈ L, x = .int 0) : AI Z h a .byte nn (fun _ => 0) := by
  obtain ⟨cl, Ar, -, S, -, H, -⟩ := A
  have S' : cl.slots.size = nn := by rw [S, show z.toNatClampNeg = z.toInt.toNat from rfl, hz]; rfl
  exact ⟨by have := z.toInt_lt; omega, cl, Ar, S', fun i hi => by rw [H i (by rw [S']; exact hi), getD_all hL]⟩
theorem Run.copy0 {a b : Addr} {na nb : Nat} {i : Nat} {nn za zb : Int32} (q W : Nat) (w1 : (Jvm.Cond.methodLink own i Jvm.Stand.acN).before a0 Z = true) (w2 : (Jvm.Cond.native Jvm.Stand.acN).before a0 Z = true) (w3 : (Jvm.Cond.static Jvm.Stand.acN).before a0 Z = true) (w4 : (Jvm.Cond.initialized "java/lang/System").before a0 Z = true)
    (A : AI Z h a .byte na (fun _ => 0)) (B : AI Z h b .byte nb (fun _ => 0)) (hza : za.toInt = na) (hzb : zb.toInt = nb) (hn : 0 ≤ nn.toInt ∧ nn.toInt ≤ na ∧ nn.toInt ≤ nb) (gb : n0 ≤ b) (hd : decode bytes pc = .ok (.invokestatic i, 3))
    (hr : ∀ h' : Heap, Keep h h' [b] → AI Z h' b .byte nb (fun _ => 0) → Run p l e R s m args below meth c Z own nm bytes maxL ret n0 EE h' k n (mkF m q ls st)) (hsz : ls.size = maxL := by rfl) (hf : 1 ≤ R.frames := by decide) (hW : (st.map fun v => v.category).sum ≤ W := by first | exact Nat.le_of_eq rfl | decide) (hl : W + 18 ≤ R.locals := by decide) (hq : q = pc + 3 := by rfl) : Run p l e R s m args below meth c Z own nm bytes maxL ret n0 EE h k n (mkF m pc ls (.int nn :: .int (0 : Int32) :: .ref b :: .int (0 : Int32) :: .ref a :: st)) := by
  subst hq; intro C T locs X Fr0 E
  obtain ⟨ka, A'⟩ := A.arv0 hza
  obtain ⟨kb, B'⟩ := B.arv0 hzb
  have n0' : (0 : Int32).toNatClampNeg = 0 := by decide
  have ez : ∀ z : Int32, z.toNatClampNeg = z.toInt.toNat := fun _ => rfl
  obtain ⟨T', h', L, X', e', N', KP, R', st'⟩ := cpA X C.1 C.2.2.2.2.2.1 C.2.2.2.1 w1 w2 w3 w4 E (sp := 0) (dp := 0) (nn := nn) A' B' (Or.inl ⟨rfl, rfl⟩) (by decide) (by decide) (by rw [Int32.lt_iff_toInt_lt, show (0 : Int32).toInt = 0 from by decide]; omega) (by rw [n0', ez, ez]; omega) (by rw [n0', ez, ez]; omega) rfl (by rw [n0', ez, List.length_replicate]; omega) Fr0 gb (g := mkF m pc ls (.int nn :: .int (0 : Int32) :: .ref b :: .int (0 : Int32) :: .ref a :: st)) rfl (by rw [C.2.2.1]; exact hsz) rfl (C.2.1 ▸ hd) hf (W := W) (by show 2 * 0 + _ ≤ _; omega) (by show W + (nativeFrameWords _ _ 5 + 11) ≤ _; rw [show nativeFrameWords "java/lang/System" "arraycopy" 5 = 7 from by decide]; exact hl)
  have R2 : AI Z h' b .byte nb (fun _ => 0) := AI.of_arv0 R' hzb (fun x hx => by
    simp only [List.mem_append, List.mem_map] at hx
    rcases hx with (hx | ⟨u, -, hx⟩) | hx
    · exact List.eq_of_mem_replicate (List.mem_of_mem_take hx)
    · rw [← hx]; exact getD_all (fun x hx => List.eq_of_mem_replicate hx) _
    · exact List.eq_of_mem_replicate (List.mem_of_mem_drop hx))
  obtain ⟨s₂, o, q1, q2⟩ := hr h' KP R2 C T' _ X' N' e'
  exact ⟨s₂, o, st' _ q1, q2⟩
theorem Run.ind {ι : Type} (P : Nat → ι → Heap → Prop) (fr : ι → JFrame) (step : ∀ (j : Nat) (x : ι) (hL : Heap), P j x hL → (∀ (j' : Nat) (x' : ι) (h' : Heap), j' < j → P j' x' h' → Run p l e R s m args below meth c Z own nm bytes maxL ret n0 EE h' k n (fr x')) → Run p l e R s m args below meth c Z own nm bytes maxL ret n0 EE hL k n (fr x)) (j : Nat) (x : ι) (hP : P j x h) : Run p l e R s m args below meth c Z own nm bytes maxL ret n0 EE h k n (fr x) := by
  have key : ∀ (N0 : Nat) (j : Nat), j < N0 → ∀ (x : ι) (hL : Heap), P j x hL → Run p l e R s m args below meth c Z own nm bytes maxL ret n0 EE hL k n (fr x) := by
    intro N0
    induction N0 with
    | zero => intro j hj; exact absurd hj (Nat.not_lt_zero _)
    | succ N1 ih => intro j hj x hL hP; exact step j x hL hP (fun j' x' h' hlt hP' => ih j' (by omega) x' h' hP')
  exact key (j + 1) j (Nat.lt_succ_self _) x h hP
end Layer
theorem div_toInt {x y : Int32} (hx : 0 ≤ x.toInt) {d : Int} (hy : y.toInt = d) (hd : 0 < d) : (x / y).toInt = x.toInt / d :=
  (c_idiv x y d hy (fun z => by rw [z] at hy; rw [show (-1 : Int32).toInt = -1 from by decide] at hy; omega)).1 hx
theorem rem_toInt {x y : Int32} (hx : 0 ≤ x.toInt) {d : Int} (hy : y.toInt = d) (hd : 0 < d) : (x - (x / y) * y).toInt = x.toInt % d := by
  have h1 := div_toInt hx hy hd
  have h2 := c_imul (x / y) y
  rw [h1, hy, Int.mul_comm] at h2
  have h3 := c_isub x ((x / y) * y)
  have h4 := rng32 (x - (x / y) * y)
  have h5 : x.toInt % d = x.toInt - d * (x.toInt / d) := Int.emod_def _ _
  have h6 := Int.emod_nonneg x.toInt (b := d) (by omega)
  have h7 := Int.emod_lt_of_pos x.toInt hd
  have h8 := rng32 x; have h9 := rng32 y
  omega
theorem and31 (x : Int32) : 0 ≤ (x &&& 2147483647).toInt ∧ (x &&& 2147483647).toInt < 2147483648 := by
  rw [c_mask x 2147483647 31 (by decide) (by decide)]; omega
theorem add_toInt {x y : Int32} {a b : Int} (ha : x.toInt = a) (hb : y.toInt = b) (h1 : -2147483648 ≤ a + b) (h2 : a + b < 2147483648) : (x + y).toInt = a + b := by
  have h3 := c_iadd x y; have h4 := rng32 (x + y); omega
theorem sub_toInt {x y : Int32} {a b : Int} (ha : x.toInt = a) (hb : y.toInt = b) (h1 : -2147483648 ≤ a - b) (h2 : a - b < 2147483648) : (x - y).toInt = a - b := by
  have h3 := c_isub x y; have h4 := rng32 (x - y); omega
theorem inc_toInt {x : Int32} (h : x.toInt + 1 < 2147483648) : (x + 1).toInt = x.toInt + 1 := by
  have h1 := rng32 x; exact add_toInt rfl (by decide) (by omega) h
theorem lt32 {x y : Int32} : x < y ↔ x.toInt < y.toInt := Int32.lt_iff_toInt_lt
theorem lt64 {x y : Int64} : x < y ↔ x.toInt < y.toInt := Int64.lt_iff_toInt_lt
theorem eq32 {x y : Int32} : x = y ↔ x.toInt = y.toInt := Int32.toInt_inj.symm
theorem eq64 {x y : Int64} : x = y ↔ x.toInt = y.toInt := Int64.toInt_inj.symm
theorem nat32 {j : Int32} (h : 0 ≤ j.toInt) : (j.toNatClampNeg : Int) = j.toInt := by rw [show j.toNatClampNeg = j.toInt.toNat from rfl]; omega
theorem nar_c (x : Int32) : nar .char (x.toUInt32.toUInt16.toUInt32.toInt32) = x.toUInt32.toUInt16.toUInt32.toInt32 := by
  show ((x.toUInt32.toUInt16.toUInt32).toUInt16.toUInt32).toInt32 = _
  rw [UInt16.toUInt16_toUInt32]
theorem allb {P : Int8 → Prop} (h : ∀ v : BitVec 8, P (Int8.ofBitVec v)) (b : Int8) : P b := h b.toBitVec
end Jvm.Own

namespace Jvm.Pilot.@@N@@
open Jvm Jvm.ClassFile Sem Op Lib Jvm.Free Jvm.Stand Jvm.LawKit Jvm.RoadKit Bundle Jvm.Pilot.@@N@@.Jvm.D Jvm.Own
theorem d1_0 : decode prog_103_method_1_code 0 = .ok (.aload_n 0, 1) := by decide +kernel
theorem d1_1 : decode prog_103_method_1_code 1 = .ok (.invokespecial 1, 3) := by decide +kernel
theorem d1_4 : decode prog_103_method_1_code 4 = .ok (.aload_n 0, 1) := by decide +kernel
theorem d1_5 : decode prog_103_method_1_code 5 = .ok (.iload_n 1, 1) := by decide +kernel
theorem d1_6 : decode prog_103_method_1_code 6 = .ok (.newarray .byte, 2) := by decide +kernel
theorem d1_8 : decode prog_103_method_1_code 8 = .ok (.putfield 7, 3) := by decide +kernel
theorem d1_11 : decode prog_103_method_1_code 11 = .ok (.return_, 1) := by decide +kernel
theorem ef_rmI (m : MethodId) (x0 : Addr) (x1 : Int32) : entryFrame m #[(.ref x0), (.int x1)] 2 = mkF m 0 #[.val (.ref x0), .val (.int x1)] [] := by first | (simp [entryFrame, mkF, argsToLocals, Value.category]; done) | rfl
set_option maxRecDepth 65536 in
set_option maxHeartbeats 40000000 in
theorem rmI {l : Launch} {Z : State} {a0 : Array Value} (hw : ∀ d ∈ tables_1, d.before a0 Z = true) (r0 : Addr) (p1 : Int32) (nn : Nat) (h0 : Heap) (n0 : Nat) (Z0 : n0 ≤ h0.size) (pf0 : Exa Z h0 r0 "com/example/tagwire/tagwire/wire/WireWriter") (pf1 : Fld Z h0 r0 "com/example/tagwire/tagwire/wire/WireWriter" "buffer" "[B" .null) (pf2 : Fld Z h0 r0 "com/example/tagwire/tagwire/wire/WireWriter" "position" "I" (.int (0 : Int32))) (pf3 : n0 ≤ r0) (hnn : p1.toInt = nn) (hcap : nn ≤ 16) :
    Pays l Z (⟨"com/example/tagwire/tagwire/wire/WireWriter", "<init>", "(I)V"⟩ : MethodName) prog_103_method_1_code 2 none ({ frames := 1, cells := 1, slots := 16, locals := 12 } : Room) #[(.ref r0), (.int p1)] h0 n0 (fun v h' => ∃ xb : Addr, v = none ∧ Keep h0 h' [r0] ∧ h0.size ≤ xb ∧ Exa Z h' r0 "com/example/tagwire/tagwire/wire/WireWriter" ∧ Fld Z h' r0 "com/example/tagwire/tagwire/wire/WireWriter" "position" "I" (.int (0 : Int32)) ∧ Fld Z h' r0 "com/example/tagwire/tagwire/wire/WireWriter" "buffer" "[B" (.ref xb) ∧ AI Z h' xb .byte nn (fun _ => 0)) := by
  refine Pays.of (ls := #[.val (.ref r0), .val (.int p1)]) (plainFor_of_name (by first | (simp [plainName, overriddenIn]; done) | decide +kernel)) (fun m => ef_rmI m r0 p1) Z0 (fun p e s m below meth c => ?_)
  refine Run.aloadN 1 d1_0 rfl ?_
  refine Run.initO 4 0 (hw _ (List.mem_of_getElem? (i := 6) rfl)) (hw _ (List.mem_of_getElem? (i := 7) rfl)) (hw _ (List.mem_of_getElem? (i := 8) rfl)) d1_1 ?_
  refine Run.aloadN 5 d1_4 rfl ?_
  refine Run.iloadN 6 d1_5 rfl ?_
  refine Run.new_byte 8 nn 16 (hw _ (List.mem_of_getElem? (i := 9) rfl)) hnn d1_6 (fun h1 ob1 g1 u1 E1 A1 => ?_) (hcap := by omega)
  have ne_r0_ob1 : r0 ≠ ob1 := Nat.ne_of_lt (Nat.lt_of_lt_of_le pf0.lt (Nat.le_of_eq g1.symm))
  have hsz_ob1 : h0.size ≤ ob1 := Nat.le_trans (Keep.refl h0 [r0]).1 (Nat.le_of_eq g1.symm)
  show Run p l e _ s m _ below meth c Z _ _ _ _ _ n0 _ h1 1 16 (mkF m 8 #[.val (.ref r0), .val (.int p1)] [(.ref ob1), (.ref r0)])
  have f2 := (pf1.ext E1)
  have f3 := (pf0.ext E1)
  refine Run.putF 11 (Or.inl (hw _ (List.mem_of_getElem? (i := 10) rfl))) (host := "") Via.refl f2 f3 (Or.inr ⟨(hw _ (List.mem_of_getElem? (i := 11) rfl)), rfl, rfl⟩) (hw _ (List.mem_of_getElem? (i := 1) rfl)) (ty := (.array .byte)) (by decide) pf3 d1_8 (fun h4 W4 => ?_)
  have F4 := f2.same W4
  have f5 := (f3.wr W4)
  have f6 := ((pf2.ext E1).other W4 (Or.inr (slot_ne (Or.inl (hw _ (List.mem_of_getElem? (i := 18) rfl))) (Or.inr (hw _ (List.mem_of_getElem? (i := 11) rfl))) (by decide) (t := .int) (t' := (.array .byte)) (by decide) (by decide))))
  have f7 := (A1.other W4 (Ne.symm ne_r0_ob1))
  exact Run.retV d1_11 ⟨ob1, rfl, (((Keep.refl h0 [r0]).ext E1).wr W4 (Or.inl (List.mem_of_getElem? (i := 0) rfl))), hsz_ob1, f5, f6, F4, f7⟩
def own_b8 (v : Int64) (i : Int32) : Int32 := (v.toUInt64 >>> (((8 : Int32) * i) &&& 0x3f).toInt64.toUInt64).toInt64.toInt32.toInt8.toInt32
def own_w8 (f : Nat → Int32) (pos : Int32) (v : Int64) (q : Nat) : Int32 := if pos.toInt ≤ q ∧ (q : Int) < pos.toInt + (8 : Int32).toInt then own_b8 v (Int32.ofNat q - pos) else f q
theorem d3_0 : decode prog_103_method_9_code 0 = .ok (.iconst 0, 1) := by decide +kernel
theorem d3_1 : decode prog_103_method_9_code 1 = .ok (.istore_n 3, 1) := by decide +kernel
theorem d3_2 : decode prog_103_method_9_code 2 = .ok (.iload_n 3, 1) := by decide +kernel
theorem d3_3 : decode prog_103_method_9_code 3 = .ok (.bipush 8, 2) := by decide +kernel
theorem d3_5 : decode prog_103_method_9_code 5 = .ok (.if_icmp .ge 33, 3) := by decide +kernel
theorem d3_38 : decode prog_103_method_9_code 38 = .ok (.return_, 1) := by decide +kernel
theorem d3_8 : decode prog_103_method_9_code 8 = .ok (.aload_n 0, 1) := by decide +kernel
theorem d3_9 : decode prog_103_method_9_code 9 = .ok (.getfield 7, 3) := by decide +kernel
theorem d3_12 : decode prog_103_method_9_code 12 = .ok (.aload_n 0, 1) := by decide +kernel
theorem d3_13 : decode prog_103_method_9_code 13 = .ok (.dup, 1) := by decide +kernel
theorem d3_14 : decode prog_103_method_9_code 14 = .ok (.getfield 46, 3) := by decide +kernel
theorem d3_17 : decode prog_103_method_9_code 17 = .ok (.dup_x1, 1) := by decide +kernel
theorem d3_18 : decode prog_103_method_9_code 18 = .ok (.iconst 1, 1) := by decide +kernel
theorem d3_19 : decode prog_103_method_9_code 19 = .ok (.iadd, 1) := by decide +kernel
theorem d3_20 : decode prog_103_method_9_code 20 = .ok (.putfield 46, 3) := by decide +kernel
theorem d3_23 : decode prog_103_method_9_code 23 = .ok (.lload_n 1, 1) := by decide +kernel
theorem d3_24 : decode prog_103_method_9_code 24 = .ok (.bipush 8, 2) := by decide +kernel
theorem d3_26 : decode prog_103_method_9_code 26 = .ok (.iload_n 3, 1) := by decide +kernel
theorem d3_27 : decode prog_103_method_9_code 27 = .ok (.imul, 1) := by decide +kernel
theorem d3_28 : decode prog_103_method_9_code 28 = .ok (.lushr, 1) := by decide +kernel
theorem d3_29 : decode prog_103_method_9_code 29 = .ok (.l2i, 1) := by decide +kernel
theorem d3_30 : decode prog_103_method_9_code 30 = .ok (.i2b, 1) := by decide +kernel
theorem d3_31 : decode prog_103_method_9_code 31 = .ok (.bastore, 1) := by decide +kernel
theorem d3_32 : decode prog_103_method_9_code 32 = .ok (.iinc 3 1, 3) := by decide +kernel
theorem d3_35 : decode prog_103_method_9_code 35 = .ok (.goto (-33), 3) := by decide +kernel
theorem ef_rmW (m : MethodId) (x0 : Addr) (x1 : Int64) : entryFrame m #[(.ref x0), (.long x1)] 4 = mkF m 0 #[.val (.ref x0), .val (.long x1), .second, .unset] [] := by first | (simp [entryFrame, mkF, argsToLocals, Value.category]; done) | rfl
set_option maxRecDepth 65536 in
set_option maxHeartbeats 40000000 in
theorem rmW {l : Launch} {Z : State} {a0 : Array Value} (hw : ∀ d ∈ tables_1, d.before a0 Z = true) (r0 : Addr) (q1 : Int64) (nn : Nat) (xb : Addr) (pos : Int32) (f : Nat → Int32) (h0 : Heap) (n0 : Nat) (Z0 : n0 ≤ h0.size) (pf0 : Exa Z h0 r0 "com/example/tagwire/tagwire/wire/WireWriter") (pf1 : Fld Z h0 r0 "com/example/tagwire/tagwire/wire/WireWriter" "buffer" "[B" (.ref xb)) (pf2 : Fld Z h0 r0 "com/example/tagwire/tagwire/wire/WireWriter" "position" "I" (.int pos)) (pf3 : AI Z h0 xb .byte nn f) (pf4 : n0 ≤ r0) (pf5 : n0 ≤ xb) (pf6 : r0 ≠ xb) (hb : 0 ≤ pos.toInt ∧ pos.toInt + 8 ≤ nn) :
    Pays l Z (⟨"com/example/tagwire/tagwire/wire/WireWriter", "writeFixed64", "(J)V"⟩ : MethodName) prog_103_method_9_code 4 none ({ frames := 0, cells := 0, slots := 0, locals := 0 } : Room) #[(.ref r0), (.long q1)] h0 n0 (fun v h' => v = none ∧ Keep h0 h' [r0, xb] ∧ Exa Z h' r0 "com/example/tagwire/tagwire/wire/WireWriter" ∧ Fld Z h' r0 "com/example/tagwire/tagwire/wire/WireWriter" "buffer" "[B" (.ref xb) ∧ Fld Z h' r0 "com/example/tagwire/tagwire/wire/WireWriter" "position" "I" (.int (pos + 8)) ∧ AI Z h' xb .byte nn (own_w8 f pos q1)) := by
  refine Pays.of (ls := #[.val (.ref r0), .val (.long q1), .second, .unset]) (plainFor_of_name (by first | (simp [plainName, overriddenIn]; done) | decide +kernel)) (fun m => ef_rmW m r0 q1) Z0 (fun p e s m below meth c => ?_)
  have hnn := pf3.1
  refine Run.iconst (0 : Int32) 1 d3_0 ?_
  refine Run.istoreN 2 #[.val (.ref r0), .val (.long q1), .second, .val (.int (0 : Int32))] d3_1 ?_
  refine Run.ind (ι := Int32) (fun j x hh => Keep h0 hh [r0, xb] ∧ ∃ g : Nat → Int32, Exa Z hh r0 "com/example/tagwire/tagwire/wire/WireWriter" ∧ Fld Z hh r0 "com/example/tagwire/tagwire/wire/WireWriter" "buffer" "[B" (.ref xb) ∧ Fld Z hh r0 "com/example/tagwire/tagwire/wire/WireWriter" "position" "I" (.int (pos + (x))) ∧ AI Z hh xb .byte nn g ∧ 0 ≤ (x).toInt ∧ (x).toInt ≤ 8 ∧ (j : Int) = 8 - (x).toInt ∧ ∀ q : Nat, q < nn → g q = if pos.toInt ≤ q ∧ (q : Int) < pos.toInt + (x).toInt then own_b8 q1 (Int32.ofNat q - pos) else f q) (fun x => (mkF m 2 #[.val (.ref r0), .val (.long q1), .second, .val (.int x)] [])) (fun j i hL hP ih => ?_) 8 0 (by (try dsimp only); exact ⟨Keep.refl h0 [r0, xb], f, pf0, pf1, by rw [Int32.add_zero]; exact pf2, pf3, by decide, by decide, by decide, fun q hq => by rw [if_neg (by rw [show (0 : Int32).toInt = 0 from by decide]; omega)]⟩)
  obtain ⟨KP, g, EX, FB, FP, AG, hi1, hi2, hj, hg⟩ := hP
  have hpi : (pos + i).toInt = pos.toInt + i.toInt := add_toInt rfl rfl (by omega) (by omega)
  show Run p l e _ s m _ below meth c Z _ _ _ _ _ n0 _ hL 0 0 (mkF m 2 #[.val (.ref r0), .val (.long q1), .second, .val (.int i)] [])
  refine Run.iloadN 3 d3_2 rfl ?_
  refine Run.bipush (8 : Int32) 5 d3_3 ?_
  refine Run.ge 38 8 d3_5 (fun hc5 => ?_) (fun hc5 => ?_)
  · exact Run.retV d3_38 ⟨rfl, KP, EX, FB, (by have h8 : i = 8 := (by have w := hc5; rw [lt32] at w; rw [eq32, show (8 : Int32).toInt = 8 from by decide] ; rw [show (8 : Int32).toInt = 8 from by decide] at w; omega); rw [← h8]; exact FP), (AG.cong (fun q hq => by have h8 : i = 8 := (by have w := hc5; rw [lt32] at w; rw [eq32, show (8 : Int32).toInt = 8 from by decide] ; rw [show (8 : Int32).toInt = 8 from by decide] at w; omega); rw [hg q hq, h8]; rfl))⟩
  · refine Run.aloadN 9 d3_8 rfl ?_
    refine Run.getF 12 (Or.inl (hw _ (List.mem_of_getElem? (i := 10) rfl))) (host := "") Via.refl FB d3_9 ?_
    refine Run.aloadN 13 d3_12 rfl ?_
    refine Run.dup 14 d3_13 ?_
    refine Run.getF 17 (Or.inl (hw _ (List.mem_of_getElem? (i := 17) rfl))) (host := "") Via.refl FP d3_14 ?_
    refine Run.dupX1 18 d3_17 ?_
    refine Run.iconst (1 : Int32) 19 d3_18 ?_
    refine Run.iadd ((pos + i) + (1 : Int32)) 20 d3_19 ?_
    refine Run.putF 23 (Or.inl (hw _ (List.mem_of_getElem? (i := 17) rfl))) (host := "") Via.refl FP EX (Or.inl (hw _ (List.mem_of_getElem? (i := 18) rfl))) (hw _ (List.mem_of_getElem? (i := 1) rfl)) (ty := .int) (by decide) pf4 d3_20 (fun h1 W1 => ?_)
    have F1 := FP.same W1
    refine Run.lloadN 24 d3_23 rfl ?_
    refine Run.bipush (8 : Int32) 26 d3_24 ?_
    refine Run.iloadN 27 d3_26 rfl ?_
    refine Run.imul ((8 : Int32) * i) 28 d3_27 ?_
    refine Run.lushr (q1.toUInt64 >>> (((8 : Int32) * i) &&& 0x3f).toInt64.toUInt64).toInt64 29 d3_28 ?_
    refine Run.l2i (q1.toUInt64 >>> (((8 : Int32) * i) &&& 0x3f).toInt64.toUInt64).toInt64.toInt32 30 d3_29 ?_
    obtain ⟨bb, e_bb⟩ : ∃ z, (q1.toUInt64 >>> (((8 : Int32) * i) &&& 0x3f).toInt64.toUInt64).toInt64.toInt32.toInt8.toInt32 = z := ⟨_, rfl⟩
    refine Run.i2b bb 31 d3_30 ?_ e_bb
    have f2 := (AG.other W1 (Ne.symm pf6))
    refine Run.bastore bb 32 f2 ⟨by omega, by have q := hc5; rw [lt32, show (8 : Int32).toInt = 8 from by decide] at q; omega⟩ pf5 d3_31 (fun h3 W3 A3 => ?_) (hv := by rw [← e_bb]; simp [nar])
    refine Run.iinc (i + (1 : Int32)) 35 #[.val (.ref r0), .val (.long q1), .second, .val (.int (i + (1 : Int32)))] d3_32 rfl ?_
    refine Run.goto 2 d3_35 ?_
    have f4 := ((EX.wr W1).wr W3)
    have f5 := ((FB.other W1 (Or.inr (slot_ne (Or.inr (hw _ (List.mem_of_getElem? (i := 11) rfl))) (Or.inl (hw _ (List.mem_of_getElem? (i := 18) rfl))) (by decide) (t := (.array .byte)) (t' := .int) (by decide) (by decide)))).other W3 (Or.inl pf6))
    have f6 := (F1.other W3 (Or.inl pf6))
    have hlt : i.toInt < 8 := by have q := hc5; rw [lt32] at q; exact q
    have hs : (i + 1).toInt = i.toInt + 1 := inc_toInt (by omega)
    have hn : ((pos + i).toNatClampNeg : Int) = (pos + i).toInt := nat32 (by omega)
    have hi : Int32.ofNat (pos + i).toNatClampNeg - pos = i := by rw [eq32]; exact (sub_toInt (b := pos.toInt) (show (Int32.ofNat (pos + i).toNatClampNeg).toInt = pos.toInt + i.toInt from (Int32.toInt_ofNat_small (by omega)).trans (by omega)) rfl (by omega) (by omega)).trans (by omega)
    refine ih (j - 1) (i + 1) _ (by omega) ?_
    try dsimp only
    refine ⟨((KP.wr W1 (Or.inl (List.mem_of_getElem? (i := 0) rfl))).wr W3 (Or.inl (List.mem_of_getElem? (i := 1) rfl))), oupd g (pos + i).toNatClampNeg bb, f4, f5, (by rw [← Int32.add_assoc]; exact f6), A3, by omega, by omega, by omega, fun q hq => ?_⟩
    by_cases hqi : q = (pos + i).toNatClampNeg
    · subst hqi; rw [oupd_same, if_pos (by omega), hi]; exact e_bb.symm
    · rw [oupd_other _ _ hqi, hg q hq]
      by_cases hl : pos.toInt ≤ q ∧ (q : Int) < pos.toInt + i.toInt
      · rw [if_pos hl, if_pos (by omega)]
      · rw [if_neg hl, if_neg (by omega)]
theorem d4_0 : decode prog_103_method_12_code 0 = .ok (.aload_n 0, 1) := by decide +kernel
theorem d4_1 : decode prog_103_method_12_code 1 = .ok (.getfield 46, 3) := by decide +kernel
theorem d4_4 : decode prog_103_method_12_code 4 = .ok (.aload_n 0, 1) := by decide +kernel
theorem d4_5 : decode prog_103_method_12_code 5 = .ok (.getfield 7, 3) := by decide +kernel
theorem d4_8 : decode prog_103_method_12_code 8 = .ok (.arraylength, 1) := by decide +kernel
theorem d4_9 : decode prog_103_method_12_code 9 = .ok (.if_icmp .eq 25, 3) := by decide +kernel
theorem d4_34 : decode prog_103_method_12_code 34 = .ok (.aload_n 0, 1) := by decide +kernel
theorem d4_35 : decode prog_103_method_12_code 35 = .ok (.getfield 7, 3) := by decide +kernel
theorem d4_38 : decode prog_103_method_12_code 38 = .ok (.areturn, 1) := by decide +kernel
theorem ef_rmB (m : MethodId) (x0 : Addr) : entryFrame m #[(.ref x0)] 1 = mkF m 0 #[.val (.ref x0)] [] := by first | (simp [entryFrame, mkF, argsToLocals, Value.category]; done) | rfl
set_option maxRecDepth 65536 in
set_option maxHeartbeats 40000000 in
theorem rmB {l : Launch} {Z : State} {a0 : Array Value} (hw : ∀ d ∈ tables_1, d.before a0 Z = true) (r0 : Addr) (nn : Nat) (xb : Addr) (pos : Int32) (f : Nat → Int32) (h0 : Heap) (n0 : Nat) (Z0 : n0 ≤ h0.size) (pf0 : Fld Z h0 r0 "com/example/tagwire/tagwire/wire/WireWriter" "buffer" "[B" (.ref xb)) (pf1 : Fld Z h0 r0 "com/example/tagwire/tagwire/wire/WireWriter" "position" "I" (.int pos)) (pf2 : AI Z h0 xb .byte nn f) (hpos : pos = Int32.ofNat nn) :
    Pays l Z (⟨"com/example/tagwire/tagwire/wire/WireWriter", "toByteArray", "()[B"⟩ : MethodName) prog_103_method_12_code 1 (some (.array .byte)) ({ frames := 0, cells := 0, slots := 0, locals := 0 } : Room) #[(.ref r0)] h0 n0 (fun v h' => v = some (.ref xb) ∧ h0 = h') := by
  refine Pays.of (ls := #[.val (.ref r0)]) (plainFor_of_name (by first | (simp [plainName, overriddenIn]; done) | decide +kernel)) (fun m => ef_rmB m r0) Z0 (fun p e s m below meth c => ?_)
  refine Run.aloadN 1 d4_0 rfl ?_
  refine Run.getF 4 (Or.inl (hw _ (List.mem_of_getElem? (i := 17) rfl))) (host := "") Via.refl pf1 d4_1 ?_
  refine Run.aloadN 5 d4_4 rfl ?_
  refine Run.getF 8 (Or.inl (hw _ (List.mem_of_getElem? (i := 10) rfl))) (host := "") Via.refl pf0 d4_5 ?_
  refine Run.lenI (Int32.ofNat nn) 9 pf2 d4_8 ?_
  refine Run.eqY 34 d4_9 hpos ?_
  refine Run.aloadN 35 d4_34 rfl ?_
  refine Run.getF 38 (Or.inl (hw _ (List.mem_of_getElem? (i := 10) rfl))) (host := "") Via.refl pf0 d4_35 ?_
  exact Run.retA rfl rfl d4_38 ⟨rfl, rfl⟩
theorem d5_0 : decode method_2_code 0 = .ok (.aload_n 0, 1) := by decide +kernel
theorem d5_1 : decode method_2_code 1 = .ok (.iload_n 1, 1) := by decide +kernel
theorem d5_2 : decode method_2_code 2 = .ok (.baload, 1) := by decide +kernel
theorem d5_3 : decode method_2_code 3 = .ok (.i2l, 1) := by decide +kernel
theorem d5_4 : decode method_2_code 4 = .ok (.ldc2_w 7, 3) := by decide +kernel
theorem d5_7 : decode method_2_code 7 = .ok (.land, 1) := by decide +kernel
theorem d5_8 : decode method_2_code 8 = .ok (.aload_n 0, 1) := by decide +kernel
theorem d5_9 : decode method_2_code 9 = .ok (.iload_n 1, 1) := by decide +kernel
theorem d5_10 : decode method_2_code 10 = .ok (.iconst 1, 1) := by decide +kernel
theorem d5_11 : decode method_2_code 11 = .ok (.iadd, 1) := by decide +kernel
theorem d5_12 : decode method_2_code 12 = .ok (.baload, 1) := by decide +kernel
theorem d5_13 : decode method_2_code 13 = .ok (.i2l, 1) := by decide +kernel
theorem d5_14 : decode method_2_code 14 = .ok (.ldc2_w 7, 3) := by decide +kernel
theorem d5_17 : decode method_2_code 17 = .ok (.land, 1) := by decide +kernel
theorem d5_18 : decode method_2_code 18 = .ok (.bipush 8, 2) := by decide +kernel
theorem d5_20 : decode method_2_code 20 = .ok (.lshl, 1) := by decide +kernel
theorem d5_21 : decode method_2_code 21 = .ok (.lor, 1) := by decide +kernel
theorem d5_22 : decode method_2_code 22 = .ok (.aload_n 0, 1) := by decide +kernel
theorem d5_23 : decode method_2_code 23 = .ok (.iload_n 1, 1) := by decide +kernel
theorem d5_24 : decode method_2_code 24 = .ok (.iconst 2, 1) := by decide +kernel
theorem d5_25 : decode method_2_code 25 = .ok (.iadd, 1) := by decide +kernel
theorem d5_26 : decode method_2_code 26 = .ok (.baload, 1) := by decide +kernel
theorem d5_27 : decode method_2_code 27 = .ok (.i2l, 1) := by decide +kernel
theorem d5_28 : decode method_2_code 28 = .ok (.ldc2_w 7, 3) := by decide +kernel
theorem d5_31 : decode method_2_code 31 = .ok (.land, 1) := by decide +kernel
theorem d5_32 : decode method_2_code 32 = .ok (.bipush 16, 2) := by decide +kernel
theorem d5_34 : decode method_2_code 34 = .ok (.lshl, 1) := by decide +kernel
theorem d5_35 : decode method_2_code 35 = .ok (.lor, 1) := by decide +kernel
theorem d5_36 : decode method_2_code 36 = .ok (.aload_n 0, 1) := by decide +kernel
theorem d5_37 : decode method_2_code 37 = .ok (.iload_n 1, 1) := by decide +kernel
theorem d5_38 : decode method_2_code 38 = .ok (.iconst 3, 1) := by decide +kernel
theorem d5_39 : decode method_2_code 39 = .ok (.iadd, 1) := by decide +kernel
theorem d5_40 : decode method_2_code 40 = .ok (.baload, 1) := by decide +kernel
theorem d5_41 : decode method_2_code 41 = .ok (.i2l, 1) := by decide +kernel
theorem d5_42 : decode method_2_code 42 = .ok (.ldc2_w 7, 3) := by decide +kernel
theorem d5_45 : decode method_2_code 45 = .ok (.land, 1) := by decide +kernel
theorem d5_46 : decode method_2_code 46 = .ok (.bipush 24, 2) := by decide +kernel
theorem d5_48 : decode method_2_code 48 = .ok (.lshl, 1) := by decide +kernel
theorem d5_49 : decode method_2_code 49 = .ok (.lor, 1) := by decide +kernel
theorem d5_50 : decode method_2_code 50 = .ok (.aload_n 0, 1) := by decide +kernel
theorem d5_51 : decode method_2_code 51 = .ok (.iload_n 1, 1) := by decide +kernel
theorem d5_52 : decode method_2_code 52 = .ok (.iconst 4, 1) := by decide +kernel
theorem d5_53 : decode method_2_code 53 = .ok (.iadd, 1) := by decide +kernel
theorem d5_54 : decode method_2_code 54 = .ok (.baload, 1) := by decide +kernel
theorem d5_55 : decode method_2_code 55 = .ok (.i2l, 1) := by decide +kernel
theorem d5_56 : decode method_2_code 56 = .ok (.ldc2_w 7, 3) := by decide +kernel
theorem d5_59 : decode method_2_code 59 = .ok (.land, 1) := by decide +kernel
theorem d5_60 : decode method_2_code 60 = .ok (.bipush 32, 2) := by decide +kernel
theorem d5_62 : decode method_2_code 62 = .ok (.lshl, 1) := by decide +kernel
theorem d5_63 : decode method_2_code 63 = .ok (.lor, 1) := by decide +kernel
theorem d5_64 : decode method_2_code 64 = .ok (.aload_n 0, 1) := by decide +kernel
theorem d5_65 : decode method_2_code 65 = .ok (.iload_n 1, 1) := by decide +kernel
theorem d5_66 : decode method_2_code 66 = .ok (.iconst 5, 1) := by decide +kernel
theorem d5_67 : decode method_2_code 67 = .ok (.iadd, 1) := by decide +kernel
theorem d5_68 : decode method_2_code 68 = .ok (.baload, 1) := by decide +kernel
theorem d5_69 : decode method_2_code 69 = .ok (.i2l, 1) := by decide +kernel
theorem d5_70 : decode method_2_code 70 = .ok (.ldc2_w 7, 3) := by decide +kernel
theorem d5_73 : decode method_2_code 73 = .ok (.land, 1) := by decide +kernel
theorem d5_74 : decode method_2_code 74 = .ok (.bipush 40, 2) := by decide +kernel
theorem d5_76 : decode method_2_code 76 = .ok (.lshl, 1) := by decide +kernel
theorem d5_77 : decode method_2_code 77 = .ok (.lor, 1) := by decide +kernel
theorem d5_78 : decode method_2_code 78 = .ok (.aload_n 0, 1) := by decide +kernel
theorem d5_79 : decode method_2_code 79 = .ok (.iload_n 1, 1) := by decide +kernel
theorem d5_80 : decode method_2_code 80 = .ok (.bipush 6, 2) := by decide +kernel
theorem d5_82 : decode method_2_code 82 = .ok (.iadd, 1) := by decide +kernel
theorem d5_83 : decode method_2_code 83 = .ok (.baload, 1) := by decide +kernel
theorem d5_84 : decode method_2_code 84 = .ok (.i2l, 1) := by decide +kernel
theorem d5_85 : decode method_2_code 85 = .ok (.ldc2_w 7, 3) := by decide +kernel
theorem d5_88 : decode method_2_code 88 = .ok (.land, 1) := by decide +kernel
theorem d5_89 : decode method_2_code 89 = .ok (.bipush 48, 2) := by decide +kernel
theorem d5_91 : decode method_2_code 91 = .ok (.lshl, 1) := by decide +kernel
theorem d5_92 : decode method_2_code 92 = .ok (.lor, 1) := by decide +kernel
theorem d5_93 : decode method_2_code 93 = .ok (.aload_n 0, 1) := by decide +kernel
theorem d5_94 : decode method_2_code 94 = .ok (.iload_n 1, 1) := by decide +kernel
theorem d5_95 : decode method_2_code 95 = .ok (.bipush 7, 2) := by decide +kernel
theorem d5_97 : decode method_2_code 97 = .ok (.iadd, 1) := by decide +kernel
theorem d5_98 : decode method_2_code 98 = .ok (.baload, 1) := by decide +kernel
theorem d5_99 : decode method_2_code 99 = .ok (.i2l, 1) := by decide +kernel
theorem d5_100 : decode method_2_code 100 = .ok (.ldc2_w 7, 3) := by decide +kernel
theorem d5_103 : decode method_2_code 103 = .ok (.land, 1) := by decide +kernel
theorem d5_104 : decode method_2_code 104 = .ok (.bipush 56, 2) := by decide +kernel
theorem d5_106 : decode method_2_code 106 = .ok (.lshl, 1) := by decide +kernel
theorem d5_107 : decode method_2_code 107 = .ok (.lor, 1) := by decide +kernel
theorem d5_108 : decode method_2_code 108 = .ok (.lreturn, 1) := by decide +kernel
def F_rmL (p1 : Int32) (f : Nat → Int32) : Int64 := (((((((((f p1.toNatClampNeg).toInt64 &&& (255 : Int64)) ||| (((f (p1 + (1 : Int32)).toNatClampNeg).toInt64 &&& (255 : Int64)) <<< ((8 : Int32) &&& 0x3f).toInt64)) ||| (((f (p1 + (2 : Int32)).toNatClampNeg).toInt64 &&& (255 : Int64)) <<< ((16 : Int32) &&& 0x3f).toInt64)) ||| (((f (p1 + (3 : Int32)).toNatClampNeg).toInt64 &&& (255 : Int64)) <<< ((24 : Int32) &&& 0x3f).toInt64)) ||| (((f (p1 + (4 : Int32)).toNatClampNeg).toInt64 &&& (255 : Int64)) <<< ((32 : Int32) &&& 0x3f).toInt64)) ||| (((f (p1 + (5 : Int32)).toNatClampNeg).toInt64 &&& (255 : Int64)) <<< ((40 : Int32) &&& 0x3f).toInt64)) ||| (((f (p1 + (6 : Int32)).toNatClampNeg).toInt64 &&& (255 : Int64)) <<< ((48 : Int32) &&& 0x3f).toInt64)) ||| (((f (p1 + (7 : Int32)).toNatClampNeg).toInt64 &&& (255 : Int64)) <<< ((56 : Int32) &&& 0x3f).toInt64))
theorem ef_rmL (m : MethodId) (x0 : Addr) (x1 : Int32) : entryFrame m #[(.ref x0), (.int x1)] 2 = mkF m 0 #[.val (.ref x0), .val (.int x1)] [] := by first | (simp [entryFrame, mkF, argsToLocals, Value.category]; done) | rfl
set_option maxRecDepth 65536 in
set_option maxHeartbeats 40000000 in
theorem rmL {l : Launch} {Z : State} {a0 : Array Value} (hw : ∀ d ∈ tables_1, d.before a0 Z = true) (r1 : Addr) (p1 : Int32) (f : Nat → Int32) (h0 : Heap) (n0 : Nat) (Z0 : n0 ≤ h0.size) (pf0 : AI Z h0 r1 .byte 16 f) (hb : 0 ≤ p1.toInt ∧ p1.toInt + 8 ≤ 16) :
    Pays l Z (⟨"com/example/tagwire/tagwire/wire/WireWriterWriteFixed64PinLaw", "readLe", "([BI)J"⟩ : MethodName) method_2_code 2 (some .long) ({ frames := 0, cells := 0, slots := 0, locals := 0 } : Room) #[(.ref r1), (.int p1)] h0 n0 (fun v h' => v = some (.long (F_rmL p1 f)) ∧ h0 = h') := by
  refine Pays.of (ls := #[.val (.ref r1), .val (.int p1)]) (plainFor_of_name (by first | (simp [plainName, overriddenIn]; done) | decide +kernel)) (fun m => ef_rmL m r1 p1) Z0 (fun p e s m below meth c => ?_)
  refine Run.aloadN 1 d5_0 rfl ?_
  refine Run.iloadN 2 d5_1 rfl ?_
  refine Run.baload (f p1.toNatClampNeg) 3 pf0 ⟨by omega, by omega⟩ d5_2 ?_
  refine Run.i2l (f p1.toNatClampNeg).toInt64 4 d5_3 ?_
  refine Run.ldcJ 7 (hw _ (List.mem_of_getElem? (i := 28) rfl)) d5_4 ?_
  refine Run.land ((f p1.toNatClampNeg).toInt64 &&& (255 : Int64)) 8 d5_7 ?_
  refine Run.aloadN 9 d5_8 rfl ?_
  refine Run.iloadN 10 d5_9 rfl ?_
  refine Run.iconst (1 : Int32) 11 d5_10 ?_
  refine Run.iadd (p1 + (1 : Int32)) 12 d5_11 ?_
  refine Run.baload (f (p1 + (1 : Int32)).toNatClampNeg) 13 pf0 (by rw [add_toInt (x := p1) rfl (show (1 : Int32).toInt = 1 from by decide) (by omega) (by omega)]; omega) d5_12 ?_
  refine Run.i2l (f (p1 + (1 : Int32)).toNatClampNeg).toInt64 14 d5_13 ?_
  refine Run.ldcJ 17 (hw _ (List.mem_of_getElem? (i := 28) rfl)) d5_14 ?_
  refine Run.land ((f (p1 + (1 : Int32)).toNatClampNeg).toInt64 &&& (255 : Int64)) 18 d5_17 ?_
  refine Run.bipush (8 : Int32) 20 d5_18 ?_
  refine Run.lshl (((f (p1 + (1 : Int32)).toNatClampNeg).toInt64 &&& (255 : Int64)) <<< ((8 : Int32) &&& 0x3f).toInt64) 21 d5_20 ?_
  refine Run.lor (((f p1.toNatClampNeg).toInt64 &&& (255 : Int64)) ||| (((f (p1 + (1 : Int32)).toNatClampNeg).toInt64 &&& (255 : Int64)) <<< ((8 : Int32) &&& 0x3f).toInt64)) 22 d5_21 ?_
  refine Run.aloadN 23 d5_22 rfl ?_
  refine Run.iloadN 24 d5_23 rfl ?_
  refine Run.iconst (2 : Int32) 25 d5_24 ?_
  refine Run.iadd (p1 + (2 : Int32)) 26 d5_25 ?_
  refine Run.baload (f (p1 + (2 : Int32)).toNatClampNeg) 27 pf0 (by rw [add_toInt (x := p1) rfl (show (2 : Int32).toInt = 2 from by decide) (by omega) (by omega)]; omega) d5_26 ?_
  refine Run.i2l (f (p1 + (2 : Int32)).toNatClampNeg).toInt64 28 d5_27 ?_
  refine Run.ldcJ 31 (hw _ (List.mem_of_getElem? (i := 28) rfl)) d5_28 ?_
  refine Run.land ((f (p1 + (2 : Int32)).toNatClampNeg).toInt64 &&& (255 : Int64)) 32 d5_31 ?_
  refine Run.bipush (16 : Int32) 34 d5_32 ?_
  refine Run.lshl (((f (p1 + (2 : Int32)).toNatClampNeg).toInt64 &&& (255 : Int64)) <<< ((16 : Int32) &&& 0x3f).toInt64) 35 d5_34 ?_
  refine Run.lor ((((f p1.toNatClampNeg).toInt64 &&& (255 : Int64)) ||| (((f (p1 + (1 : Int32)).toNatClampNeg).toInt64 &&& (255 : Int64)) <<< ((8 : Int32) &&& 0x3f).toInt64)) ||| (((f (p1 + (2 : Int32)).toNatClampNeg).toInt64 &&& (255 : Int64)) <<< ((16 : Int32) &&& 0x3f).toInt64)) 36 d5_35 ?_
  refine Run.aloadN 37 d5_36 rfl ?_
  refine Run.iloadN 38 d5_37 rfl ?_
  refine Run.iconst (3 : Int32) 39 d5_38 ?_
  refine Run.iadd (p1 + (3 : Int32)) 40 d5_39 ?_
  refine Run.baload (f (p1 + (3 : Int32)).toNatClampNeg) 41 pf0 (by rw [add_toInt (x := p1) rfl (show (3 : Int32).toInt = 3 from by decide) (by omega) (by omega)]; omega) d5_40 ?_
  refine Run.i2l (f (p1 + (3 : Int32)).toNatClampNeg).toInt64 42 d5_41 ?_
  refine Run.ldcJ 45 (hw _ (List.mem_of_getElem? (i := 28) rfl)) d5_42 ?_
  refine Run.land ((f (p1 + (3 : Int32)).toNatClampNeg).toInt64 &&& (255 : Int64)) 46 d5_45 ?_
  refine Run.bipush (24 : Int32) 48 d5_46 ?_
  refine Run.lshl (((f (p1 + (3 : Int32)).toNatClampNeg).toInt64 &&& (255 : Int64)) <<< ((24 : Int32) &&& 0x3f).toInt64) 49 d5_48 ?_
  refine Run.lor (((((f p1.toNatClampNeg).toInt64 &&& (255 : Int64)) ||| (((f (p1 + (1 : Int32)).toNatClampNeg).toInt64 &&& (255 : Int64)) <<< ((8 : Int32) &&& 0x3f).toInt64)) ||| (((f (p1 + (2 : Int32)).toNatClampNeg).toInt64 &&& (255 : Int64)) <<< ((16 : Int32) &&& 0x3f).toInt64)) ||| (((f (p1 + (3 : Int32)).toNatClampNeg).toInt64 &&& (255 : Int64)) <<< ((24 : Int32) &&& 0x3f).toInt64)) 50 d5_49 ?_
  refine Run.aloadN 51 d5_50 rfl ?_
  refine Run.iloadN 52 d5_51 rfl ?_
  refine Run.iconst (4 : Int32) 53 d5_52 ?_
  refine Run.iadd (p1 + (4 : Int32)) 54 d5_53 ?_
  refine Run.baload (f (p1 + (4 : Int32)).toNatClampNeg) 55 pf0 (by rw [add_toInt (x := p1) rfl (show (4 : Int32).toInt = 4 from by decide) (by omega) (by omega)]; omega) d5_54 ?_
  refine Run.i2l (f (p1 + (4 : Int32)).toNatClampNeg).toInt64 56 d5_55 ?_
  refine Run.ldcJ 59 (hw _ (List.mem_of_getElem? (i := 28) rfl)) d5_56 ?_
  refine Run.land ((f (p1 + (4 : Int32)).toNatClampNeg).toInt64 &&& (255 : Int64)) 60 d5_59 ?_
  refine Run.bipush (32 : Int32) 62 d5_60 ?_
  refine Run.lshl (((f (p1 + (4 : Int32)).toNatClampNeg).toInt64 &&& (255 : Int64)) <<< ((32 : Int32) &&& 0x3f).toInt64) 63 d5_62 ?_
  refine Run.lor ((((((f p1.toNatClampNeg).toInt64 &&& (255 : Int64)) ||| (((f (p1 + (1 : Int32)).toNatClampNeg).toInt64 &&& (255 : Int64)) <<< ((8 : Int32) &&& 0x3f).toInt64)) ||| (((f (p1 + (2 : Int32)).toNatClampNeg).toInt64 &&& (255 : Int64)) <<< ((16 : Int32) &&& 0x3f).toInt64)) ||| (((f (p1 + (3 : Int32)).toNatClampNeg).toInt64 &&& (255 : Int64)) <<< ((24 : Int32) &&& 0x3f).toInt64)) ||| (((f (p1 + (4 : Int32)).toNatClampNeg).toInt64 &&& (255 : Int64)) <<< ((32 : Int32) &&& 0x3f).toInt64)) 64 d5_63 ?_
  refine Run.aloadN 65 d5_64 rfl ?_
  refine Run.iloadN 66 d5_65 rfl ?_
  refine Run.iconst (5 : Int32) 67 d5_66 ?_
  refine Run.iadd (p1 + (5 : Int32)) 68 d5_67 ?_
  refine Run.baload (f (p1 + (5 : Int32)).toNatClampNeg) 69 pf0 (by rw [add_toInt (x := p1) rfl (show (5 : Int32).toInt = 5 from by decide) (by omega) (by omega)]; omega) d5_68 ?_
  refine Run.i2l (f (p1 + (5 : Int32)).toNatClampNeg).toInt64 70 d5_69 ?_
  refine Run.ldcJ 73 (hw _ (List.mem_of_getElem? (i := 28) rfl)) d5_70 ?_
  refine Run.land ((f (p1 + (5 : Int32)).toNatClampNeg).toInt64 &&& (255 : Int64)) 74 d5_73 ?_
  refine Run.bipush (40 : Int32) 76 d5_74 ?_
  refine Run.lshl (((f (p1 + (5 : Int32)).toNatClampNeg).toInt64 &&& (255 : Int64)) <<< ((40 : Int32) &&& 0x3f).toInt64) 77 d5_76 ?_
  refine Run.lor (((((((f p1.toNatClampNeg).toInt64 &&& (255 : Int64)) ||| (((f (p1 + (1 : Int32)).toNatClampNeg).toInt64 &&& (255 : Int64)) <<< ((8 : Int32) &&& 0x3f).toInt64)) ||| (((f (p1 + (2 : Int32)).toNatClampNeg).toInt64 &&& (255 : Int64)) <<< ((16 : Int32) &&& 0x3f).toInt64)) ||| (((f (p1 + (3 : Int32)).toNatClampNeg).toInt64 &&& (255 : Int64)) <<< ((24 : Int32) &&& 0x3f).toInt64)) ||| (((f (p1 + (4 : Int32)).toNatClampNeg).toInt64 &&& (255 : Int64)) <<< ((32 : Int32) &&& 0x3f).toInt64)) ||| (((f (p1 + (5 : Int32)).toNatClampNeg).toInt64 &&& (255 : Int64)) <<< ((40 : Int32) &&& 0x3f).toInt64)) 78 d5_77 ?_
  refine Run.aloadN 79 d5_78 rfl ?_
  refine Run.iloadN 80 d5_79 rfl ?_
  refine Run.bipush (6 : Int32) 82 d5_80 ?_
  refine Run.iadd (p1 + (6 : Int32)) 83 d5_82 ?_
  refine Run.baload (f (p1 + (6 : Int32)).toNatClampNeg) 84 pf0 (by rw [add_toInt (x := p1) rfl (show (6 : Int32).toInt = 6 from by decide) (by omega) (by omega)]; omega) d5_83 ?_
  refine Run.i2l (f (p1 + (6 : Int32)).toNatClampNeg).toInt64 85 d5_84 ?_
  refine Run.ldcJ 88 (hw _ (List.mem_of_getElem? (i := 28) rfl)) d5_85 ?_
  refine Run.land ((f (p1 + (6 : Int32)).toNatClampNeg).toInt64 &&& (255 : Int64)) 89 d5_88 ?_
  refine Run.bipush (48 : Int32) 91 d5_89 ?_
  refine Run.lshl (((f (p1 + (6 : Int32)).toNatClampNeg).toInt64 &&& (255 : Int64)) <<< ((48 : Int32) &&& 0x3f).toInt64) 92 d5_91 ?_
  refine Run.lor ((((((((f p1.toNatClampNeg).toInt64 &&& (255 : Int64)) ||| (((f (p1 + (1 : Int32)).toNatClampNeg).toInt64 &&& (255 : Int64)) <<< ((8 : Int32) &&& 0x3f).toInt64)) ||| (((f (p1 + (2 : Int32)).toNatClampNeg).toInt64 &&& (255 : Int64)) <<< ((16 : Int32) &&& 0x3f).toInt64)) ||| (((f (p1 + (3 : Int32)).toNatClampNeg).toInt64 &&& (255 : Int64)) <<< ((24 : Int32) &&& 0x3f).toInt64)) ||| (((f (p1 + (4 : Int32)).toNatClampNeg).toInt64 &&& (255 : Int64)) <<< ((32 : Int32) &&& 0x3f).toInt64)) ||| (((f (p1 + (5 : Int32)).toNatClampNeg).toInt64 &&& (255 : Int64)) <<< ((40 : Int32) &&& 0x3f).toInt64)) ||| (((f (p1 + (6 : Int32)).toNatClampNeg).toInt64 &&& (255 : Int64)) <<< ((48 : Int32) &&& 0x3f).toInt64)) 93 d5_92 ?_
  refine Run.aloadN 94 d5_93 rfl ?_
  refine Run.iloadN 95 d5_94 rfl ?_
  refine Run.bipush (7 : Int32) 97 d5_95 ?_
  refine Run.iadd (p1 + (7 : Int32)) 98 d5_97 ?_
  refine Run.baload (f (p1 + (7 : Int32)).toNatClampNeg) 99 pf0 (by rw [add_toInt (x := p1) rfl (show (7 : Int32).toInt = 7 from by decide) (by omega) (by omega)]; omega) d5_98 ?_
  refine Run.i2l (f (p1 + (7 : Int32)).toNatClampNeg).toInt64 100 d5_99 ?_
  refine Run.ldcJ 103 (hw _ (List.mem_of_getElem? (i := 28) rfl)) d5_100 ?_
  refine Run.land ((f (p1 + (7 : Int32)).toNatClampNeg).toInt64 &&& (255 : Int64)) 104 d5_103 ?_
  refine Run.bipush (56 : Int32) 106 d5_104 ?_
  refine Run.lshl (((f (p1 + (7 : Int32)).toNatClampNeg).toInt64 &&& (255 : Int64)) <<< ((56 : Int32) &&& 0x3f).toInt64) 107 d5_106 ?_
  refine Run.lor (((((((((f p1.toNatClampNeg).toInt64 &&& (255 : Int64)) ||| (((f (p1 + (1 : Int32)).toNatClampNeg).toInt64 &&& (255 : Int64)) <<< ((8 : Int32) &&& 0x3f).toInt64)) ||| (((f (p1 + (2 : Int32)).toNatClampNeg).toInt64 &&& (255 : Int64)) <<< ((16 : Int32) &&& 0x3f).toInt64)) ||| (((f (p1 + (3 : Int32)).toNatClampNeg).toInt64 &&& (255 : Int64)) <<< ((24 : Int32) &&& 0x3f).toInt64)) ||| (((f (p1 + (4 : Int32)).toNatClampNeg).toInt64 &&& (255 : Int64)) <<< ((32 : Int32) &&& 0x3f).toInt64)) ||| (((f (p1 + (5 : Int32)).toNatClampNeg).toInt64 &&& (255 : Int64)) <<< ((40 : Int32) &&& 0x3f).toInt64)) ||| (((f (p1 + (6 : Int32)).toNatClampNeg).toInt64 &&& (255 : Int64)) <<< ((48 : Int32) &&& 0x3f).toInt64)) ||| (((f (p1 + (7 : Int32)).toNatClampNeg).toInt64 &&& (255 : Int64)) <<< ((56 : Int32) &&& 0x3f).toInt64)) 108 d5_107 ?_
  exact Run.retJ d5_108 ⟨congrArg some (congrArg Value.long (by unfold F_rmL; rfl)), rfl⟩
set_option maxRecDepth 10000 in
set_option maxHeartbeats 4000000 in
theorem own_rd (x : Int64) (w0 w1 w2 w3 w4 w5 w6 w7 : Int64) (h0 : w0.toInt = (x.toInt % 18446744073709551616) / 1 % 256) (h1 : w1.toInt = (x.toInt % 18446744073709551616) / 256 % 256) (h2 : w2.toInt = (x.toInt % 18446744073709551616) / 65536 % 256) (h3 : w3.toInt = (x.toInt % 18446744073709551616) / 16777216 % 256) (h4 : w4.toInt = (x.toInt % 18446744073709551616) / 4294967296 % 256) (h5 : w5.toInt = (x.toInt % 18446744073709551616) / 1099511627776 % 256) (h6 : w6.toInt = (x.toInt % 18446744073709551616) / 281474976710656 % 256) (h7 : w7.toInt = (x.toInt % 18446744073709551616) / 72057594037927936 % 256) : (((((((w0 ||| (w1 <<< ((8 : Int32) &&& 0x3f).toInt64)) ||| (w2 <<< ((16 : Int32) &&& 0x3f).toInt64)) ||| (w3 <<< ((24 : Int32) &&& 0x3f).toInt64)) ||| (w4 <<< ((32 : Int32) &&& 0x3f).toInt64)) ||| (w5 <<< ((40 : Int32) &&& 0x3f).toInt64)) ||| (w6 <<< ((48 : Int32) &&& 0x3f).toInt64)) ||| (w7 <<< ((56 : Int32) &&& 0x3f).toInt64)) = x := by
  have hx := rng64 x
  have t0 : w0.toInt = (x.toInt % 18446744073709551616) % 256 := by omega
  have s1 := c_lshl w1 8 8 (by decide)
  simp only [show ((2 ^ 8 : Nat) : Int) = 256 from rfl] at s1
  have q1 := rng64 (w1 <<< ((8 : Int32) &&& 0x3f).toInt64)
  have o1 := c_orL' w0 (w1 <<< ((8 : Int32) &&& 0x3f).toInt64) 8 (by decide) 256 (by decide) (by omega) (by omega) (by omega)
  have r1 := rng64 (w0 ||| (w1 <<< ((8 : Int32) &&& 0x3f).toInt64))
  have t1 : (w0 ||| (w1 <<< ((8 : Int32) &&& 0x3f).toInt64)).toInt = (x.toInt % 18446744073709551616) % 65536 := by omega
  have s2 := c_lshl w2 16 16 (by decide)
  simp only [show ((2 ^ 16 : Nat) : Int) = 65536 from rfl] at s2
  have q2 := rng64 (w2 <<< ((16 : Int32) &&& 0x3f).toInt64)
  have o2 := c_orL' (w0 ||| (w1 <<< ((8 : Int32) &&& 0x3f).toInt64)) (w2 <<< ((16 : Int32) &&& 0x3f).toInt64) 16 (by decide) 65536 (by decide) (by omega) (by omega) (by omega)
  have r2 := rng64 ((w0 ||| (w1 <<< ((8 : Int32) &&& 0x3f).toInt64)) ||| (w2 <<< ((16 : Int32) &&& 0x3f).toInt64))
  have t2 : ((w0 ||| (w1 <<< ((8 : Int32) &&& 0x3f).toInt64)) ||| (w2 <<< ((16 : Int32) &&& 0x3f).toInt64)).toInt = (x.toInt % 18446744073709551616) % 16777216 := by omega
  have s3 := c_lshl w3 24 24 (by decide)
  simp only [show ((2 ^ 24 : Nat) : Int) = 16777216 from rfl] at s3
  have q3 := rng64 (w3 <<< ((24 : Int32) &&& 0x3f).toInt64)
  have o3 := c_orL' ((w0 ||| (w1 <<< ((8 : Int32) &&& 0x3f).toInt64)) ||| (w2 <<< ((16 : Int32) &&& 0x3f).toInt64)) (w3 <<< ((24 : Int32) &&& 0x3f).toInt64) 24 (by decide) 16777216 (by decide) (by omega) (by omega) (by omega)
  have r3 := rng64 (((w0 ||| (w1 <<< ((8 : Int32) &&& 0x3f).toInt64)) ||| (w2 <<< ((16 : Int32) &&& 0x3f).toInt64)) ||| (w3 <<< ((24 : Int32) &&& 0x3f).toInt64))
  have t3 : (((w0 ||| (w1 <<< ((8 : Int32) &&& 0x3f).toInt64)) ||| (w2 <<< ((16 : Int32) &&& 0x3f).toInt64)) ||| (w3 <<< ((24 : Int32) &&& 0x3f).toInt64)).toInt = (x.toInt % 18446744073709551616) % 4294967296 := by omega
  have s4 := c_lshl w4 32 32 (by decide)
  simp only [show ((2 ^ 32 : Nat) : Int) = 4294967296 from rfl] at s4
  have q4 := rng64 (w4 <<< ((32 : Int32) &&& 0x3f).toInt64)
  have o4 := c_orL' (((w0 ||| (w1 <<< ((8 : Int32) &&& 0x3f).toInt64)) ||| (w2 <<< ((16 : Int32) &&& 0x3f).toInt64)) ||| (w3 <<< ((24 : Int32) &&& 0x3f).toInt64)) (w4 <<< ((32 : Int32) &&& 0x3f).toInt64) 32 (by decide) 4294967296 (by decide) (by omega) (by omega) (by omega)
  have r4 := rng64 ((((w0 ||| (w1 <<< ((8 : Int32) &&& 0x3f).toInt64)) ||| (w2 <<< ((16 : Int32) &&& 0x3f).toInt64)) ||| (w3 <<< ((24 : Int32) &&& 0x3f).toInt64)) ||| (w4 <<< ((32 : Int32) &&& 0x3f).toInt64))
  have t4 : ((((w0 ||| (w1 <<< ((8 : Int32) &&& 0x3f).toInt64)) ||| (w2 <<< ((16 : Int32) &&& 0x3f).toInt64)) ||| (w3 <<< ((24 : Int32) &&& 0x3f).toInt64)) ||| (w4 <<< ((32 : Int32) &&& 0x3f).toInt64)).toInt = (x.toInt % 18446744073709551616) % 1099511627776 := by omega
  have s5 := c_lshl w5 40 40 (by decide)
  simp only [show ((2 ^ 40 : Nat) : Int) = 1099511627776 from rfl] at s5
  have q5 := rng64 (w5 <<< ((40 : Int32) &&& 0x3f).toInt64)
  have o5 := c_orL' ((((w0 ||| (w1 <<< ((8 : Int32) &&& 0x3f).toInt64)) ||| (w2 <<< ((16 : Int32) &&& 0x3f).toInt64)) ||| (w3 <<< ((24 : Int32) &&& 0x3f).toInt64)) ||| (w4 <<< ((32 : Int32) &&& 0x3f).toInt64)) (w5 <<< ((40 : Int32) &&& 0x3f).toInt64) 40 (by decide) 1099511627776 (by decide) (by omega) (by omega) (by omega)
  have r5 := rng64 (((((w0 ||| (w1 <<< ((8 : Int32) &&& 0x3f).toInt64)) ||| (w2 <<< ((16 : Int32) &&& 0x3f).toInt64)) ||| (w3 <<< ((24 : Int32) &&& 0x3f).toInt64)) ||| (w4 <<< ((32 : Int32) &&& 0x3f).toInt64)) ||| (w5 <<< ((40 : Int32) &&& 0x3f).toInt64))
  have t5 : (((((w0 ||| (w1 <<< ((8 : Int32) &&& 0x3f).toInt64)) ||| (w2 <<< ((16 : Int32) &&& 0x3f).toInt64)) ||| (w3 <<< ((24 : Int32) &&& 0x3f).toInt64)) ||| (w4 <<< ((32 : Int32) &&& 0x3f).toInt64)) ||| (w5 <<< ((40 : Int32) &&& 0x3f).toInt64)).toInt = (x.toInt % 18446744073709551616) % 281474976710656 := by omega
  have s6 := c_lshl w6 48 48 (by decide)
  simp only [show ((2 ^ 48 : Nat) : Int) = 281474976710656 from rfl] at s6
  have q6 := rng64 (w6 <<< ((48 : Int32) &&& 0x3f).toInt64)
  have o6 := c_orL' (((((w0 ||| (w1 <<< ((8 : Int32) &&& 0x3f).toInt64)) ||| (w2 <<< ((16 : Int32) &&& 0x3f).toInt64)) ||| (w3 <<< ((24 : Int32) &&& 0x3f).toInt64)) ||| (w4 <<< ((32 : Int32) &&& 0x3f).toInt64)) ||| (w5 <<< ((40 : Int32) &&& 0x3f).toInt64)) (w6 <<< ((48 : Int32) &&& 0x3f).toInt64) 48 (by decide) 281474976710656 (by decide) (by omega) (by omega) (by omega)
  have r6 := rng64 ((((((w0 ||| (w1 <<< ((8 : Int32) &&& 0x3f).toInt64)) ||| (w2 <<< ((16 : Int32) &&& 0x3f).toInt64)) ||| (w3 <<< ((24 : Int32) &&& 0x3f).toInt64)) ||| (w4 <<< ((32 : Int32) &&& 0x3f).toInt64)) ||| (w5 <<< ((40 : Int32) &&& 0x3f).toInt64)) ||| (w6 <<< ((48 : Int32) &&& 0x3f).toInt64))
  have t6 : ((((((w0 ||| (w1 <<< ((8 : Int32) &&& 0x3f).toInt64)) ||| (w2 <<< ((16 : Int32) &&& 0x3f).toInt64)) ||| (w3 <<< ((24 : Int32) &&& 0x3f).toInt64)) ||| (w4 <<< ((32 : Int32) &&& 0x3f).toInt64)) ||| (w5 <<< ((40 : Int32) &&& 0x3f).toInt64)) ||| (w6 <<< ((48 : Int32) &&& 0x3f).toInt64)).toInt = (x.toInt % 18446744073709551616) % 72057594037927936 := by omega
  have s7 := c_lshl w7 56 56 (by decide)
  simp only [show ((2 ^ 56 : Nat) : Int) = 72057594037927936 from rfl] at s7
  have q7 := rng64 (w7 <<< ((56 : Int32) &&& 0x3f).toInt64)
  have o7 := c_orL' ((((((w0 ||| (w1 <<< ((8 : Int32) &&& 0x3f).toInt64)) ||| (w2 <<< ((16 : Int32) &&& 0x3f).toInt64)) ||| (w3 <<< ((24 : Int32) &&& 0x3f).toInt64)) ||| (w4 <<< ((32 : Int32) &&& 0x3f).toInt64)) ||| (w5 <<< ((40 : Int32) &&& 0x3f).toInt64)) ||| (w6 <<< ((48 : Int32) &&& 0x3f).toInt64)) (w7 <<< ((56 : Int32) &&& 0x3f).toInt64) 56 (by decide) 72057594037927936 (by decide) (by omega) (by omega) (by omega)
  have r7 := rng64 (((((((w0 ||| (w1 <<< ((8 : Int32) &&& 0x3f).toInt64)) ||| (w2 <<< ((16 : Int32) &&& 0x3f).toInt64)) ||| (w3 <<< ((24 : Int32) &&& 0x3f).toInt64)) ||| (w4 <<< ((32 : Int32) &&& 0x3f).toInt64)) ||| (w5 <<< ((40 : Int32) &&& 0x3f).toInt64)) ||| (w6 <<< ((48 : Int32) &&& 0x3f).toInt64)) ||| (w7 <<< ((56 : Int32) &&& 0x3f).toInt64))
  rw [eq64]; omega
theorem own_by (x : Int64) (k : Nat) (i : Int32) (hk : k ≤ 7) (hi : i.toInt = k) : ((own_b8 x i).toInt64 &&& 255).toInt = (x.toInt % 18446744073709551616) / ((256 ^ k : Nat) : Int) % 256 := by
  rw [c_maskL (own_b8 x i).toInt64 255 8 (by decide) (by decide), c_i2l]
  show (own_b8 x i).toInt % 256 = _
  unfold own_b8
  have hc : i = 0 ∨ i = 1 ∨ i = 2 ∨ i = 3 ∨ i = 4 ∨ i = 5 ∨ i = 6 ∨ i = 7 := by
    simp only [eq32, show (0 : Int32).toInt = 0 from by decide, show (1 : Int32).toInt = 1 from by decide, show (2 : Int32).toInt = 2 from by decide, show (3 : Int32).toInt = 3 from by decide, show (4 : Int32).toInt = 4 from by decide, show (5 : Int32).toInt = 5 from by decide, show (6 : Int32).toInt = 6 from by decide, show (7 : Int32).toInt = 7 from by decide]; omega
  rcases hc with rfl | rfl | rfl | rfl | rfl | rfl | rfl | rfl
  · have e : k = 0 := by rw [show (0 : Int32).toInt = 0 from by decide] at hi; omega
    subst e
    have e0 : (x.toUInt64 >>> (((8 : Int32) * 0) &&& 0x3f).toInt64.toUInt64).toInt64 = x := by rw [show (((8 : Int32) * 0) &&& 0x3f).toInt64.toUInt64 = 0 from by decide]; simp
    rw [e0]
    have h1 := c_i2b x.toInt32; have h2 := c_l2i x
    simp only [show ((256 ^ 0 : Nat) : Int) = 1 from rfl]; omega
  · have e : k = 1 := by rw [show (1 : Int32).toInt = 1 from by decide] at hi; omega
    subst e
    have h0 := c_lushr x ((8 : Int32) * 1) 8 (by decide) (by decide)
    have h1 := c_i2b (x.toUInt64 >>> (((8 : Int32) * 1) &&& 0x3f).toInt64.toUInt64).toInt64.toInt32; have h2 := c_l2i (x.toUInt64 >>> (((8 : Int32) * 1) &&& 0x3f).toInt64.toUInt64).toInt64
    simp only [show ((2 ^ 8 : Nat) : Int) = 256 from rfl] at h0; simp only [show ((256 ^ 1 : Nat) : Int) = 256 from rfl]; omega
  · have e : k = 2 := by rw [show (2 : Int32).toInt = 2 from by decide] at hi; omega
    subst e
    have h0 := c_lushr x ((8 : Int32) * 2) 16 (by decide) (by decide)
    have h1 := c_i2b (x.toUInt64 >>> (((8 : Int32) * 2) &&& 0x3f).toInt64.toUInt64).toInt64.toInt32; have h2 := c_l2i (x.toUInt64 >>> (((8 : Int32) * 2) &&& 0x3f).toInt64.toUInt64).toInt64
    simp only [show ((2 ^ 16 : Nat) : Int) = 65536 from rfl] at h0; simp only [show ((256 ^ 2 : Nat) : Int) = 65536 from rfl]; omega
  · have e : k = 3 := by rw [show (3 : Int32).toInt = 3 from by decide] at hi; omega
    subst e
    have h0 := c_lushr x ((8 : Int32) * 3) 24 (by decide) (by decide)
    have h1 := c_i2b (x.toUInt64 >>> (((8 : Int32) * 3) &&& 0x3f).toInt64.toUInt64).toInt64.toInt32; have h2 := c_l2i (x.toUInt64 >>> (((8 : Int32) * 3) &&& 0x3f).toInt64.toUInt64).toInt64
    simp only [show ((2 ^ 24 : Nat) : Int) = 16777216 from rfl] at h0; simp only [show ((256 ^ 3 : Nat) : Int) = 16777216 from rfl]; omega
  · have e : k = 4 := by rw [show (4 : Int32).toInt = 4 from by decide] at hi; omega
    subst e
    have h0 := c_lushr x ((8 : Int32) * 4) 32 (by decide) (by decide)
    have h1 := c_i2b (x.toUInt64 >>> (((8 : Int32) * 4) &&& 0x3f).toInt64.toUInt64).toInt64.toInt32; have h2 := c_l2i (x.toUInt64 >>> (((8 : Int32) * 4) &&& 0x3f).toInt64.toUInt64).toInt64
    simp only [show ((2 ^ 32 : Nat) : Int) = 4294967296 from rfl] at h0; simp only [show ((256 ^ 4 : Nat) : Int) = 4294967296 from rfl]; omega
  · have e : k = 5 := by rw [show (5 : Int32).toInt = 5 from by decide] at hi; omega
    subst e
    have h0 := c_lushr x ((8 : Int32) * 5) 40 (by decide) (by decide)
    have h1 := c_i2b (x.toUInt64 >>> (((8 : Int32) * 5) &&& 0x3f).toInt64.toUInt64).toInt64.toInt32; have h2 := c_l2i (x.toUInt64 >>> (((8 : Int32) * 5) &&& 0x3f).toInt64.toUInt64).toInt64
    simp only [show ((2 ^ 40 : Nat) : Int) = 1099511627776 from rfl] at h0; simp only [show ((256 ^ 5 : Nat) : Int) = 1099511627776 from rfl]; omega
  · have e : k = 6 := by rw [show (6 : Int32).toInt = 6 from by decide] at hi; omega
    subst e
    have h0 := c_lushr x ((8 : Int32) * 6) 48 (by decide) (by decide)
    have h1 := c_i2b (x.toUInt64 >>> (((8 : Int32) * 6) &&& 0x3f).toInt64.toUInt64).toInt64.toInt32; have h2 := c_l2i (x.toUInt64 >>> (((8 : Int32) * 6) &&& 0x3f).toInt64.toUInt64).toInt64
    simp only [show ((2 ^ 48 : Nat) : Int) = 281474976710656 from rfl] at h0; simp only [show ((256 ^ 6 : Nat) : Int) = 281474976710656 from rfl]; omega
  · have e : k = 7 := by rw [show (7 : Int32).toInt = 7 from by decide] at hi; omega
    subst e
    have h0 := c_lushr x ((8 : Int32) * 7) 56 (by decide) (by decide)
    have h1 := c_i2b (x.toUInt64 >>> (((8 : Int32) * 7) &&& 0x3f).toInt64.toUInt64).toInt64.toInt32; have h2 := c_l2i (x.toUInt64 >>> (((8 : Int32) * 7) &&& 0x3f).toInt64.toUInt64).toInt64
    simp only [show ((2 ^ 56 : Nat) : Int) = 72057594037927936 from rfl] at h0; simp only [show ((256 ^ 7 : Nat) : Int) = 72057594037927936 from rfl]; omega
theorem own_le (x : Int64) (p : Int32) (f : Nat → Int32) (g0 : f (p).toNatClampNeg = own_b8 x 0) (g1 : f (p + 1).toNatClampNeg = own_b8 x 1) (g2 : f (p + 2).toNatClampNeg = own_b8 x 2) (g3 : f (p + 3).toNatClampNeg = own_b8 x 3) (g4 : f (p + 4).toNatClampNeg = own_b8 x 4) (g5 : f (p + 5).toNatClampNeg = own_b8 x 5) (g6 : f (p + 6).toNatClampNeg = own_b8 x 6) (g7 : f (p + 7).toNatClampNeg = own_b8 x 7) : F_rmL p f = x := by
  unfold F_rmL; rw [g0, g1, g2, g3, g4, g5, g6, g7]
  exact own_rd x _ _ _ _ _ _ _ _ (by have z := own_by x 0 0 (by decide) (by decide); simpa using z) (by have z := own_by x 1 1 (by decide) (by decide); simpa using z) (by have z := own_by x 2 2 (by decide) (by decide); simpa using z) (by have z := own_by x 3 3 (by decide) (by decide); simpa using z) (by have z := own_by x 4 4 (by decide) (by decide); simpa using z) (by have z := own_by x 5 5 (by decide) (by decide); simpa using z) (by have z := own_by x 6 6 (by decide) (by decide); simpa using z) (by have z := own_by x 7 7 (by decide) (by decide); simpa using z)
theorem own_at1 (a b : Int64) (k : Nat) (w : Int32) (hw : Int32.ofNat k - 0 = w) (hk : k < 8) (j : Nat) (hj : j = k) : own_w8 (own_w8 (fun _ => 0) 0 a) ((0 : Int32) + 8) b j = own_b8 a w := by
  subst hj; unfold own_w8
  rw [if_neg, if_pos, hw]
  · exact ⟨by rw [show (0 : Int32).toInt = 0 from by decide]; omega, by rw [show (0 : Int32).toInt = 0 from by decide, show (8 : Int32).toInt = 8 from by decide]; omega⟩
  · rw [show ((0 : Int32) + 8).toInt = 8 from by decide]; omega
theorem own_at2 (a b : Int64) (k : Nat) (w : Int32) (hw : Int32.ofNat (8 + k) - ((0 : Int32) + 8) = w) (hk : k < 8) (j : Nat) (hj : j = 8 + k) : own_w8 (own_w8 (fun _ => 0) 0 a) ((0 : Int32) + 8) b j = own_b8 b w := by
  subst hj; unfold own_w8
  rw [if_pos, hw]
  rw [show ((0 : Int32) + 8).toInt = 8 from by decide, show (8 : Int32).toInt = 8 from by decide]; omega
theorem pd_0 : parseMethodDescriptor "(I)V" = some ⟨[.int], none⟩ := by decide +kernel
theorem pd_1 : parseMethodDescriptor "(J)V" = some ⟨[.long], none⟩ := by decide +kernel
theorem pd_2 : parseMethodDescriptor "()[B" = some ⟨[], some (.array .byte)⟩ := by decide +kernel
theorem pd_3 : parseMethodDescriptor "([BI)J" = some ⟨[(.array .byte), .int], some .long⟩ := by decide +kernel
theorem ef_rm0 (m : MethodId) (x0 : Int64) (x1 : Int64) : entryFrame m #[(.long x0), (.long x1)] maxLocals = mkF m 0 #[.val (.long x0), .second, .val (.long x1), .second, .unset, .unset] [] := by first | (simp [entryFrame, mkF, argsToLocals, Value.category, maxLocals]; done) | rfl
set_option maxRecDepth 65536 in
set_option maxHeartbeats 40000000 in
theorem rm0 {l : Launch} {Z : State} {a0 : Array Value} (hw : ∀ d ∈ tables_1, d.before a0 Z = true) (q0 : Int64) (q1 : Int64) (h0 : Heap) (n0 : Nat) (Z0 : n0 ≤ h0.size) :
    Pays l Z x code maxLocals ret room_1 #[(.long q0), (.long q1)] h0 n0 (fun v _ => v = some (.int 1) ∧ True) := by
  refine Pays.of (ls := #[.val (.long q0), .second, .val (.long q1), .second, .unset, .unset]) (plainFor_of_name (by first | (simp [plainName, overriddenIn]; done) | decide +kernel)) (fun m => ef_rm0 m q0 q1) Z0 (fun p e s m below meth c => ?_)
  show Run p l e _ s m _ below meth c Z "com/example/tagwire/tagwire/wire/WireWriterWriteFixed64PinLaw" "law" code 6 (some .boolean) n0 (EndN s n0 _ 16 128) h0 0 0 (mkF m 0 #[.val (.long q0), .second, .val (.long q1), .second, .unset, .unset] [])
  refine Run.new 3 (hw _ (List.mem_of_getElem? (i := 0) rfl)) (hw _ (List.mem_of_getElem? (i := 1) rfl)) (hw _ (List.mem_of_getElem? (i := 2) rfl)) at_0 (fun h1 ob1 g1 u1 E1 A1 D1 => ?_)
  have F_buffer_ob1 : Fld Z h1 ob1 "com/example/tagwire/tagwire/wire/WireWriter" "buffer" "[B" .null := D1 (Or.inr (hw _ (List.mem_of_getElem? (i := 11) rfl))) (ty := (.array .byte)) (by decide)
  have F_position_ob1 : Fld Z h1 ob1 "com/example/tagwire/tagwire/wire/WireWriter" "position" "I" (.int (0 : Int32)) := D1 (Or.inl (hw _ (List.mem_of_getElem? (i := 18) rfl))) (ty := .int) (by decide)
  show Run p l e _ s m _ below meth c Z _ _ _ _ _ n0 _ h1 1 2 (mkF m 3 #[.val (.long q0), .second, .val (.long q1), .second, .unset, .unset] [(.ref ob1)])
  refine Run.dup 4 at_3 ?_
  refine Run.bipush (16 : Int32) 6 at_4 ?_
  refine Run.sz fun hsz_h1 => ?_
  refine Run.callC 9 1 (a := ob1) (argsL := [(.int (16 : Int32))]) (st := [(.ref ob1)]) (rmI hw ob1 (16 : Int32) 16 h1 n0 hsz_h1 A1 F_buffer_ob1 F_position_ob1 u1 (by decide) (by decide)) (hw _ (List.mem_of_getElem? (i := 3) rfl)) (hw _ (List.mem_of_getElem? (i := 4) rfl)) (hw _ (List.mem_of_getElem? (i := 2) rfl)) (hw _ (List.mem_of_getElem? (i := 5) rfl)) pd_0 at_6 (fun v2 h2 => ?_)
  rintro ⟨xb_2, rfl, K2, sz_xb_2, G2_0, G2_1, G2_2, G2_3⟩
  have ne_ob1_xb_2 : ob1 ≠ xb_2 := Nat.ne_of_lt (Nat.lt_of_lt_of_le A1.lt sz_xb_2)
  have u_xb_2 : n0 ≤ xb_2 := Nat.le_trans hsz_h1 sz_xb_2
  show Run p l e _ s m _ below meth c Z _ _ _ _ _ n0 _ h2 2 18 (mkF m 9 #[.val (.long q0), .second, .val (.long q1), .second, .unset, .unset] [(.ref ob1)])
  refine Run.astore 11 #[.val (.long q0), .second, .val (.long q1), .second, .val (.ref ob1), .unset] at_9 ?_
  refine Run.aload 13 at_11 rfl ?_
  refine Run.lloadN 14 at_13 rfl ?_
  refine Run.sz fun hsz_h2 => ?_
  refine Run.callV 17 0 (a := ob1) (argsL := [(.long q0)]) (st := []) (rmW hw ob1 q0 16 xb_2 (0 : Int32) (fun _ => 0) h2 n0 hsz_h2 G2_0 G2_2 G2_1 G2_3 u1 u_xb_2 ne_ob1_xb_2 (by decide)) G2_0 (hw _ (List.mem_of_getElem? (i := 12) rfl)) (hw _ (List.mem_of_getElem? (i := 13) rfl)) (hw _ (List.mem_of_getElem? (i := 15) rfl)) (hw _ (List.mem_of_getElem? (i := 14) rfl)) (hw _ (List.mem_of_getElem? (i := 2) rfl)) (hw _ (List.mem_of_getElem? (i := 16) rfl)) pd_1 at_14 (fun v3 h3 => ?_)
  rintro ⟨rfl, K3, G3_0, G3_1, G3_2, G3_3⟩
  show Run p l e _ s m _ below meth c Z _ _ _ _ _ n0 _ h3 2 18 (mkF m 17 #[.val (.long q0), .second, .val (.long q1), .second, .val (.ref ob1), .unset] [])
  refine Run.aload 19 at_17 rfl ?_
  refine Run.lloadN 20 at_19 rfl ?_
  refine Run.sz fun hsz_h3 => ?_
  refine Run.callV 23 0 (a := ob1) (argsL := [(.long q1)]) (st := []) (rmW hw ob1 q1 16 xb_2 ((0 : Int32) + 8) (own_w8 (fun _ => 0) (0 : Int32) q0) h3 n0 hsz_h3 G3_0 G3_1 G3_2 G3_3 u1 u_xb_2 ne_ob1_xb_2 (by decide)) G3_0 (hw _ (List.mem_of_getElem? (i := 12) rfl)) (hw _ (List.mem_of_getElem? (i := 13) rfl)) (hw _ (List.mem_of_getElem? (i := 15) rfl)) (hw _ (List.mem_of_getElem? (i := 14) rfl)) (hw _ (List.mem_of_getElem? (i := 2) rfl)) (hw _ (List.mem_of_getElem? (i := 16) rfl)) pd_1 at_20 (fun v4 h4 => ?_)
  rintro ⟨rfl, K4, G4_0, G4_1, G4_2, G4_3⟩
  show Run p l e _ s m _ below meth c Z _ _ _ _ _ n0 _ h4 2 18 (mkF m 23 #[.val (.long q0), .second, .val (.long q1), .second, .val (.ref ob1), .unset] [])
  refine Run.aload 25 at_23 rfl ?_
  refine Run.sz fun hsz_h4 => ?_
  refine Run.callV 28 0 (a := ob1) (argsL := []) (st := []) (rmB hw ob1 16 xb_2 (((0 : Int32) + 8) + 8) (own_w8 (own_w8 (fun _ => 0) (0 : Int32) q0) ((0 : Int32) + 8) q1) h4 n0 hsz_h4 G4_1 G4_2 G4_3 (by decide)) G4_0 (hw _ (List.mem_of_getElem? (i := 19) rfl)) (hw _ (List.mem_of_getElem? (i := 20) rfl)) (hw _ (List.mem_of_getElem? (i := 22) rfl)) (hw _ (List.mem_of_getElem? (i := 21) rfl)) (hw _ (List.mem_of_getElem? (i := 2) rfl)) (hw _ (List.mem_of_getElem? (i := 23) rfl)) pd_2 at_25 (fun v5 h5 => ?_)
  rintro ⟨rfl, rfl⟩
  show Run p l e _ s m _ below meth c Z _ _ _ _ _ n0 _ h4 2 18 (mkF m 28 #[.val (.long q0), .second, .val (.long q1), .second, .val (.ref ob1), .unset] [(.ref xb_2)])
  refine Run.astore 30 #[.val (.long q0), .second, .val (.long q1), .second, .val (.ref ob1), .val (.ref xb_2)] at_28 ?_
  refine Run.aload 32 at_30 rfl ?_
  refine Run.lenI (16 : Int32) 33 G4_3 at_32 ?_
  refine Run.bipush (16 : Int32) 35 at_33 ?_
  refine Run.eqY 40 at_35 (by decide) ?_
  refine Run.aload 42 at_40 rfl ?_
  refine Run.iconst (0 : Int32) 43 at_42 ?_
  refine Run.callS 46 0 (argsL := [(.ref xb_2), (.int (0 : Int32))]) (st := []) (rmL hw xb_2 (0 : Int32) (own_w8 (own_w8 (fun _ => 0) (0 : Int32) q0) ((0 : Int32) + 8) q1) h4 n0 hsz_h4 G4_3 (by decide)) (hw _ (List.mem_of_getElem? (i := 24) rfl)) (hw _ (List.mem_of_getElem? (i := 25) rfl)) (hw _ (List.mem_of_getElem? (i := 26) rfl)) (hw _ (List.mem_of_getElem? (i := 27) rfl)) pd_3 at_43 (fun v6 h6 => ?_)
  rintro ⟨rfl, rfl⟩
  show Run p l e _ s m _ below meth c Z _ _ _ _ _ n0 _ h4 2 18 (mkF m 46 #[.val (.long q0), .second, .val (.long q1), .second, .val (.ref ob1), .val (.ref xb_2)] [(.long (F_rmL (0 : Int32) (own_w8 (own_w8 (fun _ => 0) (0 : Int32) q0) ((0 : Int32) + 8) q1)))])
  refine Run.lloadN 47 at_46 rfl ?_
  refine Run.lneN 51 at_47 at_48 (own_le q0 0 _ (own_at1 q0 q1 0 0 (by decide) (by decide) _ (by decide)) (own_at1 q0 q1 1 1 (by decide) (by decide) _ (by decide)) (own_at1 q0 q1 2 2 (by decide) (by decide) _ (by decide)) (own_at1 q0 q1 3 3 (by decide) (by decide) _ (by decide)) (own_at1 q0 q1 4 4 (by decide) (by decide) _ (by decide)) (own_at1 q0 q1 5 5 (by decide) (by decide) _ (by decide)) (own_at1 q0 q1 6 6 (by decide) (by decide) _ (by decide)) (own_at1 q0 q1 7 7 (by decide) (by decide) _ (by decide))) ?_
  refine Run.aload 53 at_51 rfl ?_
  refine Run.bipush (8 : Int32) 55 at_53 ?_
  refine Run.callS 58 0 (argsL := [(.ref xb_2), (.int (8 : Int32))]) (st := []) (rmL hw xb_2 (8 : Int32) (own_w8 (own_w8 (fun _ => 0) (0 : Int32) q0) ((0 : Int32) + 8) q1) h4 n0 hsz_h4 G4_3 (by decide)) (hw _ (List.mem_of_getElem? (i := 24) rfl)) (hw _ (List.mem_of_getElem? (i := 25) rfl)) (hw _ (List.mem_of_getElem? (i := 26) rfl)) (hw _ (List.mem_of_getElem? (i := 27) rfl)) pd_3 at_55 (fun v7 h7 => ?_)
  rintro ⟨rfl, rfl⟩
  show Run p l e _ s m _ below meth c Z _ _ _ _ _ n0 _ h4 2 18 (mkF m 58 #[.val (.long q0), .second, .val (.long q1), .second, .val (.ref ob1), .val (.ref xb_2)] [(.long (F_rmL (8 : Int32) (own_w8 (own_w8 (fun _ => 0) (0 : Int32) q0) ((0 : Int32) + 8) q1)))])
  refine Run.lloadN 59 at_58 rfl ?_
  refine Run.lneN 63 at_59 at_60 (own_le q1 8 _ (own_at2 q0 q1 0 0 (by decide) (by decide) _ (by decide)) (own_at2 q0 q1 1 1 (by decide) (by decide) _ (by decide)) (own_at2 q0 q1 2 2 (by decide) (by decide) _ (by decide)) (own_at2 q0 q1 3 3 (by decide) (by decide) _ (by decide)) (own_at2 q0 q1 4 4 (by decide) (by decide) _ (by decide)) (own_at2 q0 q1 5 5 (by decide) (by decide) _ (by decide)) (own_at2 q0 q1 6 6 (by decide) (by decide) _ (by decide)) (own_at2 q0 q1 7 7 (by decide) (by decide) _ (by decide))) ?_
  refine Run.iconst (1 : Int32) 64 at_63 ?_
  refine Run.goto 68 at_64 ?_
  exact Run.ret1 at_68 ⟨rfl, trivial⟩
set_option maxRecDepth 65536 in
set_option maxHeartbeats 40000000 in
theorem comes_1 {Post : Tables → Env → Array Value → State → Outcome → State → Prop} (hpost : ∀ tb e args s v u, (limb_1_1.after args s (.returned v) u = true ∧ limb_1_2.after args s (.returned v) u = true ∧ True) → FrameEnd s (.returned v) u (Jvm.fieldLocs frame_1_writes args s ++ Jvm.arrayLocs frame_1_arrays args s ++ Jvm.staticLocs frame_1_statics s) 16 128 → Post tb e args s (.returned v) u) :
    ArmFor flags0 classFile x code maxLocals ret World_1 tables_1 room_1 Calls_1 rest_1 Pre_1 Post := by
  intro l hfl _ _ p e ha hc hk s m args below hf hA hF happ hP
  obtain ⟨hcalls, hrest, hpre⟩ := hP
  obtain ⟨-, -, -, hnamed, -, -, -, hat⟩ := (Spec.applies_iff hf).mp happ
  obtain ⟨hg, hn⟩ := and_e (Cond.before_iff.mp (show (Jvm.Cond.and given_1 narrow_1).before args s = true from hpre))
  obtain ⟨g1, g2⟩ := and_e hg
  obtain ⟨g3, g4⟩ := and_e g2
  obtain ⟨w0, w1, rfl⟩ : ∃ w0 w1 : Value, args = #[w0, w1] := by
    have hs : args.size = 2 := by simpa [Cond.value, given_1] using g1
    obtain ⟨L⟩ := args
    match L, hs with
    | [w0, w1], _ => exact ⟨w0, w1, rfl⟩
  have hw := fun d (hd : d ∈ tables_1) => atoms_spec (ws := Jvm.Cond.code x code maxLocals ret :: tables_1) hat d (List.mem_cons_of_mem _ hd)
  obtain ⟨i0, ei0⟩ := isL_v g3
  obtain rfl : w0 = (.long i0) := Option.some.inj ei0
  obtain ⟨i1, ei1⟩ := isL_v g4
  obtain rfl : w1 = (.long i1) := Option.some.inj ei1
  obtain ⟨n, o, h1, h2, h3, _, L, rfl, ⟨⟨rfl, _⟩, N⟩, hq⟩ := rm0 (l := l) hw i0 i1 s.heap s.heap.size (Nat.le_refl _) tables_1 p e ha hc hk s m _ below hf ((Spec.applies_iff_loose hf).mp happ).1 ⟨rfl, State.Warmed39.refl s, rfl⟩ trivial
  refine ⟨n, _, h1, h2, h3, hpost _ _ _ _ _ _ ⟨Cond.after_iff.mpr rfl, Cond.after_iff.mpr (eq_i res_at (Term.int_eval (1)) rfl), trivial⟩ ⟨hq.1, hq.2.1, (hq.2.2.sift fun y hy => Or.inr (N y hy)).mono (by decide) (by decide)⟩⟩
theorem main_1_1 : Claimed_1_1 := comes_1 fun _ _ _ _ _ _ h hF => ⟨h.1, hF⟩
theorem main_1_2 : Claimed_1_2 := comes_1 fun _ _ _ _ _ _ h hF => ⟨h.2.1, hF⟩
end Jvm.Pilot.@@N@@
namespace Jvm.Pilot.@@N@@
open Jvm Jvm.ClassFile Sem Op Lib Jvm.Free Jvm.Stand Jvm.Pilot.@@N@@.Jvm.D
/-! MADE BY PROGRAM (witnessworld.py) out of the Statement's table words and the real class files: 9 classes; the members and pool entries that the words name. The judged class is class 1, her method 2. -/
namespace start1
open Jvm.ClassFile
def u (s : String) : CpInfo := .utf8 (stringToUtf16 s)
/-- a pool by its gaps: so many unusable entries, then the entry; so many at the end -/
def gap : Nat → List CpInfo → List CpInfo
  | 0, r => r
  | n + 1, r => .unusable :: gap n r
def poolList (es : List (Nat × CpInfo)) (last : Nat) : List CpInfo := es.foldr (fun e r => gap e.1 (e.2 :: r)) (gap last [])
def pool (es : List (Nat × CpInfo)) (last : Nat) : Array CpInfo := ⟨poolList es last⟩
def fileOf (pool : Array CpInfo) (this : Nat) (attrs : Array Attribute := #[]) (ms : Array MethodInfo := #[]) (fl : Nat := 33) (sup : Nat := 0) (ifs : Array Nat := #[]) (fds : Array FieldInfo := #[]) : ClassFile where
  minorVersion := 0
  majorVersion := 65
  constantPool := pool
  accessFlags := fl
  thisClass := this
  superClass := sup
  interfaces := ifs
  fields := fds
  methods := ms
  attributes := attrs
def plain (name : String) (sup : Option ClassId) : Class where
  name := name
  kind := .ordinary
  loader := none
  accessFlags := 33
  super := sup
  interfaces := #[]
  cf := none
  fields := #[]
  methods := #[]
  instanceTypes := #[]
  staticTypes := #[]
  resolved := #[]
  callSites := []
  init := .initialized
  statics := none
  mirror := none

def pool0 : Array CpInfo := pool [(5, u "<init>"), (0, u "()V"), (1, .class_ 10), (1, u "java/lang/Object")] 113

def k0c0 : Code := { maxStack := 0, maxLocals := 1, code := object_method_1_code, exceptionTable := #[], attributes := #[] }
def k0m0 : Method := { name := "<init>", desc := "()V", sig := { parameters := [], returnType := none }, accessFlags := 1, code := some k0c0 }
/-- java/lang/Object -/
def k0 : Class := { plain "java/lang/Object" none with
  accessFlags := 33
  interfaces := #[]
  cf := some (fileOf pool0 8 #[] #[{ accessFlags := 1, nameIndex := 5, descriptorIndex := 6, attributes := #[] }] 33 0 #[] #[])
  fields := #[]
  methods := #[k0m0]
  instanceTypes := #[]
  staticTypes := #[]
  resolved := Array.replicate 124 none
  statics := none }

def pool1 : Array CpInfo := pool [(2, .class_ 4), (1, u "java/lang/Object"), (0, u "<init>"), (0, u "()V"), (0, .long 255), (1, .class_ 10), (0, u "com/example/tagwire/tagwire/wire/WireWriter"), (0, .methodref 9 12), (0, .nameAndType 5 13), (0, u "(I)V"), (0, .methodref 9 15), (0, .nameAndType 16 17), (0, u "writeFixed64"), (0, u "(J)V"), (0, .methodref 9 19), (0, .nameAndType 20 21), (0, u "toByteArray"), (0, u "()[B"), (0, .methodref 23 24), (0, .class_ 25), (0, .nameAndType 26 27), (0, u "com/example/tagwire/tagwire/wire/WireWriterWriteFixed64PinLaw"), (0, u "readLe"), (0, u "([BI)J"), (2, u "law"), (0, u "(JJ)Z")] 5

def k1m0 : Method := { name := "<init>", desc := "()V", sig := { parameters := [], returnType := none }, accessFlags := 1, code := none }
def k1c1 : Code := { maxStack := 6, maxLocals := 2, code := method_2_code, exceptionTable := #[], attributes := #[] }
def k1m1 : Method := { name := "readLe", desc := "([BI)J", sig := { parameters := [(.array .byte), .int], returnType := some .long }, accessFlags := 10, code := some k1c1 }
def k1c2 : Code := { maxStack := 4, maxLocals := 6, code := code, exceptionTable := #[], attributes := #[] }
def k1m2 : Method := { name := "law", desc := "(JJ)Z", sig := { parameters := [.long, .long], returnType := some .boolean }, accessFlags := 9, code := some k1c2 }
/-- com/example/tagwire/tagwire/wire/WireWriterWriteFixed64PinLaw -/
def k1 : Class := { plain "com/example/tagwire/tagwire/wire/WireWriterWriteFixed64PinLaw" (some 0) with
  accessFlags := 49
  interfaces := #[]
  cf := some (fileOf pool1 23 #[] #[{ accessFlags := 1, nameIndex := 5, descriptorIndex := 6, attributes := #[] }, { accessFlags := 10, nameIndex := 26, descriptorIndex := 27, attributes := #[] }, { accessFlags := 9, nameIndex := 30, descriptorIndex := 31, attributes := #[] }] 49 2 #[] #[])
  fields := #[]
  methods := #[k1m0, k1m1, k1m2]
  instanceTypes := #[]
  staticTypes := #[]
  resolved := Array.replicate 37 none
  statics := none }

def pool2 : Array CpInfo := pool [(1, .methodref 2 3), (0, .class_ 4), (0, .nameAndType 5 6), (0, u "java/lang/Object"), (0, u "<init>"), (0, u "()V"), (0, .fieldref 8 9), (0, .class_ 10), (0, .nameAndType 11 12), (0, u "com/example/tagwire/tagwire/wire/WireWriter"), (0, u "buffer"), (0, u "[B"), (30, u "(J)V"), (2, .fieldref 8 47), (0, .nameAndType 48 49), (0, u "position"), (0, u "I"), (28, u "(I)V"), (13, u "writeFixed64"), (1, u "toByteArray"), (0, u "()[B")] 19

def k2c0 : Code := { maxStack := 2, maxLocals := 2, code := prog_103_method_1_code, exceptionTable := #[], attributes := #[] }
def k2m0 : Method := { name := "<init>", desc := "(I)V", sig := { parameters := [.int], returnType := none }, accessFlags := 1, code := some k2c0 }
def k2c1 : Code := { maxStack := 6, maxLocals := 4, code := prog_103_method_9_code, exceptionTable := #[], attributes := #[] }
def k2m1 : Method := { name := "writeFixed64", desc := "(J)V", sig := { parameters := [.long], returnType := none }, accessFlags := 1, code := some k2c1 }
def k2c2 : Code := { maxStack := 4, maxLocals := 1, code := prog_103_method_12_code, exceptionTable := #[], attributes := #[] }
def k2m2 : Method := { name := "toByteArray", desc := "()[B", sig := { parameters := [], returnType := some (.array .byte) }, accessFlags := 1, code := some k2c2 }
/-- com/example/tagwire/tagwire/wire/WireWriter -/
def k2 : Class := { plain "com/example/tagwire/tagwire/wire/WireWriter" (some 0) with
  accessFlags := 49
  interfaces := #[]
  cf := some (fileOf pool2 8 #[] #[{ accessFlags := 1, nameIndex := 5, descriptorIndex := 78, attributes := #[] }, { accessFlags := 1, nameIndex := 92, descriptorIndex := 43, attributes := #[] }, { accessFlags := 1, nameIndex := 94, descriptorIndex := 95, attributes := #[] }] 49 2 #[] #[{ accessFlags := 18, nameIndex := 11, descriptorIndex := 12, attributes := #[] }, { accessFlags := 2, nameIndex := 48, descriptorIndex := 49, attributes := #[] }])
  fields := #[{ name := "buffer", type := (.array .byte), accessFlags := 18, slot := 0, constantValue := 0 }, { name := "position", type := .int, accessFlags := 2, slot := 1, constantValue := 0 }]
  methods := #[k2m0, k2m1, k2m2]
  instanceTypes := #[(.array .byte), .int]
  staticTypes := #[]
  resolved := Array.replicate 115 none
  statics := none }

def pool3 : Array CpInfo := pool [(1, u "java/lang/Cloneable"), (0, .class_ 1), (0, u "java/lang/Object"), (0, .class_ 3)] 3

/-- java/lang/Cloneable -/
def k3 : Class := { plain "java/lang/Cloneable" (some 0) with
  accessFlags := 1537
  interfaces := #[]
  cf := some (fileOf pool3 2 #[] #[] 1537 4 #[] #[])
  fields := #[]
  methods := #[]
  instanceTypes := #[]
  staticTypes := #[]
  resolved := Array.replicate 8 none
  statics := none }

def pool4 : Array CpInfo := pool [(1, u "java/io/Serializable"), (0, .class_ 1), (0, u "java/lang/Object"), (0, .class_ 3)] 3

/-- java/io/Serializable -/
def k4 : Class := { plain "java/io/Serializable" (some 0) with
  accessFlags := 1537
  interfaces := #[]
  cf := some (fileOf pool4 2 #[] #[] 1537 4 #[] #[])
  fields := #[]
  methods := #[]
  instanceTypes := #[]
  staticTypes := #[]
  resolved := Array.replicate 8 none
  statics := none }

/-- the primitive byte -/
def k5 : Class := { plain "byte" none with kind := .primitive 'B', accessFlags := 0x411 }
/-- [B -/
def k6 : Class := { plain "[B" (some 0) with kind := .array 5 .byte, interfaces := #[3, 4], accessFlags := 1041 }

/-- the primitive int -/
def k7 : Class := { plain "int" none with kind := .primitive 'I', accessFlags := 0x411 }
/-- [I -/
def k8 : Class := { plain "[I" (some 0) with kind := .array 7 .int, interfaces := #[3, 4], accessFlags := 1041 }

def heap : Heap := #[]
def classes : Array Class := #[k0, k1, k2, k3, k4, k5, k6, k7, k8]
def interned : List (Array UInt16 × Addr) := []
def slotsUsed : Nat := 0
def theMethod : MethodId := ⟨1, 2⟩
def args0 : Array Value := #[.long 650000, .long 77]
def aboutOver (below : List Frame) : State where
  vm := { classes := classes, interned := interned.toArray }
  heap := heap
  slotsUsed := slotsUsed
  threads := #[{ frames := .invoking theMethod args0 :: below }]
def below0 : List Frame := [.native { method := ⟨0, 0⟩, args := #[] }]
def about1 : State := aboutOver below0
def p0 : Program := .bare "" "" ""
def e0 : Env := launch0.env 0 0 0
theorem w_frames : about1.frames = Frame.invoking theMethod args0 :: below0 := rfl
set_option maxRecDepth 65536 in
theorem w_args : argsFit about1.vm theMethod args0 = true := by decide +kernel
set_option maxRecDepth 65536 in
theorem w_heap : heapFits about1 = true := by decide +kernel
set_option maxRecDepth 65536 in
theorem w_runnable : about1.curStatus? = some .runnable := by decide +kernel
set_option maxRecDepth 65536 in
theorem w_alone : about1.alone = true := by decide +kernel
set_option maxRecDepth 65536 in
theorem w_named : about1.methodNamed? x = some theMethod := by decide +kernel
set_option maxRecDepth 65536 in
theorem w_hears : about1.hears theMethod below0 = true := by decide +kernel
set_option maxRecDepth 65536 in
theorem w_ripe : about1.ripe theMethod args0 below0 = true := by decide +kernel
theorem w_running : about1.status = .running := rfl
set_option maxRecDepth 65536 in
theorem w_room : about1.hasRoom e0.platform room_1 = true :=
  launch0.hasRoom_least _ room_1 (by decide +kernel) (by decide +kernel) (by decide +kernel) (by decide +kernel) (by decide +kernel) (by decide +kernel)
theorem allAtoms_all (ts : List Jvm.Cond) (a : Array Jvm.Value) (st : Jvm.State) : (allAtoms ts).before a st = ts.all (fun c => c.before a st) := by
  induction ts with
  | nil => rfl
  | cons c t ih =>
    show (Jvm.Cond.and c (allAtoms t)).before a st = _
    rw [Jvm.Cond.before_and, ih, List.all_cons]
def words1 : List Jvm.Cond := Jvm.Cond.code x code maxLocals ret :: tables_1
/-- a 'code' word, met by the world's own term for the bytes: nothing is compared byte by byte -/
theorem code_word {y : MethodName} {bytes : ByteArray} {mx : Nat} {rt : Option FieldType} {a : Array Value} {s : State} {m : MethodId} {meth : Method} {c : Code} (h1 : s.methodNamed? y = some m) (h2 : s.vm.method? m = some meth) (h3 : meth.code = some c) (h4 : c.code = bytes)
    (h5 : (c.maxLocals == mx && c.exceptionTable.isEmpty && decide (c.maxStack ≤ mostOperands) && decide (meth.sig.returnType = rt) && !meth.locks && decide (parseMethodDescriptor y.desc = some meth.sig)) = true) : (Jvm.Cond.code y bytes mx rt).before a s = true := by
  simp only [Bool.and_eq_true, beq_iff_eq, Bool.not_eq_true', decide_eq_true_eq] at h5
  obtain ⟨⟨⟨⟨⟨g1, g2⟩, g3⟩, g4⟩, g5⟩, g6⟩ := h5
  simp [Cond.before, Cond.holds, Cond.value, h1, h2, h3, h4, g1, g2, g3, g4, g5, g6]
def isCode : Jvm.Cond → Bool
  | .code _ _ _ _ => true
  | _ => false
theorem all_split {L : List Jvm.Cond} {P : Jvm.Cond → Bool} (h1 : L.all (fun c => isCode c || P c) = true) (h2 : ∀ c ∈ L.filter isCode, P c = true) : L.all P = true := by
  refine List.all_eq_true.mpr fun c hc => ?_
  have h := List.all_eq_true.mp h1 c hc
  rcases Bool.eq_false_or_eq_true (isCode c) with hi | hi
  · exact h2 c (List.mem_filter.mpr ⟨hc, hi⟩)
  · simpa [hi] using h
set_option maxRecDepth 65536 in
theorem w_c0 : (Jvm.Cond.code x code maxLocals ret).before args0 about1 = true := code_word (m := ⟨1, 2⟩) (meth := k1m2) (c := k1c2) (by decide +kernel) rfl rfl rfl (by decide +kernel)
set_option maxRecDepth 65536 in
theorem w_c1 : (Jvm.Cond.code ({ cls := "com/example/tagwire/tagwire/wire/WireWriter", name := "<init>", desc := "(I)V" } : Jvm.MethodName) prog_103_method_1_code (2 : Nat) (Option.none : Option Jvm.ClassFile.FieldType)).before args0 about1 = true := code_word (m := ⟨2, 0⟩) (meth := k2m0) (c := k2c0) (by decide +kernel) rfl rfl rfl (by decide +kernel)
set_option maxRecDepth 65536 in
theorem w_c2 : (Jvm.Cond.code ({ cls := "java/lang/Object", name := "<init>", desc := "()V" } : Jvm.MethodName) object_method_1_code (1 : Nat) (Option.none : Option Jvm.ClassFile.FieldType)).before args0 about1 = true := code_word (m := ⟨0, 0⟩) (meth := k0m0) (c := k0c0) (by decide +kernel) rfl rfl rfl (by decide +kernel)
set_option maxRecDepth 65536 in
theorem w_c3 : (Jvm.Cond.code ({ cls := "com/example/tagwire/tagwire/wire/WireWriter", name := "writeFixed64", desc := "(J)V" } : Jvm.MethodName) prog_103_method_9_code (4 : Nat) (Option.none : Option Jvm.ClassFile.FieldType)).before args0 about1 = true := code_word (m := ⟨2, 1⟩) (meth := k2m1) (c := k2c1) (by decide +kernel) rfl rfl rfl (by decide +kernel)
set_option maxRecDepth 65536 in
theorem w_c4 : (Jvm.Cond.code ({ cls := "com/example/tagwire/tagwire/wire/WireWriter", name := "toByteArray", desc := "()[B" } : Jvm.MethodName) prog_103_method_12_code (1 : Nat) (Option.some (Jvm.ClassFile.FieldType.array Jvm.ClassFile.FieldType.byte))).before args0 about1 = true := code_word (m := ⟨2, 2⟩) (meth := k2m2) (c := k2c2) (by decide +kernel) rfl rfl rfl (by decide +kernel)
set_option maxRecDepth 65536 in
theorem w_c5 : (Jvm.Cond.code ({ cls := "com/example/tagwire/tagwire/wire/WireWriterWriteFixed64PinLaw", name := "readLe", desc := "([BI)J" } : Jvm.MethodName) method_2_code (2 : Nat) (Option.some Jvm.ClassFile.FieldType.long)).before args0 about1 = true := code_word (m := ⟨1, 1⟩) (meth := k1m1) (c := k1c1) (by decide +kernel) rfl rfl rfl (by decide +kernel)
def codes1 : List Jvm.Cond := [Jvm.Cond.code x code maxLocals ret, Jvm.Cond.code ({ cls := "com/example/tagwire/tagwire/wire/WireWriter", name := "<init>", desc := "(I)V" } : Jvm.MethodName) prog_103_method_1_code (2 : Nat) (Option.none : Option Jvm.ClassFile.FieldType), Jvm.Cond.code ({ cls := "java/lang/Object", name := "<init>", desc := "()V" } : Jvm.MethodName) object_method_1_code (1 : Nat) (Option.none : Option Jvm.ClassFile.FieldType), Jvm.Cond.code ({ cls := "com/example/tagwire/tagwire/wire/WireWriter", name := "writeFixed64", desc := "(J)V" } : Jvm.MethodName) prog_103_method_9_code (4 : Nat) (Option.none : Option Jvm.ClassFile.FieldType), Jvm.Cond.code ({ cls := "com/example/tagwire/tagwire/wire/WireWriter", name := "toByteArray", desc := "()[B" } : Jvm.MethodName) prog_103_method_12_code (1 : Nat) (Option.some (Jvm.ClassFile.FieldType.array Jvm.ClassFile.FieldType.byte)), Jvm.Cond.code ({ cls := "com/example/tagwire/tagwire/wire/WireWriterWriteFixed64PinLaw", name := "readLe", desc := "([BI)J" } : Jvm.MethodName) method_2_code (2 : Nat) (Option.some Jvm.ClassFile.FieldType.long)]
set_option maxRecDepth 65536 in
theorem codes_eq : words1.filter isCode = codes1 := rfl
theorem w_codes : ∀ c ∈ words1.filter isCode, c.before args0 about1 = true := by
  rw [codes_eq]
  intro c hc
  simp only [codes1, List.mem_cons, List.not_mem_nil, or_false] at hc
  rcases hc with rfl | rfl | rfl | rfl | rfl | rfl
  · exact w_c0
  · exact w_c1
  · exact w_c2
  · exact w_c3
  · exact w_c4
  · exact w_c5
set_option maxRecDepth 65536 in
theorem w_t1 : (words1.take 24).all (fun c => isCode c || c.before args0 about1) = true := by decide +kernel
set_option maxRecDepth 65536 in
theorem w_t2 : (words1.drop 24).all (fun c => isCode c || c.before args0 about1) = true := by decide +kernel
theorem w_tables : (allAtoms (Jvm.Cond.code x code maxLocals ret :: tables_1)).before args0 about1 = true := by
  rw [allAtoms_all]
  show words1.all (fun c => c.before args0 about1) = true
  refine all_split ?_ w_codes
  rw [← List.take_append_drop 24 words1, List.all_append, w_t1, w_t2]
  rfl
set_option maxRecDepth 65536 in
theorem w_case : (Jvm.Cond.and given_1 narrow_1).before args0 about1 = true := by decide +kernel
theorem w_applies : (headSpec (Jvm.Cond.code x code maxLocals ret :: tables_1) room_1).applies x e0.platform about1 = true :=
  (Spec.applies_iff w_frames).mpr ⟨w_running, w_runnable, w_alone, w_named, w_hears, w_ripe, w_room, w_tables⟩
theorem atStart : AtStart classFile x code maxLocals ret World_1 tables_1 room_1 Calls_1 rest_1 Pre_1 launch0 p0 e0 about1 theMethod args0 below0 :=
  ⟨lists_1, trivial, launch0.admits_env _ _ _, launch0.least_env, fairChoices_fair.cas, fairChoices_fair.clock, w_frames, w_args, w_heap, w_applies, trivial, trivial, w_case⟩
end start1
theorem witness_1 : WitnessClaimed_1 := ⟨start1.p0, start1.e0, start1.about1, start1.theMethod, start1.args0, start1.below0, start1.atStart⟩
end Jvm.Pilot.@@N@@
