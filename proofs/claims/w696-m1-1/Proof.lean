import JvmDerived
import JvmDerived.Pilot.@@N@@Statement
import JvmDerived.Pilot.@@N@@Code
set_option linter.unusedVariables false
set_option linter.unusedSimpArgs false
namespace Jvm.Pilot.@@N@@
open Jvm Jvm.ClassFile Sem Op Lib Jvm.Free Jvm.Stand Jvm.LawKit Jvm.RoadKit Bundle Jvm.Pilot.@@N@@.Jvm.D
-- OWN KIT: a walk over an abstract heap. 'own_Ob': an array (kind, values) or an object (class, fields).
abbrev own_Ob : Type := (FieldType × List Value) ⊕ (String × List (String × String × Value))
abbrev own_Hs : Type := List (Addr × own_Ob)
def own_is (Z : State) (h : Heap) (a : Addr) : own_Ob → Prop
  | .inl q => ∃ c : Cell, Arr Z h a c q.1 ∧ c.slots.toList = q.2
  | .inr q => Exa Z h a q.1 ∧ (∀ (i j : Nat) (f g : String × String × Value), q.2[i]? = some f → q.2[j]? = some g → RoadKit.slotOf Z q.1 f.1 f.2.1 = RoadKit.slotOf Z q.1 g.1 g.2.1 → i = j) ∧ ∀ (i : Nat) (f : String × String × Value), q.2[i]? = some f → Fld Z h a q.1 f.1 f.2.1 f.2.2
/-- the objects made since the law began, each at its own address -/
def own_Hp (Z : State) (n0 : Nat) (h : Heap) (H : own_Hs) : Prop :=
  n0 ≤ h.size ∧ (∀ (i j : Nat) (a : Addr) (o o' : own_Ob), H[i]? = some (a, o) → H[j]? = some (a, o') → i = j) ∧ ∀ (i : Nat) (a : Addr) (o : own_Ob), H[i]? = some (a, o) → n0 ≤ a ∧ a < h.size ∧ own_is Z h a o
/-- what is owed at the end -/
def own_P (Z : State) (n0 : Nat) (s : State) (below : List Frame) (R : Room) (Q : Option Value → own_Hs → Prop) (t : State) (o : Outcome) : Prop :=
  t.status = .running ∧ Ended t below o ∧ ∃ v L, o = .returned v ∧ (Fr n0 L ∧ ∃ H', own_Hp Z n0 t.heap H' ∧ Q v H') ∧ FrameEnd s o t L R.cells R.slots
def own_Go (Z : State) (n0 : Nat) (p : Program) (l : Launch) (e : Env) (R : Room) (s : State) (m : MethodId) (args : Array Value) (below : List Frame) (meth : Method) (c : Code) (P : State → Outcome → Prop)
    (k n : Nat) (H : own_Hs) (pc : Nat) (ls : List Slot) (st : List Value) : Prop :=
  ∀ T L, Stand p l e R s m args below meth c T L k n → Fr n0 L → own_Hp Z n0 T.heap H → ∃ t o, Steps p.tables e below (T.setTop (mkF m pc ⟨ls⟩ st)) t ∧ P t o
/-- G is the walk of y's body -/
def own_Wk (Z : State) (n0 : Nat) (R : Room) (y : MethodName) (bytes : ByteArray) (maxL : Nat) (ret : Option FieldType) (l : Launch) (Q : Option Value → own_Hs → Prop)
    (G : Nat → Nat → own_Hs → Nat → List Slot → List Value → Prop) : Prop :=
  ∃ p e s m args below meth c, G = own_Go Z n0 p l e R s m args below meth c (own_P Z n0 s below R Q) ∧ p.tables.exec = Jvm.exec ∧ Z.Warmed39 s.vm ∧ c.code = bytes ∧ c.maxLocals = maxL ∧
    s.vm.findClass y.cls = some m.cls ∧ meth.name = y.name ∧ meth.sig.returnType = ret ∧ meth.locks = false
/-- y's contract -/
def own_Con (l : Launch) (Z : State) (n0 : Nat) (y : MethodName) (bytes : ByteArray) (maxL : Nat) (ret : Option FieldType) (ws : List Jvm.Cond) (rm : Room) (as : Array Value) (H : own_Hs) (Q : Option Value → own_Hs → Prop) : Prop :=
  ∀ h0, own_Hp Z n0 h0 H → MetFree l y (head1 (Jvm.Cond.code y bytes maxL ret :: ws) rm) (fun a U => a = as ∧ Z.Warmed39 U.vm ∧ U.heap = h0) (fun _ _ _ _ _ => True)
    (fun _ U o U' => ∃ v L, o = .returned v ∧ (Fr n0 L ∧ ∃ H', own_Hp Z n0 U'.heap H' ∧ Q v H') ∧ FrameEnd U o U' L rm.cells rm.slots)
section OwnKit
variable {Z : State} {a0 : Array Value} {n0 : Nat} {R : Room} {y : MethodName} {bytes : ByteArray} {maxL : Nat} {ret : Option FieldType} {l : Launch} {Q : Option Value → own_Hs → Prop}
  {G : Nat → Nat → own_Hs → Nat → List Slot → List Value → Prop} {k n : Nat} {H : own_Hs} {pc q q' : Nat} {ls ls' : List Slot} {st st' : List Value}
theorem own_con {ws : List Jvm.Cond} {as : Array Value} {ls0 : List Slot} (hp : plainFor y = true) (hef : ∀ m, entryFrame m as maxL = mkF m 0 ⟨ls0⟩ []) (body : ∀ G, own_Wk Z n0 R y bytes maxL ret l Q G → G 0 0 H 0 ls0 []) :
    own_Con l Z n0 y bytes maxL ret ws R as H Q := by
  intro h0 hH
  refine MetFree.of_bodySF hp hisR ?_
  intro p e s m args below meth c s₁ Bd hml0 hP hK
  obtain ⟨ha, hZ, hh⟩ := hP
  subst ha
  have e0 : s₁.heap = h0 := by rw [← hh, Bd.state]; rfl
  have hown : s.vm.findClass y.cls = some m.cls := findClass_of_methodNamed Bd.named
  have hnm := (name_of_methodNamed Bd.named Bd.method).1
  obtain ⟨t, o, stp, P⟩ := body _ ⟨p, e, s, m, args, below, meth, c, rfl, Bd.exec, hZ, Bd.bytes, hml0, hown, hnm, Bd.returns, BodyLoose.notSynchronized Bd⟩ s₁ [] (Stand.of_body Bd) (Fr.nil n0) (by rw [e0]; exact hH)
  exact ⟨t, o, castTop (hef m) stp, P⟩
/-- a step that touches the frame alone -/
theorem own_Wk.of (C : own_Wk Z n0 R y bytes maxL ret l Q G) (K : G k n H q ls' st')
    (h : ∀ (p : Program) (e : Env) (T t : State) (m : MethodId) (below : List Frame) (c : Code), p.tables.exec = Jvm.exec → c.code = bytes → At T m c below → Steps p.tables e below (T.setTop (mkF m q ⟨ls'⟩ st')) t → Steps p.tables e below (T.setTop (mkF m pc ⟨ls⟩ st)) t) :
    G k n H pc ls st := by
  obtain ⟨p, e, s, m, args, below, meth, c, rfl, hx, hZ, hby, hml, hown, hnm, hret, hlk⟩ := C
  intro T L X N hH
  obtain ⟨t, o, stp, P⟩ := K T L X N hH
  exact ⟨t, o, h p e T t m below c hx hby X.here stp, P⟩
theorem own_Wk.more {k' n' : Nat} (C : own_Wk Z n0 R y bytes maxL ret l Q G) (hk : k ≤ k') (hn : n ≤ n') (K : G k' n' H pc ls st) : G k n H pc ls st := by
  obtain ⟨p, e, s, m, args, below, meth, c, rfl, hx, hZ, hby, hml, hown, hnm, hret, hlk⟩ := C
  exact fun T L X N hH => K T L (X.more hk hn) N hH
theorem own_Wk.iloadN (C : own_Wk Z n0 R y bytes maxL ret l Q G) {j : Fin 4} {v : Int32} (hd : decode bytes pc = .ok (.iload_n j, 1)) (hl : (Array.mk ls)[j.val]? = some (.val (.int v))) (hq : pc + 1 = q) (K : G k n H q ls (.int v :: st)) : G k n H pc ls st := by
  subst hq; exact C.of K fun _ _ _ _ _ _ _ hx hby X s => XS.iloadN X hx rfl (hb hby hd) hl s
theorem own_Wk.iload (C : own_Wk Z n0 R y bytes maxL ret l Q G) {j : Nat} {v : Int32} (hd : decode bytes pc = .ok (.iload j, 2)) (hl : (Array.mk ls)[j]? = some (.val (.int v))) (hq : pc + 2 = q) (K : G k n H q ls (.int v :: st)) : G k n H pc ls st := by
  subst hq; exact C.of K fun _ _ _ _ _ _ _ hx hby X s => XS.iload X hx rfl (hb hby hd) hl s
theorem own_Wk.lloadN (C : own_Wk Z n0 R y bytes maxL ret l Q G) {j : Fin 4} {v : Int64} (hd : decode bytes pc = .ok (.lload_n j, 1)) (hl : (Array.mk ls)[j.val]? = some (.val (.long v))) (hq : pc + 1 = q) (K : G k n H q ls (.long v :: st)) : G k n H pc ls st := by
  subst hq; exact C.of K fun _ _ _ _ _ _ _ hx hby X s => XS.lloadN X hx rfl (hb hby hd) hl s
theorem own_Wk.lload (C : own_Wk Z n0 R y bytes maxL ret l Q G) {j : Nat} {v : Int64} (hd : decode bytes pc = .ok (.lload j, 2)) (hl : (Array.mk ls)[j]? = some (.val (.long v))) (hq : pc + 2 = q) (K : G k n H q ls (.long v :: st)) : G k n H pc ls st := by
  subst hq; exact C.of K fun _ _ _ _ _ _ _ hx hby X s => XS.lload X hx rfl (hb hby hd) hl s
theorem own_Wk.aloadN (C : own_Wk Z n0 R y bytes maxL ret l Q G) {j : Fin 4} {v : Value} (hd : decode bytes pc = .ok (.aload_n j, 1)) (hl : (Array.mk ls)[j.val]? = some (.val v)) (hv : v.isRef = true) (hq : pc + 1 = q) (K : G k n H q ls (v :: st)) : G k n H pc ls st := by
  subst hq; exact C.of K fun _ _ _ _ _ _ _ hx hby X s => XS.aloadN X hx rfl (hb hby hd) hl hv s
theorem own_Wk.aload (C : own_Wk Z n0 R y bytes maxL ret l Q G) {j : Nat} {v : Value} (hd : decode bytes pc = .ok (.aload j, 2)) (hl : (Array.mk ls)[j]? = some (.val v)) (hv : v.isRef = true) (hq : pc + 2 = q) (K : G k n H q ls (v :: st)) : G k n H pc ls st := by
  subst hq; exact C.of K fun _ _ _ _ _ _ _ hx hby X s => XS.aload X hx rfl (hb hby hd) hl hv s
theorem own_Wk.istoreN (C : own_Wk Z n0 R y bytes maxL ret l Q G) {j : Fin 4} {v : Int32} (hd : decode bytes pc = .ok (.istore_n j, 1)) (hl : storeLocals (Array.mk ls) j.val (.int v) = some (Array.mk ls')) (hq : pc + 1 = q) (K : G k n H q ls' st) : G k n H pc ls (.int v :: st) := by
  subst hq; exact C.of K fun _ _ _ _ _ _ _ hx hby X s => XS.istoreN X hx rfl (hb hby hd) rfl hl s
theorem own_Wk.istore (C : own_Wk Z n0 R y bytes maxL ret l Q G) {j : Nat} {v : Int32} (hd : decode bytes pc = .ok (.istore j, 2)) (hl : storeLocals (Array.mk ls) j (.int v) = some (Array.mk ls')) (hq : pc + 2 = q) (K : G k n H q ls' st) : G k n H pc ls (.int v :: st) := by
  subst hq; exact C.of K fun _ _ _ _ _ _ _ hx hby X s => XS.istore X hx rfl (hb hby hd) rfl hl s
theorem own_Wk.lstoreN (C : own_Wk Z n0 R y bytes maxL ret l Q G) {j : Fin 4} {v : Int64} (hd : decode bytes pc = .ok (.lstore_n j, 1)) (hl : storeLocals (Array.mk ls) j.val (.long v) = some (Array.mk ls')) (hq : pc + 1 = q) (K : G k n H q ls' st) : G k n H pc ls (.long v :: st) := by
  subst hq; exact C.of K fun _ _ _ _ _ _ _ hx hby X s => XS.lstoreN X hx rfl (hb hby hd) rfl hl s
theorem own_Wk.lstore (C : own_Wk Z n0 R y bytes maxL ret l Q G) {j : Nat} {v : Int64} (hd : decode bytes pc = .ok (.lstore j, 2)) (hl : storeLocals (Array.mk ls) j (.long v) = some (Array.mk ls')) (hq : pc + 2 = q) (K : G k n H q ls' st) : G k n H pc ls (.long v :: st) := by
  subst hq; exact C.of K fun _ _ _ _ _ _ _ hx hby X s => XS.lstore X hx rfl (hb hby hd) rfl hl s
theorem own_Wk.astoreN (C : own_Wk Z n0 R y bytes maxL ret l Q G) {j : Fin 4} {v : Value} (hd : decode bytes pc = .ok (.astore_n j, 1)) (hv : v.isRef = true) (hl : storeLocals (Array.mk ls) j.val v = some (Array.mk ls')) (hq : pc + 1 = q) (K : G k n H q ls' st) : G k n H pc ls (v :: st) := by
  subst hq; exact C.of K fun _ _ _ _ _ _ _ hx hby X s => XS.astoreN X hx rfl (hb hby hd) rfl hv hl s
theorem own_Wk.astore (C : own_Wk Z n0 R y bytes maxL ret l Q G) {j : Nat} {v : Value} (hd : decode bytes pc = .ok (.astore j, 2)) (hv : v.isRef = true) (hl : storeLocals (Array.mk ls) j v = some (Array.mk ls')) (hq : pc + 2 = q) (K : G k n H q ls' st) : G k n H pc ls (v :: st) := by
  subst hq; exact C.of K fun _ _ _ _ _ _ _ hx hby X s => XS.astore X hx rfl (hb hby hd) rfl hv hl s
theorem own_Wk.iconst (C : own_Wk Z n0 R y bytes maxL ret l Q G) {i : Int} {z : Int32} (hd : decode bytes pc = .ok (.iconst i, 1)) (hz : Int32.ofInt i = z) (hq : pc + 1 = q) (K : G k n H q ls (.int z :: st)) : G k n H pc ls st := by
  subst hq hz; exact C.of K fun _ _ _ _ _ _ _ hx hby X s => XS.iconst X hx rfl (hb hby hd) s
theorem own_Wk.bipush (C : own_Wk Z n0 R y bytes maxL ret l Q G) {i : Int} {z : Int32} (hd : decode bytes pc = .ok (.bipush i, 2)) (hz : (Int8.ofInt i).toInt32 = z) (hq : pc + 2 = q) (K : G k n H q ls (.int z :: st)) : G k n H pc ls st := by
  subst hq hz; exact C.of K fun _ _ _ _ _ _ _ hx hby X s => XS.bipush X hx rfl (hb hby hd) s
theorem own_Wk.sipush (C : own_Wk Z n0 R y bytes maxL ret l Q G) {i : Int} {z : Int32} (hd : decode bytes pc = .ok (.sipush i, 3)) (hz : (Int16.ofInt i).toInt32 = z) (hq : pc + 3 = q) (K : G k n H q ls (.int z :: st)) : G k n H pc ls st := by
  subst hq hz; exact C.of K fun _ _ _ _ _ _ _ hx hby X s => XS.sipush X hx rfl (hb hby hd) s
theorem own_Wk.lconst (C : own_Wk Z n0 R y bytes maxL ret l Q G) {i : Fin 2} {z : Int64} (hd : decode bytes pc = .ok (.lconst i, 1)) (hz : Int64.ofNat i = z) (hq : pc + 1 = q) (K : G k n H q ls (.long z :: st)) : G k n H pc ls st := by
  subst hq hz; exact C.of K fun _ _ _ _ _ _ _ hx hby X s => XS.lconst X hx rfl (hb hby hd) s
theorem own_Wk.aconstNull (C : own_Wk Z n0 R y bytes maxL ret l Q G) (hd : decode bytes pc = .ok (.aconst_null, 1)) (hq : pc + 1 = q) (K : G k n H q ls (.null :: st)) : G k n H pc ls st := by
  subst hq; exact C.of K fun _ _ _ _ _ _ _ hx hby X s => XS.aconstNull X hx rfl (hb hby hd) s
theorem own_Wk.iadd (C : own_Wk Z n0 R y bytes maxL ret l Q G) {a b : Int32} (hd : decode bytes pc = .ok (.iadd, 1)) (hq : pc + 1 = q) (K : G k n H q ls (.int (a + b) :: st)) : G k n H pc ls (.int b :: .int a :: st) := by
  subst hq; exact C.of K fun _ _ _ _ _ _ _ hx hby X s => XS.iadd X hx rfl (hb hby hd) rfl s
theorem own_Wk.isub (C : own_Wk Z n0 R y bytes maxL ret l Q G) {a b : Int32} (hd : decode bytes pc = .ok (.isub, 1)) (hq : pc + 1 = q) (K : G k n H q ls (.int (a - b) :: st)) : G k n H pc ls (.int b :: .int a :: st) := by
  subst hq; exact C.of K fun _ _ _ _ _ _ _ hx hby X s => XS.isub X hx rfl (hb hby hd) rfl s
theorem own_Wk.imul (C : own_Wk Z n0 R y bytes maxL ret l Q G) {a b : Int32} (hd : decode bytes pc = .ok (.imul, 1)) (hq : pc + 1 = q) (K : G k n H q ls (.int (a * b) :: st)) : G k n H pc ls (.int b :: .int a :: st) := by
  subst hq; exact C.of K fun _ _ _ _ _ _ _ hx hby X s => XS.imul X hx rfl (hb hby hd) rfl s
theorem own_Wk.iand (C : own_Wk Z n0 R y bytes maxL ret l Q G) {a b : Int32} (hd : decode bytes pc = .ok (.iand, 1)) (hq : pc + 1 = q) (K : G k n H q ls (.int (a &&& b) :: st)) : G k n H pc ls (.int b :: .int a :: st) := by
  subst hq; exact C.of K fun _ _ _ _ _ _ _ hx hby X s => XS.iand X hx rfl (hb hby hd) rfl s
theorem own_Wk.ior (C : own_Wk Z n0 R y bytes maxL ret l Q G) {a b : Int32} (hd : decode bytes pc = .ok (.ior, 1)) (hq : pc + 1 = q) (K : G k n H q ls (.int (a ||| b) :: st)) : G k n H pc ls (.int b :: .int a :: st) := by
  subst hq; exact C.of K fun _ _ _ _ _ _ _ hx hby X s => XS.ior X hx rfl (hb hby hd) rfl s
theorem own_Wk.ixor (C : own_Wk Z n0 R y bytes maxL ret l Q G) {a b : Int32} (hd : decode bytes pc = .ok (.ixor, 1)) (hq : pc + 1 = q) (K : G k n H q ls (.int (a ^^^ b) :: st)) : G k n H pc ls (.int b :: .int a :: st) := by
  subst hq; exact C.of K fun _ _ _ _ _ _ _ hx hby X s => XS.ixor X hx rfl (hb hby hd) rfl s
theorem own_Wk.ishl (C : own_Wk Z n0 R y bytes maxL ret l Q G) {a b : Int32} (hd : decode bytes pc = .ok (.ishl, 1)) (hq : pc + 1 = q) (K : G k n H q ls (.int (a <<< (b &&& 31)) :: st)) : G k n H pc ls (.int b :: .int a :: st) := by
  subst hq; exact C.of K fun _ _ _ _ _ _ _ hx hby X s => XS.ishl X hx rfl (hb hby hd) rfl s
theorem own_Wk.ishr (C : own_Wk Z n0 R y bytes maxL ret l Q G) {a b : Int32} (hd : decode bytes pc = .ok (.ishr, 1)) (hq : pc + 1 = q) (K : G k n H q ls (.int (a >>> (b &&& 31)) :: st)) : G k n H pc ls (.int b :: .int a :: st) := by
  subst hq; exact C.of K fun _ _ _ _ _ _ _ hx hby X s => XS.ishr X hx rfl (hb hby hd) rfl s
theorem own_Wk.iushr (C : own_Wk Z n0 R y bytes maxL ret l Q G) {a b : Int32} (hd : decode bytes pc = .ok (.iushr, 1)) (hq : pc + 1 = q) (K : G k n H q ls (.int ((a.toUInt32 >>> (b &&& 31).toUInt32).toInt32) :: st)) : G k n H pc ls (.int b :: .int a :: st) := by
  subst hq; exact C.of K fun _ _ _ _ _ _ _ hx hby X s => XS.iushr X hx rfl (hb hby hd) rfl s
theorem own_Wk.ladd (C : own_Wk Z n0 R y bytes maxL ret l Q G) {a b : Int64} (hd : decode bytes pc = .ok (.ladd, 1)) (hq : pc + 1 = q) (K : G k n H q ls (.long (a + b) :: st)) : G k n H pc ls (.long b :: .long a :: st) := by
  subst hq; exact C.of K fun _ _ _ _ _ _ _ hx hby X s => XS.ladd X hx rfl (hb hby hd) rfl s
theorem own_Wk.lsub (C : own_Wk Z n0 R y bytes maxL ret l Q G) {a b : Int64} (hd : decode bytes pc = .ok (.lsub, 1)) (hq : pc + 1 = q) (K : G k n H q ls (.long (a - b) :: st)) : G k n H pc ls (.long b :: .long a :: st) := by
  subst hq; exact C.of K fun _ _ _ _ _ _ _ hx hby X s => XS.lsub X hx rfl (hb hby hd) rfl s
theorem own_Wk.lmul (C : own_Wk Z n0 R y bytes maxL ret l Q G) {a b : Int64} (hd : decode bytes pc = .ok (.lmul, 1)) (hq : pc + 1 = q) (K : G k n H q ls (.long (a * b) :: st)) : G k n H pc ls (.long b :: .long a :: st) := by
  subst hq; exact C.of K fun _ _ _ _ _ _ _ hx hby X s => XS.lmul X hx rfl (hb hby hd) rfl s
theorem own_Wk.land (C : own_Wk Z n0 R y bytes maxL ret l Q G) {a b : Int64} (hd : decode bytes pc = .ok (.land, 1)) (hq : pc + 1 = q) (K : G k n H q ls (.long (a &&& b) :: st)) : G k n H pc ls (.long b :: .long a :: st) := by
  subst hq; exact C.of K fun _ _ _ _ _ _ _ hx hby X s => XS.land X hx rfl (hb hby hd) rfl s
theorem own_Wk.lor (C : own_Wk Z n0 R y bytes maxL ret l Q G) {a b : Int64} (hd : decode bytes pc = .ok (.lor, 1)) (hq : pc + 1 = q) (K : G k n H q ls (.long (a ||| b) :: st)) : G k n H pc ls (.long b :: .long a :: st) := by
  subst hq; exact C.of K fun _ _ _ _ _ _ _ hx hby X s => XS.lor X hx rfl (hb hby hd) rfl s
theorem own_Wk.lxor (C : own_Wk Z n0 R y bytes maxL ret l Q G) {a b : Int64} (hd : decode bytes pc = .ok (.lxor, 1)) (hq : pc + 1 = q) (K : G k n H q ls (.long (a ^^^ b) :: st)) : G k n H pc ls (.long b :: .long a :: st) := by
  subst hq; exact C.of K fun _ _ _ _ _ _ _ hx hby X s => XS.lxor X hx rfl (hb hby hd) rfl s
theorem own_Wk.lshl (C : own_Wk Z n0 R y bytes maxL ret l Q G) {a : Int64} {b : Int32} (hd : decode bytes pc = .ok (.lshl, 1)) (hq : pc + 1 = q) (K : G k n H q ls (.long (a <<< (b &&& 0x3f).toInt64) :: st)) : G k n H pc ls (.int b :: .long a :: st) := by
  subst hq; exact C.of K fun _ _ _ _ _ _ _ hx hby X s => XS.lshl X hx rfl (hb hby hd) rfl s
theorem own_Wk.lshr (C : own_Wk Z n0 R y bytes maxL ret l Q G) {a : Int64} {b : Int32} (hd : decode bytes pc = .ok (.lshr, 1)) (hq : pc + 1 = q) (K : G k n H q ls (.long (a >>> (b &&& 0x3f).toInt64) :: st)) : G k n H pc ls (.int b :: .long a :: st) := by
  subst hq; exact C.of K fun _ _ _ _ _ _ _ hx hby X s => XS.lshr X hx rfl (hb hby hd) rfl s
theorem own_Wk.lushr (C : own_Wk Z n0 R y bytes maxL ret l Q G) {a : Int64} {b : Int32} (hd : decode bytes pc = .ok (.lushr, 1)) (hq : pc + 1 = q) (K : G k n H q ls (.long ((a.toUInt64 >>> (b &&& 0x3f).toInt64.toUInt64).toInt64) :: st)) : G k n H pc ls (.int b :: .long a :: st) := by
  subst hq; exact C.of K fun _ _ _ _ _ _ _ hx hby X s => XS.lushr X hx rfl (hb hby hd) rfl s
theorem own_Wk.idiv (C : own_Wk Z n0 R y bytes maxL ret l Q G) {a b : Int32} (hd : decode bytes pc = .ok (.idiv, 1)) (hy : b ≠ 0) (hq : pc + 1 = q) (K : G k n H q ls (.int (a / b) :: st)) : G k n H pc ls (.int b :: .int a :: st) := by
  subst hq; exact C.of K fun _ _ _ _ _ _ _ hx hby X s => XS.idiv X hx rfl (hb hby hd) rfl hy s
theorem own_Wk.irem (C : own_Wk Z n0 R y bytes maxL ret l Q G) {a b : Int32} (hd : decode bytes pc = .ok (.irem, 1)) (hy : b ≠ 0) (hq : pc + 1 = q) (K : G k n H q ls (.int (a % b) :: st)) : G k n H pc ls (.int b :: .int a :: st) := by
  subst hq; exact C.of K fun _ _ _ _ _ _ _ hx hby X s => XS.irem X hx rfl (hb hby hd) rfl hy (by rw [show a - a / b * b = a % b from irem_eq_mod a b]; exact s)
theorem own_Wk.ldiv (C : own_Wk Z n0 R y bytes maxL ret l Q G) {a b : Int64} (hd : decode bytes pc = .ok (.ldiv, 1)) (hy : b ≠ 0) (hq : pc + 1 = q) (K : G k n H q ls (.long (a / b) :: st)) : G k n H pc ls (.long b :: .long a :: st) := by
  subst hq; exact C.of K fun _ _ _ _ _ _ _ hx hby X s => XS.ldiv X hx rfl (hb hby hd) rfl hy s
theorem own_Wk.lrem (C : own_Wk Z n0 R y bytes maxL ret l Q G) {a b : Int64} (hd : decode bytes pc = .ok (.lrem, 1)) (hy : b ≠ 0) (hq : pc + 1 = q) (K : G k n H q ls (.long (a % b) :: st)) : G k n H pc ls (.long b :: .long a :: st) := by
  subst hq; exact C.of K fun _ _ _ _ _ _ _ hx hby X s => XS.lrem X hx rfl (hb hby hd) rfl hy (by rw [show a - a / b * b = a % b from lrem_mod a b]; exact s)
theorem own_Wk.ineg (C : own_Wk Z n0 R y bytes maxL ret l Q G) {a : Int32} (hd : decode bytes pc = .ok (.ineg, 1)) (hq : pc + 1 = q) (K : G k n H q ls (.int (-a) :: st)) : G k n H pc ls (.int a :: st) := by
  subst hq; exact C.of K fun _ _ _ _ _ _ _ hx hby X s => XS.ineg X hx rfl (hb hby hd) rfl s
theorem own_Wk.lneg (C : own_Wk Z n0 R y bytes maxL ret l Q G) {a : Int64} (hd : decode bytes pc = .ok (.lneg, 1)) (hq : pc + 1 = q) (K : G k n H q ls (.long (-a) :: st)) : G k n H pc ls (.long a :: st) := by
  subst hq; exact C.of K fun _ _ _ _ _ _ _ hx hby X s => XS.lneg X hx rfl (hb hby hd) rfl s
theorem own_Wk.i2l (C : own_Wk Z n0 R y bytes maxL ret l Q G) {a : Int32} (hd : decode bytes pc = .ok (.i2l, 1)) (hq : pc + 1 = q) (K : G k n H q ls (.long (a.toInt64) :: st)) : G k n H pc ls (.int a :: st) := by
  subst hq; exact C.of K fun _ _ _ _ _ _ _ hx hby X s => XS.i2l X hx rfl (hb hby hd) rfl s
theorem own_Wk.l2i (C : own_Wk Z n0 R y bytes maxL ret l Q G) {a : Int64} (hd : decode bytes pc = .ok (.l2i, 1)) (hq : pc + 1 = q) (K : G k n H q ls (.int (a.toInt32) :: st)) : G k n H pc ls (.long a :: st) := by
  subst hq; exact C.of K fun _ _ _ _ _ _ _ hx hby X s => XS.l2i X hx rfl (hb hby hd) rfl s
theorem own_Wk.i2b (C : own_Wk Z n0 R y bytes maxL ret l Q G) {a : Int32} (hd : decode bytes pc = .ok (.i2b, 1)) (hq : pc + 1 = q) (K : G k n H q ls (.int (a.toInt8.toInt32) :: st)) : G k n H pc ls (.int a :: st) := by
  subst hq; exact C.of K fun _ _ _ _ _ _ _ hx hby X s => XS.i2b X hx rfl (hb hby hd) rfl s
theorem own_Wk.dup (C : own_Wk Z n0 R y bytes maxL ret l Q G) {v : Value} (hd : decode bytes pc = .ok (.dup, 1)) (hc : v.category = 1) (hq : pc + 1 = q) (K : G k n H q ls (v :: v :: st)) : G k n H pc ls (v :: st) := by
  subst hq; exact C.of K fun _ _ _ _ _ _ _ hx hby X s => XS.dup X hx rfl (hb hby hd) rfl hc s
theorem own_Wk.pop (C : own_Wk Z n0 R y bytes maxL ret l Q G) {v : Value} (hd : decode bytes pc = .ok (.pop, 1)) (hc : v.category = 1) (hq : pc + 1 = q) (K : G k n H q ls st) : G k n H pc ls (v :: st) := by
  subst hq; exact C.of K fun _ _ _ _ _ _ _ hx hby X s => XS.pop X hx rfl (hb hby hd) rfl hc s
theorem own_Wk.iinc (C : own_Wk Z n0 R y bytes maxL ret l Q G) {j : Nat} {i : Int} {v z : Int32} (hd : decode bytes pc = .ok (.iinc j i, 3)) (hl : (Array.mk ls)[j]? = some (.val (.int v))) (hz : Int32.ofInt i = z) (hl' : storeLocals (Array.mk ls) j (.int (v + z)) = some (Array.mk ls')) (hq : pc + 3 = q) (K : G k n H q ls' st) : G k n H pc ls st := by
  subst hq hz; exact C.of K fun _ _ _ _ _ _ _ hx hby X s => XS.iinc X hx rfl (hb hby hd) hl hl' s
theorem own_Wk.goto (C : own_Wk Z n0 R y bytes maxL ret l Q G) {o : Int} (hd : decode bytes pc = .ok (.goto o, 3)) (ho : 0 ≤ (pc : Int) + o) (hq : ((pc : Int) + o).toNat = q) (K : G k n H q ls st) : G k n H pc ls st := by
  exact C.of K fun _ _ _ _ _ _ _ hx hby X s => XS.goto X hx rfl rfl (hb hby hd) ho hq s
theorem own_Wk.icmpLt (C : own_Wk Z n0 R y bytes maxL ret l Q G) {a b : Int32} {o : Int} (hd : decode bytes pc = .ok (.if_icmp .lt o, 3)) (ho : 0 ≤ (pc : Int) + o) (hq : ((pc : Int) + o).toNat = q) (hq' : pc + 3 = q') (T : a < b → G k n H q ls st) (F : ¬ a < b → G k n H q' ls st) : G k n H pc ls (.int b :: .int a :: st) := by
  subst hq hq'
  by_cases h : a < b
  · exact C.of (T h) fun _ _ _ _ _ _ _ hx hby X s => XS.icmpYes X hx rfl rfl (hb hby hd) rfl (tlt h).1 ho rfl s
  · exact C.of (F h) fun _ _ _ _ _ _ _ hx hby X s => XS.icmpNo X hx rfl (hb hby hd) rfl (flt h).1 s
theorem own_Wk.ifLt (C : own_Wk Z n0 R y bytes maxL ret l Q G) {a : Int32} {o : Int} (hd : decode bytes pc = .ok (.ifCond .lt o, 3)) (ho : 0 ≤ (pc : Int) + o) (hq : ((pc : Int) + o).toNat = q) (hq' : pc + 3 = q') (T : a < 0 → G k n H q ls st) (F : ¬ a < 0 → G k n H q' ls st) : G k n H pc ls (.int a :: st) := by
  subst hq hq'
  by_cases h : a < 0
  · exact C.of (T h) fun _ _ _ _ _ _ _ hx hby X s => XS.ifYes X hx rfl rfl (hb hby hd) rfl ((if0 _ _).trans (tlt h).1) ho rfl s
  · exact C.of (F h) fun _ _ _ _ _ _ _ hx hby X s => XS.ifNo X hx rfl (hb hby hd) rfl ((if0 _ _).trans (flt h).1) s
theorem own_Wk.icmpGe (C : own_Wk Z n0 R y bytes maxL ret l Q G) {a b : Int32} {o : Int} (hd : decode bytes pc = .ok (.if_icmp .ge o, 3)) (ho : 0 ≤ (pc : Int) + o) (hq : ((pc : Int) + o).toNat = q) (hq' : pc + 3 = q') (T : a < b → G k n H q' ls st) (F : ¬ a < b → G k n H q ls st) : G k n H pc ls (.int b :: .int a :: st) := by
  subst hq hq'
  by_cases h : a < b
  · exact C.of (T h) fun _ _ _ _ _ _ _ hx hby X s => XS.icmpNo X hx rfl (hb hby hd) rfl (tlt h).2.1 s
  · exact C.of (F h) fun _ _ _ _ _ _ _ hx hby X s => XS.icmpYes X hx rfl rfl (hb hby hd) rfl (flt h).2.1 ho rfl s
theorem own_Wk.ifGe (C : own_Wk Z n0 R y bytes maxL ret l Q G) {a : Int32} {o : Int} (hd : decode bytes pc = .ok (.ifCond .ge o, 3)) (ho : 0 ≤ (pc : Int) + o) (hq : ((pc : Int) + o).toNat = q) (hq' : pc + 3 = q') (T : a < 0 → G k n H q' ls st) (F : ¬ a < 0 → G k n H q ls st) : G k n H pc ls (.int a :: st) := by
  subst hq hq'
  by_cases h : a < 0
  · exact C.of (T h) fun _ _ _ _ _ _ _ hx hby X s => XS.ifNo X hx rfl (hb hby hd) rfl ((if0 _ _).trans (tlt h).2.1) s
  · exact C.of (F h) fun _ _ _ _ _ _ _ hx hby X s => XS.ifYes X hx rfl rfl (hb hby hd) rfl ((if0 _ _).trans (flt h).2.1) ho rfl s
theorem own_Wk.icmpGt (C : own_Wk Z n0 R y bytes maxL ret l Q G) {a b : Int32} {o : Int} (hd : decode bytes pc = .ok (.if_icmp .gt o, 3)) (ho : 0 ≤ (pc : Int) + o) (hq : ((pc : Int) + o).toNat = q) (hq' : pc + 3 = q') (T : b < a → G k n H q ls st) (F : ¬ b < a → G k n H q' ls st) : G k n H pc ls (.int b :: .int a :: st) := by
  subst hq hq'
  by_cases h : b < a
  · exact C.of (T h) fun _ _ _ _ _ _ _ hx hby X s => XS.icmpYes X hx rfl rfl (hb hby hd) rfl (tlt h).2.2.1 ho rfl s
  · exact C.of (F h) fun _ _ _ _ _ _ _ hx hby X s => XS.icmpNo X hx rfl (hb hby hd) rfl (flt h).2.2.1 s
theorem own_Wk.ifGt (C : own_Wk Z n0 R y bytes maxL ret l Q G) {a : Int32} {o : Int} (hd : decode bytes pc = .ok (.ifCond .gt o, 3)) (ho : 0 ≤ (pc : Int) + o) (hq : ((pc : Int) + o).toNat = q) (hq' : pc + 3 = q') (T : 0 < a → G k n H q ls st) (F : ¬ 0 < a → G k n H q' ls st) : G k n H pc ls (.int a :: st) := by
  subst hq hq'
  by_cases h : 0 < a
  · exact C.of (T h) fun _ _ _ _ _ _ _ hx hby X s => XS.ifYes X hx rfl rfl (hb hby hd) rfl ((if0 _ _).trans (tlt h).2.2.1) ho rfl s
  · exact C.of (F h) fun _ _ _ _ _ _ _ hx hby X s => XS.ifNo X hx rfl (hb hby hd) rfl ((if0 _ _).trans (flt h).2.2.1) s
theorem own_Wk.icmpLe (C : own_Wk Z n0 R y bytes maxL ret l Q G) {a b : Int32} {o : Int} (hd : decode bytes pc = .ok (.if_icmp .le o, 3)) (ho : 0 ≤ (pc : Int) + o) (hq : ((pc : Int) + o).toNat = q) (hq' : pc + 3 = q') (T : b < a → G k n H q' ls st) (F : ¬ b < a → G k n H q ls st) : G k n H pc ls (.int b :: .int a :: st) := by
  subst hq hq'
  by_cases h : b < a
  · exact C.of (T h) fun _ _ _ _ _ _ _ hx hby X s => XS.icmpNo X hx rfl (hb hby hd) rfl (tlt h).2.2.2 s
  · exact C.of (F h) fun _ _ _ _ _ _ _ hx hby X s => XS.icmpYes X hx rfl rfl (hb hby hd) rfl (flt h).2.2.2 ho rfl s
theorem own_Wk.ifLe (C : own_Wk Z n0 R y bytes maxL ret l Q G) {a : Int32} {o : Int} (hd : decode bytes pc = .ok (.ifCond .le o, 3)) (ho : 0 ≤ (pc : Int) + o) (hq : ((pc : Int) + o).toNat = q) (hq' : pc + 3 = q') (T : 0 < a → G k n H q' ls st) (F : ¬ 0 < a → G k n H q ls st) : G k n H pc ls (.int a :: st) := by
  subst hq hq'
  by_cases h : 0 < a
  · exact C.of (T h) fun _ _ _ _ _ _ _ hx hby X s => XS.ifNo X hx rfl (hb hby hd) rfl ((if0 _ _).trans (tlt h).2.2.2) s
  · exact C.of (F h) fun _ _ _ _ _ _ _ hx hby X s => XS.ifYes X hx rfl rfl (hb hby hd) rfl ((if0 _ _).trans (flt h).2.2.2) ho rfl s
theorem own_Wk.icmpEq (C : own_Wk Z n0 R y bytes maxL ret l Q G) {a b : Int32} {o : Int} (hd : decode bytes pc = .ok (.if_icmp .eq o, 3)) (ho : 0 ≤ (pc : Int) + o) (hq : ((pc : Int) + o).toNat = q) (hq' : pc + 3 = q') (T : a = b → G k n H q ls st) (F : ¬ a = b → G k n H q' ls st) : G k n H pc ls (.int b :: .int a :: st) := by
  subst hq hq'
  by_cases h : a = b
  · exact C.of (T h) fun _ _ _ _ _ _ _ hx hby X s => XS.icmpYes X hx rfl rfl (hb hby hd) rfl (teq h).1 ho rfl s
  · exact C.of (F h) fun _ _ _ _ _ _ _ hx hby X s => XS.icmpNo X hx rfl (hb hby hd) rfl (feq h).1 s
theorem own_Wk.ifEq (C : own_Wk Z n0 R y bytes maxL ret l Q G) {a : Int32} {o : Int} (hd : decode bytes pc = .ok (.ifCond .eq o, 3)) (ho : 0 ≤ (pc : Int) + o) (hq : ((pc : Int) + o).toNat = q) (hq' : pc + 3 = q') (T : a = 0 → G k n H q ls st) (F : ¬ a = 0 → G k n H q' ls st) : G k n H pc ls (.int a :: st) := by
  subst hq hq'
  by_cases h : a = 0
  · exact C.of (T h) fun _ _ _ _ _ _ _ hx hby X s => XS.ifYes X hx rfl rfl (hb hby hd) rfl ((if0 _ _).trans (teq h).1) ho rfl s
  · exact C.of (F h) fun _ _ _ _ _ _ _ hx hby X s => XS.ifNo X hx rfl (hb hby hd) rfl ((if0 _ _).trans (feq h).1) s
theorem own_Wk.icmpNe (C : own_Wk Z n0 R y bytes maxL ret l Q G) {a b : Int32} {o : Int} (hd : decode bytes pc = .ok (.if_icmp .ne o, 3)) (ho : 0 ≤ (pc : Int) + o) (hq : ((pc : Int) + o).toNat = q) (hq' : pc + 3 = q') (T : a = b → G k n H q' ls st) (F : ¬ a = b → G k n H q ls st) : G k n H pc ls (.int b :: .int a :: st) := by
  subst hq hq'
  by_cases h : a = b
  · exact C.of (T h) fun _ _ _ _ _ _ _ hx hby X s => XS.icmpNo X hx rfl (hb hby hd) rfl (teq h).2 s
  · exact C.of (F h) fun _ _ _ _ _ _ _ hx hby X s => XS.icmpYes X hx rfl rfl (hb hby hd) rfl (feq h).2 ho rfl s
theorem own_Wk.ifNe (C : own_Wk Z n0 R y bytes maxL ret l Q G) {a : Int32} {o : Int} (hd : decode bytes pc = .ok (.ifCond .ne o, 3)) (ho : 0 ≤ (pc : Int) + o) (hq : ((pc : Int) + o).toNat = q) (hq' : pc + 3 = q') (T : a = 0 → G k n H q' ls st) (F : ¬ a = 0 → G k n H q ls st) : G k n H pc ls (.int a :: st) := by
  subst hq hq'
  by_cases h : a = 0
  · exact C.of (T h) fun _ _ _ _ _ _ _ hx hby X s => XS.ifNo X hx rfl (hb hby hd) rfl ((if0 _ _).trans (teq h).2) s
  · exact C.of (F h) fun _ _ _ _ _ _ _ hx hby X s => XS.ifYes X hx rfl rfl (hb hby hd) rfl ((if0 _ _).trans (feq h).2) ho rfl s
theorem own_Wk.lcmp0 (C : own_Wk Z n0 R y bytes maxL ret l Q G) {a b : Int64} (hd : decode bytes pc = .ok (.lcmp, 1)) (hq : pc + 1 = q) (K : G k n H q ls (.int (lcmpW a b) :: st)) : G k n H pc ls (.long b :: .long a :: st) := by
  subst hq; exact C.of K fun _ _ _ _ _ _ _ hx hby X s => XS.lcmp X hx rfl (hb hby hd) rfl s
theorem own_Wk.lcmpLt (C : own_Wk Z n0 R y bytes maxL ret l Q G) {a b : Int64} {o : Int} (hd : decode bytes pc = .ok (.lcmp, 1)) {q1 : Nat} (h1 : pc + 1 = q1) (hd1 : decode bytes q1 = .ok (.ifCond .lt o, 3)) (ho : 0 ≤ (q1 : Int) + o) (hq : ((q1 : Int) + o).toNat = q) (hq' : q1 + 3 = q') (T : a < b → G k n H q ls st) (F : ¬ a < b → G k n H q' ls st) : G k n H pc ls (.long b :: .long a :: st) :=
  C.lcmp0 hd h1 (C.ifLt hd1 ho hq hq' (fun h => T ((lw_lt a b).mp h)) (fun h => F fun h' => h ((lw_lt a b).mpr h')))
theorem own_Wk.lcmpGe (C : own_Wk Z n0 R y bytes maxL ret l Q G) {a b : Int64} {o : Int} (hd : decode bytes pc = .ok (.lcmp, 1)) {q1 : Nat} (h1 : pc + 1 = q1) (hd1 : decode bytes q1 = .ok (.ifCond .ge o, 3)) (ho : 0 ≤ (q1 : Int) + o) (hq : ((q1 : Int) + o).toNat = q) (hq' : q1 + 3 = q') (T : a < b → G k n H q' ls st) (F : ¬ a < b → G k n H q ls st) : G k n H pc ls (.long b :: .long a :: st) :=
  C.lcmp0 hd h1 (C.ifGe hd1 ho hq hq' (fun h => T ((lw_lt a b).mp h)) (fun h => F fun h' => h ((lw_lt a b).mpr h')))
theorem own_Wk.lcmpGt (C : own_Wk Z n0 R y bytes maxL ret l Q G) {a b : Int64} {o : Int} (hd : decode bytes pc = .ok (.lcmp, 1)) {q1 : Nat} (h1 : pc + 1 = q1) (hd1 : decode bytes q1 = .ok (.ifCond .gt o, 3)) (ho : 0 ≤ (q1 : Int) + o) (hq : ((q1 : Int) + o).toNat = q) (hq' : q1 + 3 = q') (T : b < a → G k n H q ls st) (F : ¬ b < a → G k n H q' ls st) : G k n H pc ls (.long b :: .long a :: st) :=
  C.lcmp0 hd h1 (C.ifGt hd1 ho hq hq' (fun h => T ((lw_gt a b).mp h)) (fun h => F fun h' => h ((lw_gt a b).mpr h')))
theorem own_Wk.lcmpLe (C : own_Wk Z n0 R y bytes maxL ret l Q G) {a b : Int64} {o : Int} (hd : decode bytes pc = .ok (.lcmp, 1)) {q1 : Nat} (h1 : pc + 1 = q1) (hd1 : decode bytes q1 = .ok (.ifCond .le o, 3)) (ho : 0 ≤ (q1 : Int) + o) (hq : ((q1 : Int) + o).toNat = q) (hq' : q1 + 3 = q') (T : b < a → G k n H q' ls st) (F : ¬ b < a → G k n H q ls st) : G k n H pc ls (.long b :: .long a :: st) :=
  C.lcmp0 hd h1 (C.ifLe hd1 ho hq hq' (fun h => T ((lw_gt a b).mp h)) (fun h => F fun h' => h ((lw_gt a b).mpr h')))
theorem own_Wk.lcmpEq (C : own_Wk Z n0 R y bytes maxL ret l Q G) {a b : Int64} {o : Int} (hd : decode bytes pc = .ok (.lcmp, 1)) {q1 : Nat} (h1 : pc + 1 = q1) (hd1 : decode bytes q1 = .ok (.ifCond .eq o, 3)) (ho : 0 ≤ (q1 : Int) + o) (hq : ((q1 : Int) + o).toNat = q) (hq' : q1 + 3 = q') (T : a = b → G k n H q ls st) (F : ¬ a = b → G k n H q' ls st) : G k n H pc ls (.long b :: .long a :: st) :=
  C.lcmp0 hd h1 (C.ifEq hd1 ho hq hq' (fun h => T ((lw_eq a b).mp h)) (fun h => F fun h' => h ((lw_eq a b).mpr h')))
theorem own_Wk.lcmpNe (C : own_Wk Z n0 R y bytes maxL ret l Q G) {a b : Int64} {o : Int} (hd : decode bytes pc = .ok (.lcmp, 1)) {q1 : Nat} (h1 : pc + 1 = q1) (hd1 : decode bytes q1 = .ok (.ifCond .ne o, 3)) (ho : 0 ≤ (q1 : Int) + o) (hq : ((q1 : Int) + o).toNat = q) (hq' : q1 + 3 = q') (T : a = b → G k n H q' ls st) (F : ¬ a = b → G k n H q ls st) : G k n H pc ls (.long b :: .long a :: st) :=
  C.lcmp0 hd h1 (C.ifNe hd1 ho hq hq' (fun h => T ((lw_eq a b).mp h)) (fun h => F fun h' => h ((lw_eq a b).mpr h')))
theorem own_Wk.nonnullY (C : own_Wk Z n0 R y bytes maxL ret l Q G) {b : Addr} {o : Int} (hd : decode bytes pc = .ok (.ifnonnull o, 3)) (ho : 0 ≤ (pc : Int) + o) (hq : ((pc : Int) + o).toNat = q) (K : G k n H q ls st) : G k n H pc ls (.ref b :: st) := by
  exact C.of K fun _ _ _ _ _ _ _ hx hby X s => XS.ifnonnullYes X hx rfl rfl (hb hby hd) rfl ho hq s
theorem own_Wk.nonnullN (C : own_Wk Z n0 R y bytes maxL ret l Q G) {o : Int} (hd : decode bytes pc = .ok (.ifnonnull o, 3)) (hq : pc + 3 = q) (K : G k n H q ls st) : G k n H pc ls (.null :: st) := by
  subst hq; exact C.of K fun _ _ _ _ _ _ _ hx hby X s => XS.ifnonnullNo X hx rfl (hb hby hd) rfl s
theorem own_Wk.ldc (C : own_Wk Z n0 R y bytes maxL ret l Q G) {i : Nat} {v : Int32} (hd : decode bytes pc = .ok (.ldc i, 2)) (w : (Jvm.Cond.constant y.cls i v).before a0 Z = true) (hq : pc + 2 = q) (K : G k n H q ls (.int v :: st)) : G k n H pc ls st := by
  subst hq
  obtain ⟨p, e, s, m, args, below, meth, c, rfl, hx, hZ, hby, hml, hown, hnm, hret, hlk⟩ := C
  intro T L X N hH
  obtain ⟨t, o, stp, P⟩ := K T L X N hH
  exact ⟨t, o, X.ldcInt hx hown (mvT hZ w) (g := mkF m pc ⟨ls⟩ st) rfl (hb hby hd) _ stp, P⟩
theorem own_Wk.ldc2 (C : own_Wk Z n0 R y bytes maxL ret l Q G) {i : Nat} {v : Int64} (hd : decode bytes pc = .ok (.ldc2_w i, 3)) (w : (Jvm.Cond.constantLong y.cls i v).before a0 Z = true) (hq : pc + 3 = q) (K : G k n H q ls (.long v :: st)) : G k n H pc ls st := by
  subst hq
  obtain ⟨p, e, s, m, args, below, meth, c, rfl, hx, hZ, hby, hml, hown, hnm, hret, hlk⟩ := C
  intro T L X N hH
  obtain ⟨t, o, stp, P⟩ := K T L X N hH
  exact ⟨t, o, X.ldc2Long hx hown (mvT hZ w) (g := mkF m pc ⟨ls⟩ st) rfl (hb hby hd) _ stp, P⟩
-- returns
theorem own_Wk.retI {z : Int32} (C : own_Wk Z n0 R y bytes maxL (some .int) l Q G) (hd : decode bytes pc = .ok (.ireturn, 1)) (hk : k ≤ R.cells) (hn : n ≤ R.slots) (hQ : Q (some (.int z)) H) : G k n H pc ls (.int z :: st) := by
  obtain ⟨p, e, s, m, args, below, meth, c, rfl, hx, hZ, hby, hml, hown, hnm, hret, hlk⟩ := C
  intro T L X N hH
  obtain ⟨fs, hr, hrun, hended, hW, hsame⟩ := X.leave (v := some (.int z)) (fun h => by rw [hret] at h; cases h) hlk
  exact ⟨_, _, retOut X hx hret rfl (Or.inl ⟨rfl, Or.inl rfl, z, rfl⟩) (hb hby hd) hr, hrun, hended, _, _, rfl, ⟨N, H, hH, hQ⟩, ⟨_, rfl⟩, hW, hsame.mono hk hn⟩
theorem own_Wk.retJ {z : Int64} (C : own_Wk Z n0 R y bytes maxL (some .long) l Q G) (hd : decode bytes pc = .ok (.lreturn, 1)) (hk : k ≤ R.cells) (hn : n ≤ R.slots) (hQ : Q (some (.long z)) H) : G k n H pc ls (.long z :: st) := by
  obtain ⟨p, e, s, m, args, below, meth, c, rfl, hx, hZ, hby, hml, hown, hnm, hret, hlk⟩ := C
  intro T L X N hH
  obtain ⟨fs, hr, hrun, hended, hW, hsame⟩ := X.leave (v := some (.long z)) (fun h => by rw [hret] at h; cases h) hlk
  exact ⟨_, _, retOut X hx hret rfl (Or.inr (Or.inl ⟨rfl, rfl, z, rfl⟩)) (hb hby hd) hr, hrun, hended, _, _, rfl, ⟨N, H, hH, hQ⟩, ⟨_, rfl⟩, hW, hsame.mono hk hn⟩
theorem own_Wk.retA {t : FieldType} {v : Value} (C : own_Wk Z n0 R y bytes maxL (some t) l Q G) (ht : t.isReference = true) (hn' : narrow t v = v) (hv : v.isRef = true) (hd : decode bytes pc = .ok (.areturn, 1)) (hk : k ≤ R.cells) (hn : n ≤ R.slots) (hQ : Q (some v) H) : G k n H pc ls (v :: st) := by
  obtain ⟨p, e, s, m, args, below, meth, c, rfl, hx, hZ, hby, hml, hown, hnm, hret, hlk⟩ := C
  intro T L X N hH
  obtain ⟨fs, hr, hrun, hended, hW, hsame⟩ := X.leave (v := some v) (fun h => by rw [hret] at h; cases h) hlk
  exact ⟨_, _, retOut X hx hret hn' (Or.inr (Or.inr (Or.inr (Or.inr ⟨rfl, ht, hv⟩)))) (hb hby hd) hr, hrun, hended, _, _, rfl, ⟨N, H, hH, hQ⟩, ⟨_, rfl⟩, hW, hsame.mono hk hn⟩
theorem own_Wk.retB {t : FieldType} {z : Int32} (C : own_Wk Z n0 R y bytes maxL (some t) l Q G) (ht : t = .boolean ∨ t = .byte ∨ t = .char ∨ t = .short) (hd : decode bytes pc = .ok (.ireturn, 1)) (hk : k ≤ R.cells) (hn : n ≤ R.slots) (hQ : Q (some (.int (nar t z))) H) : G k n H pc ls (.int z :: st) := by
  obtain ⟨p, e, s, m, args, below, meth, c, rfl, hx, hZ, hby, hml, hown, hnm, hret, hlk⟩ := C
  intro T L X N hH
  obtain ⟨fs, hr, hrun, hended, hW, hsame⟩ := X.leave (v := some (.int (nar t z))) (fun h => by rw [hret] at h; cases h) hlk
  exact ⟨_, _, retN X hx hret ht (hb hby hd) hr, hrun, hended, _, _, rfl, ⟨N, H, hH, hQ⟩, ⟨_, rfl⟩, hW, hsame.mono hk hn⟩
theorem own_Wk.retV (C : own_Wk Z n0 R y bytes maxL none l Q G) (hd : decode bytes pc = .ok (.return_, 1)) (hk : k ≤ R.cells) (hn : n ≤ R.slots) (hQ : Q none H) : G k n H pc ls [] := by
  obtain ⟨p, e, s, m, args, below, meth, c, rfl, hx, hZ, hby, hml, hown, hnm, hret, hlk⟩ := C
  intro T L X N hH
  obtain ⟨fs, hr, hrun, hended, hW, hsame⟩ := X.leave (v := none) (fun _ => rfl) hlk
  exact ⟨_, _, X.returnOut hx hret (hb hby hd) hr, hrun, hended, _, _, rfl, ⟨N, H, hH, hQ⟩, ⟨_, rfl⟩, hW, hsame.mono hk hn⟩
-- the abstract heap
theorem own_is_ext {h h' : Heap} {a : Addr} {o : own_Ob} (E : Ext h h') (F : own_is Z h a o) : own_is Z h' a o := by
  match o, F with
  | .inl q, F => obtain ⟨c, A, r⟩ := F; exact ⟨c, A.ext E, r⟩
  | .inr q, F => exact ⟨F.1.ext E, F.2.1, fun i f hf => (F.2.2 i f hf).ext E⟩
theorem own_is_ne {h h' : Heap} {a b : Addr} {sl : Nat} {v : Value} {o : own_Ob} (W : Wr h h' a sl v) (hne : b ≠ a) (F : own_is Z h b o) : own_is Z h' b o := by
  match o, F with
  | .inl q, F => obtain ⟨c, A, r⟩ := F; exact ⟨c, A.other W hne, r⟩
  | .inr q, F => exact ⟨F.1.wr W, F.2.1, fun i f hf => (F.2.2 i f hf).other W (Or.inl hne)⟩
theorem own_Hp_new {h h' : Heap} {o : own_Ob} (P : own_Hp Z n0 h H) (E : Ext h h') (hlt : h.size < h'.size) (F : own_is Z h' h.size o) : own_Hp Z n0 h' (H ++ [(h.size, o)]) := by
  obtain ⟨p1, p2, p3⟩ := P
  have key : ∀ (i : Nat) (a : Addr) (o' : own_Ob), (H ++ [(h.size, o)])[i]? = some (a, o') → (H[i]? = some (a, o') ∧ i < H.length) ∨ (i = H.length ∧ a = h.size ∧ o' = o) := by
    intro i a o' hi
    by_cases q : i < H.length
    · rw [List.getElem?_append_left q] at hi; exact Or.inl ⟨hi, q⟩
    · rw [List.getElem?_append_right (by omega)] at hi
      obtain ⟨j, hj⟩ : ∃ j, j = i - H.length := ⟨_, rfl⟩
      rw [← hj] at hi
      match j, hj, hi with
      | 0, hj, hi => exact Or.inr ⟨by omega, by simpa using (Prod.mk.inj (Option.some.inj hi)).1.symm, by simpa using (Prod.mk.inj (Option.some.inj hi)).2.symm⟩
      | j + 1, _, hi => simp at hi
  refine ⟨Nat.le_trans p1 E.1, fun i j a o1 o2 hi hj => ?_, fun i a o' hi => ?_⟩
  · rcases key i a o1 hi with ⟨h1, l1⟩ | ⟨h1, h2, -⟩ <;> rcases key j a o2 hj with ⟨g1, l2⟩ | ⟨g1, g2, -⟩
    · exact p2 i j a o1 o2 h1 g1
    · exact absurd (p3 i a o1 h1).2.1 (by rw [g2]; exact Nat.lt_irrefl _)
    · exact absurd (p3 j a o2 g1).2.1 (by rw [h2]; exact Nat.lt_irrefl _)
    · rw [h1, g1]
  · rcases key i a o' hi with ⟨h1, -⟩ | ⟨-, rfl, rfl⟩
    · obtain ⟨r1, r2, r3⟩ := p3 i a o' h1
      exact ⟨r1, Nat.lt_of_lt_of_le r2 E.1, own_is_ext E r3⟩
    · exact ⟨p1, hlt, F⟩
theorem own_Hp_set {h h' : Heap} {i : Nat} {a : Addr} {o o' : own_Ob} {sl : Nat} {v : Value} (P : own_Hp Z n0 h H) (hi : H[i]? = some (a, o)) (W : Wr h h' a sl v) (F : own_is Z h' a o') : own_Hp Z n0 h' (H.set i (a, o')) := by
  obtain ⟨p1, p2, p3⟩ := P
  have key : ∀ (j : Nat) (b : Addr) (ob : own_Ob), (H.set i (a, o'))[j]? = some (b, ob) → (j = i ∧ b = a ∧ ob = o') ∨ (j ≠ i ∧ H[j]? = some (b, ob)) := by
    intro j b ob hj
    rw [List.getElem?_set] at hj
    by_cases q : i = j
    · subst q
      rw [if_pos rfl] at hj
      split at hj
      · exact Or.inl ⟨rfl, (Prod.mk.inj (Option.some.inj hj)).1.symm, (Prod.mk.inj (Option.some.inj hj)).2.symm⟩
      · cases hj
    · rw [if_neg q] at hj; exact Or.inr ⟨fun z => q z.symm, hj⟩
  refine ⟨by rw [W.size]; exact p1, fun j j' b o1 o2 hj hj' => ?_, fun j b ob hj => ?_⟩
  · rcases key j b o1 hj with ⟨h1, h2, -⟩ | ⟨h1, h2⟩ <;> rcases key j' b o2 hj' with ⟨g1, g2, -⟩ | ⟨g1, g2⟩
    · rw [h1, g1]
    · subst h2; rw [h1]; exact p2 i j' _ o o2 hi g2
    · subst g2; rw [g1]; exact (p2 i j _ o o1 hi h2).symm
    · exact p2 j j' b o1 o2 h2 g2
  · rw [W.size]
    rcases key j b ob hj with ⟨-, rfl, rfl⟩ | ⟨h1, h2⟩
    · obtain ⟨r1, r2, -⟩ := p3 i _ _ hi; exact ⟨r1, r2, F⟩
    · obtain ⟨r1, r2, r3⟩ := p3 j b ob h2
      exact ⟨r1, r2, own_is_ne W (fun z => h1 (by subst z; exact (p2 i j _ o ob hi h2).symm)) r3⟩
-- arrays
theorem own_Wk.alen (C : own_Wk Z n0 R y bytes maxL ret l Q G) (i : Nat) {a : Addr} {ty : FieldType} {vs : List Value} {z : Int32} (hd : decode bytes pc = .ok (.arraylength, 1)) (hi : H[i]? = some (a, .inl (ty, vs))) (hz : vs.length.toInt32 = z) (hq : pc + 1 = q) (K : G k n H q ls (.int z :: st)) : G k n H pc ls (.ref a :: st) := by
  subst hq hz
  obtain ⟨p, e, s, m, args, below, meth, c, rfl, hx, hZ, hby, hml, hown, hnm, hret, hlk⟩ := C
  intro T L X N hH
  obtain ⟨-, -, cl, A, hc⟩ := hH.2.2 i _ _ hi
  obtain ⟨t, o, stp, P⟩ := K T L X N hH
  have hc' : cl.slots.toList = vs := hc
  refine ⟨t, o, X.arraylength hx (cell := cl) A.1 (State.isArrayOf_alike hZ.alike A.2.1) (g := mkF m pc ⟨ls⟩ (.ref a :: st)) rfl rfl (hb hby hd) _ ?_, P⟩
  rw [show cl.slots.size = vs.length by rw [← hc', Array.length_toList]]
  exact stp
theorem own_at {cl : Cell} {vs : List Value} {j : Int32} {v : Value} (hc : cl.slots.toList = vs) (h0 : ¬ j < 0) (hv : vs[j.toNatClampNeg]? = some v) : ¬ (j < 0 ∨ cl.slots.size ≤ j.toNatClampNeg) ∧ cl.slots[j.toNatClampNeg]? = some v := by
  rw [← hc, Array.getElem?_toList] at hv
  exact ⟨fun z => z.elim h0 fun z => by have := (Array.getElem?_eq_some_iff.mp hv).1; omega, hv⟩
theorem own_in {cl : Cell} {vs : List Value} {j : Int32} (hc : cl.slots.toList = vs) (h0 : ¬ j < 0) (hj : j.toNatClampNeg < vs.length) : ¬ (j < 0 ∨ cl.slots.size ≤ j.toNatClampNeg) :=
  fun z => z.elim h0 fun z => by rw [← hc, Array.length_toList] at hj; omega
theorem own_Wk.iaload (C : own_Wk Z n0 R y bytes maxL ret l Q G) (i : Nat) {a : Addr} {vs : List Value} {j : Int32} {v : Value} (hd : decode bytes pc = .ok (.iaload, 1)) (hi : H[i]? = some (a, .inl (.int, vs))) (h0 : ¬ j < 0) (hv : vs[j.toNatClampNeg]? = some v) (hq : pc + 1 = q) (K : G k n H q ls (v :: st)) : G k n H pc ls (.int j :: .ref a :: st) := by
  subst hq
  obtain ⟨p, e, s, m, args, below, meth, c, rfl, hx, hZ, hby, hml, hown, hnm, hret, hlk⟩ := C
  intro T L X N hH
  obtain ⟨-, -, cl, A, hc⟩ := hH.2.2 i _ _ hi
  obtain ⟨t, o, stp, P⟩ := K T L X N hH
  have q2 := own_at hc h0 hv
  exact ⟨t, o, X.iaload hx (j := j) (v := v) A.1 (State.isArrayOf_alike hZ.alike A.2.1) A.2.2 q2.1 q2.2 (g := mkF m pc ⟨ls⟩ (.int j :: .ref a :: st)) rfl rfl (hb hby hd) _ stp, P⟩
theorem own_Wk.laload (C : own_Wk Z n0 R y bytes maxL ret l Q G) (i : Nat) {a : Addr} {vs : List Value} {j : Int32} {v : Value} (hd : decode bytes pc = .ok (.laload, 1)) (hi : H[i]? = some (a, .inl (.long, vs))) (h0 : ¬ j < 0) (hv : vs[j.toNatClampNeg]? = some v) (hq : pc + 1 = q) (K : G k n H q ls (v :: st)) : G k n H pc ls (.int j :: .ref a :: st) := by
  subst hq
  obtain ⟨p, e, s, m, args, below, meth, c, rfl, hx, hZ, hby, hml, hown, hnm, hret, hlk⟩ := C
  intro T L X N hH
  obtain ⟨-, -, cl, A, hc⟩ := hH.2.2 i _ _ hi
  obtain ⟨t, o, stp, P⟩ := K T L X N hH
  have q2 := own_at hc h0 hv
  exact ⟨t, o, X.laload hx (j := j) (v := v) A.1 (State.isArrayOf_alike hZ.alike A.2.1) A.2.2 q2.1 q2.2 (g := mkF m pc ⟨ls⟩ (.int j :: .ref a :: st)) rfl rfl (hb hby hd) _ stp, P⟩
theorem own_Wk.baload (C : own_Wk Z n0 R y bytes maxL ret l Q G) (i : Nat) {a : Addr} {vs : List Value} {j : Int32} {v : Value} (hd : decode bytes pc = .ok (.baload, 1)) (hi : H[i]? = some (a, .inl (.byte, vs))) (h0 : ¬ j < 0) (hv : vs[j.toNatClampNeg]? = some v) (hq : pc + 1 = q) (K : G k n H q ls (v :: st)) : G k n H pc ls (.int j :: .ref a :: st) := by
  subst hq
  obtain ⟨p, e, s, m, args, below, meth, c, rfl, hx, hZ, hby, hml, hown, hnm, hret, hlk⟩ := C
  intro T L X N hH
  obtain ⟨-, -, cl, A, hc⟩ := hH.2.2 i _ _ hi
  obtain ⟨t, o, stp, P⟩ := K T L X N hH
  have q2 := own_at hc h0 hv
  exact ⟨t, o, X.baloadBytes hx (j := j) (v := v) A.1 (State.isArrayOf_alike hZ.alike A.2.1) A.2.2 q2.1 q2.2 (g := mkF m pc ⟨ls⟩ (.int j :: .ref a :: st)) rfl rfl (hb hby hd) _ stp, P⟩
theorem own_arr_set {h h' : Heap} {a : Addr} {cl : Cell} {ty : FieldType} {vs : List Value} {j : Nat} {v : Value} (A : Arr Z h a cl ty) (hc : cl.slots.toList = vs) (W : Wr h h' a j v) : own_is Z h' a (.inl (ty, vs.set j v)) := by
  refine ⟨cl.setSlot j v, A.same W, ?_⟩
  show (cl.slots.setIfInBounds j v).toList = vs.set j v
  rw [Array.toList_setIfInBounds, hc]
theorem own_Wk.iastore (C : own_Wk Z n0 R y bytes maxL ret l Q G) (i : Nat) {a : Addr} {vs : List Value} {j x : Int32} {H' : own_Hs} (hd : decode bytes pc = .ok (.iastore, 1)) (hi : H[i]? = some (a, .inl (.int, vs))) (h0 : ¬ j < 0) (hj : j.toNatClampNeg < vs.length) (hH' : H.set i (a, .inl (.int, vs.set j.toNatClampNeg (.int x))) = H') (hq : pc + 1 = q) (K : G k n H' q ls st) : G k n H pc ls (.int x :: .int j :: .ref a :: st) := by
  subst hq hH'
  obtain ⟨p, e, s, m, args, below, meth, c, rfl, hx, hZ, hby, hml, hown, hnm, hret, hlk⟩ := C
  intro T L X N hH
  obtain ⟨g1, -, cl, A, hc⟩ := hH.2.2 i _ _ hi
  obtain ⟨T', h', X', e', W, stp⟩ := stI X hx hZ rfl A (own_in hc h0 hj) (g := mkF m pc ⟨ls⟩ (.int x :: .int j :: .ref a :: st)) rfl rfl (hb hby hd)
  obtain ⟨t, o, st2, P⟩ := K T' _ X' (Fr.snoc X' N g1) (by rw [e']; exact own_Hp_set hH hi W (own_arr_set A hc W))
  exact ⟨t, o, stp _ st2, P⟩
theorem own_Wk.lastore (C : own_Wk Z n0 R y bytes maxL ret l Q G) (i : Nat) {a : Addr} {vs : List Value} {j : Int32} {x : Int64} {H' : own_Hs} (hd : decode bytes pc = .ok (.lastore, 1)) (hi : H[i]? = some (a, .inl (.long, vs))) (h0 : ¬ j < 0) (hj : j.toNatClampNeg < vs.length) (hH' : H.set i (a, .inl (.long, vs.set j.toNatClampNeg (.long x))) = H') (hq : pc + 1 = q) (K : G k n H' q ls st) : G k n H pc ls (.long x :: .int j :: .ref a :: st) := by
  subst hq hH'
  obtain ⟨p, e, s, m, args, below, meth, c, rfl, hx, hZ, hby, hml, hown, hnm, hret, hlk⟩ := C
  intro T L X N hH
  obtain ⟨g1, -, cl, A, hc⟩ := hH.2.2 i _ _ hi
  obtain ⟨T', h', X', e', W, stp⟩ := stJ X hx hZ rfl A (own_in hc h0 hj) (g := mkF m pc ⟨ls⟩ (.long x :: .int j :: .ref a :: st)) rfl rfl (hb hby hd)
  obtain ⟨t, o, st2, P⟩ := K T' _ X' (Fr.snoc X' N g1) (by rw [e']; exact own_Hp_set hH hi W (own_arr_set A hc W))
  exact ⟨t, o, stp _ st2, P⟩
theorem own_Wk.bastore (C : own_Wk Z n0 R y bytes maxL ret l Q G) (i : Nat) {a : Addr} {vs : List Value} {j x : Int32} {H' : own_Hs} (hd : decode bytes pc = .ok (.bastore, 1)) (hi : H[i]? = some (a, .inl (.byte, vs))) (h0 : ¬ j < 0) (hj : j.toNatClampNeg < vs.length) (hH' : H.set i (a, .inl (.byte, vs.set j.toNatClampNeg (.int (nar .byte x)))) = H') (hq : pc + 1 = q) (K : G k n H' q ls st) : G k n H pc ls (.int x :: .int j :: .ref a :: st) := by
  subst hq hH'
  obtain ⟨p, e, s, m, args, below, meth, c, rfl, hx, hZ, hby, hml, hown, hnm, hret, hlk⟩ := C
  intro T L X N hH
  obtain ⟨g1, -, cl, A, hc⟩ := hH.2.2 i _ _ hi
  obtain ⟨T', h', X', e', W, stp⟩ := stB X hx hZ rfl A (own_in hc h0 hj) (g := mkF m pc ⟨ls⟩ (.int x :: .int j :: .ref a :: st)) rfl rfl (hb hby hd)
  obtain ⟨t, o, st2, P⟩ := K T' _ X' (Fr.snoc X' N g1) (by rw [e']; exact own_Hp_set hH hi W (own_arr_set A hc W))
  exact ⟨t, o, stp _ st2, P⟩
theorem own_Wk.newarr (C : own_Wk Z n0 R y bytes maxL ret l Q G) (cap : Nat) {aty : ArrayType} {z : Int32} {ty : FieldType} {vs : List Value} {k' n' : Nat} (hd : decode bytes pc = .ok (.newarray aty, 2)) (w : (Jvm.Cond.arrayClass (newarray.typeOf aty)).before a0 Z = true) (hz : ¬ z < 0) (hcap : z.toNatClampNeg ≤ cap) (hb8 : cap * 8 ≤ 536870912) (hc : k + 1 ≤ R.cells) (hl : n + cap ≤ R.slots)
    (hty : newarray.typeOf aty = ty) (hvs : List.replicate z.toNatClampNeg (defaultValue ty) = vs) (hk' : k + 1 = k') (hn' : n + cap = n') (hq : pc + 2 = q) (K : ∀ a, G k' n' (H ++ [(a, .inl (ty, vs))]) q ls (.ref a :: st)) : G k n H pc ls (.int z :: st) := by
  subst hq hvs hty hk' hn'
  obtain ⟨p, e, s, m, args, below, meth, c, rfl, hx, hZ, hby, hml, hown, hnm, hret, hlk⟩ := C
  intro T L X N hH
  obtain ⟨T', h', cA, X', e', E, A, stp⟩ := newP X hx hZ w rfl (g := mkF m pc ⟨ls⟩ (.int z :: st)) rfl (hb hby hd) rfl hz hcap hb8 hc hl
  obtain ⟨t, o, st2, P⟩ := K T.heap.size T' _ X' N (by
    rw [e']
    refine own_Hp_new hH E A.lt ⟨_, A, ?_⟩
    show (newA cA (newarray.typeOf aty) z).slots.toList = _
    simp only [newA, Array.toList_replicate])
  exact ⟨t, o, stp _ st2, P⟩
-- objects
def own_Laid (Z : State) (a0 : Array Value) (Cn : String) : List (String × String × FieldType) → Prop
  | [] => True
  | d :: r => (Laid Z a0 Cn Cn d.1 d.2.1 ∧ parseFieldDescriptor d.2.1 = some d.2.2) ∧ own_Laid Z a0 Cn r
theorem own_Laid.at {Cn : String} : ∀ {ds : List (String × String × FieldType)} {i : Nat} {d : String × String × FieldType}, own_Laid Z a0 Cn ds → ds[i]? = some d → Laid Z a0 Cn Cn d.1 d.2.1 ∧ parseFieldDescriptor d.2.1 = some d.2.2
  | [], _, _, _, h => by simp at h
  | d0 :: r, 0, d, L, h => by cases Option.some.inj h; exact L.1
  | d0 :: r, i + 1, d, L, h => own_Laid.at L.2 (by simpa using h)
def own_diff : List String → Bool
  | [] => true
  | x :: r => (r.all fun z => z != x) && own_diff r
theorem own_diff.inj : ∀ {xs : List String} {i j : Nat} {s : String}, own_diff xs = true → xs[i]? = some s → xs[j]? = some s → i = j
  | [], _, _, _, _, h, _ => by simp at h
  | x :: r, 0, 0, _, _, _, _ => rfl
  | x :: r, 0, j + 1, s, D, h, g => by
    simp only [own_diff, Bool.and_eq_true, List.all_eq_true, bne_iff_ne] at D
    cases Option.some.inj h
    exact absurd rfl (D.1 _ (List.mem_of_getElem? (by simpa using g)))
  | x :: r, i + 1, 0, s, D, h, g => by
    simp only [own_diff, Bool.and_eq_true, List.all_eq_true, bne_iff_ne] at D
    cases Option.some.inj g
    exact absurd rfl (D.1 _ (List.mem_of_getElem? (by simpa using h)))
  | x :: r, i + 1, j + 1, s, D, h, g => by
    simp only [own_diff, Bool.and_eq_true] at D
    exact congrArg (· + 1) (own_diff.inj (s := s) D.2 (by simpa using h) (by simpa using g))
theorem own_Wk.newobj (C : own_Wk Z n0 R y bytes maxL ret l Q G) (ds : List (String × String × FieldType)) {Cn : String} {ix nn k' n' : Nat} {fs : List (String × String × Value)} (hd : decode bytes pc = .ok (.new ix, 3)) (w1 : (Jvm.Cond.classLink y.cls ix Cn).before a0 Z = true) (w2 : (Jvm.Cond.instantiable Cn nn).before a0 Z = true) (w3 : (Jvm.Cond.initialized Cn).before a0 Z = true)
    (hL : own_Laid Z a0 Cn ds) (hdf : own_diff (ds.map fun d => d.1) = true) (hc : k + 1 ≤ R.cells) (hl : n + nn ≤ R.slots) (hfs : ds.map (fun d => (d.1, d.2.1, defaultValue d.2.2)) = fs) (hk' : k + 1 = k') (hn' : n + nn = n') (hq : pc + 3 = q)
    (K : ∀ a, G k' n' (H ++ [(a, .inr (Cn, fs))]) q ls (.ref a :: st)) : G k n H pc ls st := by
  subst hq hfs hk' hn'
  obtain ⟨p, e, s, m, args, below, meth, c, rfl, hx, hZ, hby, hml, hown, hnm, hret, hlk⟩ := C
  intro T L X N hH
  obtain ⟨T', h', X', e', E, A, D, -, stp⟩ := newO X hx hZ hown w1 w2 w3 rfl (g := mkF m pc ⟨ls⟩ st) rfl (hb hby hd) hc hl
  have at_ : ∀ (i : Nat) (f : String × String × Value), (ds.map (fun d => (d.1, d.2.1, defaultValue d.2.2)))[i]? = some f → ∃ d : String × String × FieldType, ds[i]? = some d ∧ f = (d.1, d.2.1, defaultValue d.2.2) := by
    intro i f hf
    rw [List.getElem?_map] at hf
    obtain ⟨d, h1, h2⟩ := Option.map_eq_some_iff.mp hf
    exact ⟨d, h1, h2.symm⟩
  obtain ⟨t, o, st2, P⟩ := K T.heap.size T' _ X' N (by
    rw [e']
    refine own_Hp_new hH E A.lt ⟨A, fun i j f g hf hg hs => ?_, fun i f hf => ?_⟩
    · obtain ⟨d, h1, rfl⟩ := at_ i f hf
      obtain ⟨d', h1', rfl⟩ := at_ j g hg
      by_cases hn : d.1 = d'.1
      · exact own_diff.inj hdf (s := d.1) (by rw [List.getElem?_map, h1]; rfl) (by rw [List.getElem?_map, h1', hn]; rfl)
      · exact absurd hs (slot_ne (hL.at h1).1 (hL.at h1').1 hn (hL.at h1).2 (hL.at h1').2)
    · obtain ⟨d, h1, rfl⟩ := at_ i f hf
      exact D (hL.at h1).1 (hL.at h1).2)
  exact ⟨t, o, stp _ st2, P⟩
theorem own_Wk.getf (C : own_Wk Z n0 R y bytes maxL ret l Q G) (i j : Nat) {ix : Nat} {Cn nm ds : String} {a : Addr} {fs : List (String × String × Value)} {v : Value} (hd : decode bytes pc = .ok (.getfield ix, 3)) (w : (Jvm.Cond.fieldLink y.cls ix Cn nm ds).before a0 Z = true)
    (hi : H[i]? = some (a, .inr (Cn, fs))) (hj : fs[j]? = some (nm, ds, v)) (hq : pc + 3 = q) (K : G k n H q ls (v :: st)) : G k n H pc ls (.ref a :: st) := by
  subst hq
  obtain ⟨p, e, s, m, args, below, meth, c, rfl, hx, hZ, hby, hml, hown, hnm, hret, hlk⟩ := C
  intro T L X N hH
  obtain ⟨-, -, hE, hS, hF⟩ := hH.2.2 i _ _ hi
  obtain ⟨T', X', e', stp⟩ := getF X hx hZ hown (host := "") (Or.inl w) Via.refl rfl (hF j _ hj) (g := mkF m pc ⟨ls⟩ (.ref a :: st)) rfl rfl (hb hby hd)
  obtain ⟨t, o, st2, P⟩ := K T' _ X' N (by rw [e']; exact hH)
  exact ⟨t, o, stp _ st2, P⟩
theorem own_Wk.putf (C : own_Wk Z n0 R y bytes maxL ret l Q G) (i j : Nat) {ix kk : Nat} {Cn nm ds : String} {a : Addr} {fs : List (String × String × Value)} {v old : Value} {ty : FieldType} {H' : own_Hs} (hd : decode bytes pc = .ok (.putfield ix, 3)) (w : (Jvm.Cond.fieldLink y.cls ix Cn nm ds).before a0 Z = true)
    (hL : (Jvm.Cond.lays Cn Cn nm ds).before a0 Z = true ∨ ((Jvm.Cond.laysFinal Cn Cn nm ds).before a0 Z = true ∧ y.cls = Cn ∧ y.name = "<init>")) (wi : (Jvm.Cond.instantiable Cn kk).before a0 Z = true)
    (hi : H[i]? = some (a, .inr (Cn, fs))) (hj : fs[j]? = some (nm, ds, old)) (hty : parseFieldDescriptor ds = some ty) (hn' : narrow ty v = v) (hf : fits ty v = true) (hH' : H.set i (a, .inr (Cn, fs.set j (nm, ds, v))) = H') (hq : pc + 3 = q) (K : G k n H' q ls st) : G k n H pc ls (v :: .ref a :: st) := by
  subst hq hH'
  obtain ⟨p, e, s, m, args, below, meth, c, rfl, hx, hZ, hby, hml, hown, hnm, hret, hlk⟩ := C
  intro T L X N hH
  obtain ⟨g1, -, hE, hS, hF⟩ := hH.2.2 i _ _ hi
  obtain ⟨T', h', X', e', W, stp⟩ := putF X hx hZ hown (host := "") (Or.inl w) Via.refl rfl (hF j _ hj) hE (hL.imp id fun z => ⟨z.1, z.2.1, hnm.trans z.2.2⟩) wi hty hn' hf (g := mkF m pc ⟨ls⟩ (v :: .ref a :: st)) rfl rfl (hb hby hd)
  have key : ∀ (i' : Nat) (f : String × String × Value), (fs.set j (nm, ds, v))[i']? = some f → (i' = j ∧ f = (nm, ds, v)) ∨ (i' ≠ j ∧ fs[i']? = some f) := by
    intro i' f hf'
    rw [List.getElem?_set] at hf'
    by_cases q : j = i'
    · subst q
      rw [if_pos rfl] at hf'
      split at hf'
      · exact Or.inl ⟨rfl, (Option.some.inj hf').symm⟩
      · cases hf'
    · rw [if_neg q] at hf'; exact Or.inr ⟨fun z => q z.symm, hf'⟩
  obtain ⟨t, o, st2, P⟩ := K T' _ X' (Fr.snoc X' N g1) (by
    rw [e']
    refine own_Hp_set hH hi W ⟨hE.wr W, fun i1 j1 f g h1 h2 hs => ?_, fun i1 f h1 => ?_⟩
    · rcases key i1 f h1 with ⟨z1, rfl⟩ | ⟨z1, z2⟩ <;> rcases key j1 g h2 with ⟨y1, rfl⟩ | ⟨y1, y2⟩
      · rw [z1, y1]
      · rw [z1]; exact hS j j1 (nm, ds, old) g hj y2 hs
      · rw [y1]; exact hS i1 j f (nm, ds, old) z2 hj hs
      · exact hS i1 j1 f g z2 y2 hs
    · rcases key i1 f h1 with ⟨z1, rfl⟩ | ⟨z1, z2⟩
      · exact (hF j _ hj).same W
      · exact (hF i1 f z2).other W (Or.inr fun z => z1 (hS i1 j f (nm, ds, old) z2 hj z)))
  exact ⟨t, o, stp _ st2, P⟩
theorem own_Wk.initO (C : own_Wk Z n0 R y bytes maxL ret l Q G) (W : Nat) {ix : Nat} {a : Addr} (hd : decode bytes pc = .ok (.invokespecial ix, 3)) (w1 : (Jvm.Cond.methodLink y.cls ix Lib.objectInit).before a0 Z = true) (w2 : (Jvm.Cond.instanceMethod Lib.objectInit).before a0 Z = true) (w3 : (Jvm.Cond.code Lib.objectInit ⟨#[0xb1]⟩ 1 none).before a0 Z = true)
    (hls : ls.length = maxL) (hf : 1 ≤ R.frames) (hW : (st.map fun v => v.category).sum ≤ W) (hl : W + 12 ≤ R.locals) (hq : pc + 3 = q) (K : G k n H q ls st) : G k n H pc ls (.ref a :: st) := by
  subst hq
  obtain ⟨p, e, s, m, args, below, meth, c, rfl, hx, hZ, hby, hml, hown, hnm, hret, hlk⟩ := C
  intro T L X N hH
  obtain ⟨T', X', e', stp⟩ := RoadKit.initO X hx hZ hown w1 w2 w3 rfl (g := mkF m pc ⟨ls⟩ (.ref a :: st)) rfl (by rw [hml]; exact hls) rfl (hb hby hd) hf (W := W) (by show 2 * 0 + _ ≤ _; rw [Nat.mul_zero, Nat.zero_add]; exact hW) hl
  obtain ⟨t, o, st2, P⟩ := K T' _ X' N (by rw [e']; exact hH)
  exact ⟨t, o, stp _ st2, P⟩
-- calls
theorem own_Wk.callS (C : own_Wk Z n0 R y bytes maxL ret l Q G) (W : Nat) (argsL rest : List Value) {ix : Nat} {y' : MethodName} {bytes' : ByteArray} {maxL' : Nat} {ret' r : Option FieldType} {ps : List FieldType} {rm : Room} {Q' : Option Value → own_Hs → Prop}
    (hd : decode bytes pc = .ok (.invokestatic ix, 3)) (w1 : (Jvm.Cond.methodLink y.cls ix y').before a0 Z = true) (w2 : (Jvm.Cond.static y').before a0 Z = true) (w3 : (Jvm.Cond.initialized y'.cls).before a0 Z = true) (w4 : (Jvm.Cond.code y' bytes' maxL' ret').before a0 Z = true)
    (hM : own_Con l Z n0 y' bytes' maxL' ret' [] rm argsL.toArray H Q') (hy : y'.cls ≠ "java/lang/invoke/MethodHandle" ∧ y'.cls ≠ "java/lang/invoke/VarHandle") (hfr : rm.frames + 1 ≤ R.frames) (hlo : W + (maxL' + 11) + rm.locals ≤ R.locals) (hds : parseMethodDescriptor y'.desc = some ⟨ps, r⟩) (hln : argsL.length = ps.length)
    (hls : ls.length = maxL) (hst : st = argsL.reverse ++ rest) (hW : (rest.map fun v => v.category).sum ≤ W) (hc : k + rm.cells ≤ R.cells) (hs : n + rm.slots ≤ R.slots) (hq : pc + 3 = q) (K : ∀ v H', Q' v H' → G (k + rm.cells) (n + rm.slots) H' q ls (v.toList ++ rest)) : G k n H pc ls st := by
  subst hq
  obtain ⟨p, e, s, m, args, below, meth, c, rfl, hx, hZ, hby, hml, hown, hnm, hret, hlk⟩ := C
  intro T L X N hH
  obtain ⟨v, vm₁, ⟨T', L', k', n'⟩, -, X', ⟨Lc, hQ, l', c', s'⟩, stp⟩ := Jvm.LawKit.callS X hx (y := y') hown (mvT hZ w1) (mvT hZ w2) (mvT hZ w3) (mvT hZ w4) hy
    (backOf (W := W) (Q := fun v h L => Fr n0 L ∧ ∃ H', own_Hp Z n0 h H' ∧ Q' v H') (hM T.heap hH) hZ w4 w3 hfr hlo) (g := mkF m pc ⟨ls⟩ st) rfl (by rw [hml]; exact hls) (argsL := argsL) (rest := rest) (lenOf hds hln) hst (by show 2 * 0 + _ ≤ _; rw [Nat.mul_zero, Nat.zero_add]; exact hW) (hb hby hd) (fun _ _ => ⟨rfl, rfl, hc, hs⟩)
  dsimp only [Pt.U, Pt.locs, Pt.cells, Pt.slots] at X' l' c' s' stp hQ
  subst l' c' s'
  obtain ⟨N', H', hH', hQ'⟩ := hQ
  obtain ⟨t, o, st2, P⟩ := K v H' hQ' T' _ X' (Fr.app N N') hH'
  exact ⟨t, o, stp _ st2, P⟩
theorem own_Wk.callI (C : own_Wk Z n0 R y bytes maxL ret l Q G) (W : Nat) (a : Addr) (argsL rest : List Value) {ix : Nat} {y' : MethodName} {bytes' : ByteArray} {maxL' : Nat} {r : Option FieldType} {ps : List FieldType} {rm : Room} {Q' : Option Value → own_Hs → Prop}
    (hd : decode bytes pc = .ok (.invokespecial ix, 3)) (w1 : (Jvm.Cond.methodLink y.cls ix y').before a0 Z = true) (w2 : (Jvm.Cond.instanceMethod y').before a0 Z = true) (w3 : (Jvm.Cond.initialized y'.cls).before a0 Z = true) (w4 : (Jvm.Cond.code y' bytes' maxL' none).before a0 Z = true)
    (hM : own_Con l Z n0 y' bytes' maxL' none [] rm (.ref a :: argsL).toArray H Q') (hnm' : y'.name = "<init>") (hy : y'.cls ≠ "java/lang/invoke/MethodHandle" ∧ y'.cls ≠ "java/lang/invoke/VarHandle") (hfr : rm.frames + 1 ≤ R.frames) (hlo : W + (maxL' + 11) + rm.locals ≤ R.locals) (hds : parseMethodDescriptor y'.desc = some ⟨ps, r⟩) (hln : argsL.length = ps.length)
    (hls : ls.length = maxL) (hst : st = argsL.reverse ++ .ref a :: rest) (hW : (rest.map fun v => v.category).sum ≤ W) (hc : k + rm.cells ≤ R.cells) (hs : n + rm.slots ≤ R.slots) (hq : pc + 3 = q) (K : ∀ v H', Q' v H' → G (k + rm.cells) (n + rm.slots) H' q ls (v.toList ++ rest)) : G k n H pc ls st := by
  subst hq
  obtain ⟨p, e, s, m, args, below, meth, c, rfl, hx, hZ, hby, hml, hown, hnm, hret, hlk⟩ := C
  intro T L X N hH
  obtain ⟨v, vm₁, ⟨T', L', k', n'⟩, -, X', ⟨Lc, hQ, l', c', s'⟩, stp⟩ := X.specialBack hx (y := y') hnm' hown (mvT hZ w1) (mvT hZ w2) (mvT hZ w4) hy
    (backOf (W := W) (Q := fun v h L => Fr n0 L ∧ ∃ H', own_Hp Z n0 h H' ∧ Q' v H') (hM T.heap hH) hZ w4 w3 hfr hlo) (g := mkF m pc ⟨ls⟩ st) rfl (by rw [hml]; exact hls) (Steps.refl _) (a := a) (argsL := argsL) (rest := rest) (lenOf hds hln) hst (by show 2 * 0 + _ ≤ _; rw [Nat.mul_zero, Nat.zero_add]; exact hW) (hb hby hd) (fun _ _ => ⟨rfl, rfl, hc, hs⟩)
  dsimp only [Pt.U, Pt.locs, Pt.cells, Pt.slots] at X' l' c' s' stp hQ
  subst l' c' s'
  obtain ⟨N', H', hH', hQ'⟩ := hQ
  obtain ⟨t, o, st2, P⟩ := K v H' hQ' T' _ X' (Fr.app N N') hH'
  exact ⟨t, o, stp.trans st2, P⟩
theorem own_Wk.callV (C : own_Wk Z n0 R y bytes maxL ret l Q G) (W i : Nat) (argsL rest : List Value) {a : Addr} {ix : Nat} {y' : MethodName} {bytes' : ByteArray} {maxL' : Nat} {ret' r : Option FieldType} {ps : List FieldType} {fs : List (String × String × Value)} {rm : Room} {Q' : Option Value → own_Hs → Prop}
    (hd : decode bytes pc = .ok (.invokevirtual ix, 3)) (w1 : (Jvm.Cond.methodLink y.cls ix y').before a0 Z = true) (w2 : (Jvm.Cond.declares y').before a0 Z = true) (w5 : (Jvm.Cond.instanceMethod y').before a0 Z = true) (w6 : (Jvm.Cond.selects y'.cls y' y').before a0 Z = true) (w3 : (Jvm.Cond.initialized y'.cls).before a0 Z = true) (w4 : (Jvm.Cond.code y' bytes' maxL' ret').before a0 Z = true)
    (hM : own_Con l Z n0 y' bytes' maxL' ret' [] rm (.ref a :: argsL).toArray H Q') (hy : y'.cls ≠ "java/lang/invoke/MethodHandle" ∧ y'.cls ≠ "java/lang/invoke/VarHandle") (hfr : rm.frames + 1 ≤ R.frames) (hlo : W + (maxL' + 11) + rm.locals ≤ R.locals) (hds : parseMethodDescriptor y'.desc = some ⟨ps, r⟩) (hln : argsL.length = ps.length)
    (hi : H[i]? = some (a, .inr (y'.cls, fs))) (hls : ls.length = maxL) (hst : st = argsL.reverse ++ .ref a :: rest) (hW : (rest.map fun v => v.category).sum ≤ W) (hc : k + rm.cells ≤ R.cells) (hs : n + rm.slots ≤ R.slots) (hq : pc + 3 = q) (K : ∀ v H', Q' v H' → G (k + rm.cells) (n + rm.slots) H' q ls (v.toList ++ rest)) : G k n H pc ls st := by
  subst hq
  obtain ⟨p, e, s, m, args, below, meth, c, rfl, hx, hZ, hby, hml, hown, hnm, hret, hlk⟩ := C
  intro T L X N hH
  obtain ⟨-, -, hE, -, -⟩ := hH.2.2 i _ _ hi
  obtain ⟨cB, kB, b1, -, b3⟩ := isOf hZ rfl hE
  obtain ⟨v, vm₁, ⟨T', L', k', n'⟩, -, X', ⟨Lc, hQ, l', c', s'⟩, stp⟩ := X.virtualBack hx (y := y') (z := y') hown (mvT hZ w1) (mvT hZ w2) (notFace_of_selects (args := #[]) (mvT hZ w6)) (mvT hZ w6) (mvT hZ w5) hy
    (backOf (W := W) (Q := fun v h L => Fr n0 L ∧ ∃ H', own_Hp Z n0 h H' ∧ Q' v H') (hM T.heap hH) hZ w4 w3 hfr hlo) b1 b3 (g := mkF m pc ⟨ls⟩ st) rfl (by rw [hml]; exact hls) (Steps.refl _) (argsL := argsL) (rest := rest) (lenOf hds hln) hst (by show 2 * 0 + _ ≤ _; rw [Nat.mul_zero, Nat.zero_add]; exact hW) (hb hby hd) (fun _ _ => ⟨rfl, rfl, hc, hs⟩)
  dsimp only [Pt.U, Pt.locs, Pt.cells, Pt.slots] at X' l' c' s' stp hQ
  subst l' c' s'
  obtain ⟨N', H', hH', hQ'⟩ := hQ
  obtain ⟨t, o, st2, P⟩ := K v H' hQ' T' _ X' (Fr.app N N') hH'
  exact ⟨t, o, stp.trans st2, P⟩
theorem own_Wk.callF (C : own_Wk Z n0 R y bytes maxL ret l Q G) (W i : Nat) (argsL rest : List Value) {a : Addr} {ix cnt : Nat} {xi y' : MethodName} {bytes' : ByteArray} {maxL' : Nat} {ret' r : Option FieldType} {ps : List FieldType} {fs : List (String × String × Value)} {rm : Room} {Q' : Option Value → own_Hs → Prop}
    (hd : decode bytes pc = .ok (.invokeinterface ix cnt, 5)) (w1 : (Jvm.Cond.methodLink y.cls ix xi).before a0 Z = true) (w2 : (Jvm.Cond.declares xi).before a0 Z = true) (w7 : ∀ {s : State} {args : Array Value}, Z.Warmed39 s.vm → (Jvm.Cond.interfaceMethod xi.cls xi.cls xi.name xi.desc).before args s = true) (w6 : (Jvm.Cond.selects y'.cls xi y').before a0 Z = true) (w5 : (Jvm.Cond.instanceMethod y').before a0 Z = true)
    (w8 : (Jvm.Cond.publicMethod y').before a0 Z = true) (w9 : (Jvm.Cond.unhidden y'.cls xi.name xi.desc).before a0 Z = true) (w10 : (Jvm.Cond.castable y'.cls xi.cls).before a0 Z = true) (w3 : (Jvm.Cond.initialized y'.cls).before a0 Z = true) (w4 : (Jvm.Cond.code y' bytes' maxL' ret').before a0 Z = true)
    (hM : own_Con l Z n0 y' bytes' maxL' ret' [] rm (.ref a :: argsL).toArray H Q') (hy : xi.cls ≠ "java/lang/invoke/MethodHandle" ∧ xi.cls ≠ "java/lang/invoke/VarHandle") (hfr : rm.frames + 1 ≤ R.frames) (hlo : W + (maxL' + 11) + rm.locals ≤ R.locals) (hds : parseMethodDescriptor xi.desc = some ⟨ps, r⟩) (hln : argsL.length = ps.length)
    (hi : H[i]? = some (a, .inr (y'.cls, fs))) (hls : ls.length = maxL) (hst : st = argsL.reverse ++ .ref a :: rest) (hW : (rest.map fun v => v.category).sum ≤ W) (hc : k + rm.cells ≤ R.cells) (hs : n + rm.slots ≤ R.slots) (hq : pc + 5 = q) (K : ∀ v H', Q' v H' → G (k + rm.cells) (n + rm.slots) H' q ls (v.toList ++ rest)) : G k n H pc ls st := by
  subst hq
  obtain ⟨p, e, s, m, args, below, meth, c, rfl, hx, hZ, hby, hml, hown, hnm, hret, hlk⟩ := C
  intro T L X N hH
  obtain ⟨-, -, hE, -, -⟩ := hH.2.2 i _ _ hi
  obtain ⟨cB, kB, b1, b2, b3⟩ := isOf hZ rfl hE
  obtain ⟨v, vm₁, ⟨T', L', k', n'⟩, -, X', ⟨Lc, hQ, l', c', s'⟩, stp⟩ := X.interfaceBack hx (xi := xi) (y := y') hown (mvT hZ w1) (mvT hZ w2) (w7 hZ) (mvT hZ w6) (mvT hZ w5) (mvT hZ w8) (mvT hZ w9) (mvT hZ w10) hy
    (backOf (W := W) (Q := fun v h L => Fr n0 L ∧ ∃ H', own_Hp Z n0 h H' ∧ Q' v H') (hM T.heap hH) hZ w4 w3 hfr hlo) b1 b2 b3 (g := mkF m pc ⟨ls⟩ st) rfl (by rw [hml]; exact hls) (Steps.refl _) (argsL := argsL) (rest := rest) (lenOf hds hln) hst (by show 2 * 0 + _ ≤ _; rw [Nat.mul_zero, Nat.zero_add]; exact hW) (hb hby hd) (fun _ _ => ⟨rfl, rfl, hc, hs⟩)
  dsimp only [Pt.U, Pt.locs, Pt.cells, Pt.slots] at X' l' c' s' stp hQ
  subst l' c' s'
  obtain ⟨N', H', hH', hQ'⟩ := hQ
  obtain ⟨t, o, st2, P⟩ := K v H' hQ' T' _ X' (Fr.app N N') hH'
  exact ⟨t, o, stp.trans st2, P⟩
end OwnKit
theorem own_pd0 : parseMethodDescriptor "(I)I" = some ⟨[.int], some .int⟩ := by decide +kernel
theorem own_pd1 : parseMethodDescriptor "(II)I" = some ⟨[.int, .int], some .int⟩ := by decide +kernel
theorem own_pd2 : parseMethodDescriptor "(III)V" = some ⟨[.int, .int, .int], none⟩ := by decide +kernel
theorem own_pd3 : parseMethodDescriptor "(J)J" = some ⟨[.long], some .long⟩ := by decide +kernel
theorem own_pd4 : parseMethodDescriptor "(IIIJ)Z" = some ⟨[.int, .int, .int, .long], some .boolean⟩ := by decide +kernel
def own_ab (a : Int32) : Int32 := if a < 0 then (-a) else a
def own_mn (a b : Int32) : Int32 := if b < a then b else a
def own_abL (a : Int64) : Int64 := if a < 0 then (-a) else a
def own_bd (mx df i f t : Int32) : Int64 := mx.toInt64 + (if (i.toInt64 - df.toInt64) < f.toInt64 then ((t.toInt64 + (i.toInt64 - df.toInt64)) - ((2 : Int64) * f.toInt64)) else (t.toInt64 - (i.toInt64 - df.toInt64)))
theorem own_nn (a : Int32) : 0 ≤ (a &&& (2147483647 : Int32)).toInt := by
  rw [c_mask a 2147483647 31 (by decide) (by decide)]; omega
theorem own_rg {p q : Int32} (hp : 0 ≤ p.toInt) (hq : 0 ≤ q.toInt) : (own_mn p q).toInt64 + (1 : Int64) ≠ 0 := fun z => by
  have h : 0 ≤ (own_mn p q).toInt := by unfold own_mn; split <;> assumption
  have r := rng32 (own_mn p q); have e := c_i2l (own_mn p q); have d := c_ladd (own_mn p q).toInt64 1
  rw [z] at d
  simp only [Int64.reduceToInt] at d
  omega
theorem own_ls {x y : Int64} (h1 : -1000000000000 ≤ x.toInt - y.toInt) (h2 : x.toInt - y.toInt ≤ 1000000000000) : (x - y).toInt = x.toInt - y.toInt := by
  have a := c_lsub x y; have r := rng64 (x - y); omega
theorem own_la {x y : Int64} (h1 : -1000000000000 ≤ x.toInt + y.toInt) (h2 : x.toInt + y.toInt ≤ 1000000000000) : (x + y).toInt = x.toInt + y.toInt := by
  have a := c_ladd x y; have r := rng64 (x + y); omega
theorem own_ln {x : Int64} (h1 : -1000000000000 ≤ x.toInt ∧ x.toInt ≤ 1000000000000) : (-x).toInt = -x.toInt := by
  have a := c_lneg x; have r := rng64 (-x); omega
theorem own_l2 {x : Int64} (h1 : -1000000000000 ≤ x.toInt) (h2 : x.toInt ≤ 1000000000000) : ((2 : Int64) * x).toInt = 2 * x.toInt := by
  have a := c_lmul 2 x; have r := rng64 (2 * x)
  simp only [Int64.reduceToInt] at a
  omega
set_option maxHeartbeats 40000000 in
theorem own_eq (mx df i f t : Int32) : ((mx.toInt64 + (t.toInt64 - f.toInt64)) - own_abL (f.toInt64 - (i.toInt64 - df.toInt64))) = own_bd mx df i f t := by
  have r1 := rng32 mx; have r2 := rng32 df; have r3 := rng32 i; have r4 := rng32 f; have r5 := rng32 t
  have e1 := c_i2l mx; have e2 := c_i2l df; have e3 := c_i2l i; have e4 := c_i2l f; have e5 := c_i2l t
  unfold own_bd own_abL
  generalize mx.toInt64 = MX at *
  generalize df.toInt64 = DF at *
  generalize i.toInt64 = I at *
  generalize f.toInt64 = F at *
  generalize t.toInt64 = T at *
  have k1 : I.toInt - DF.toInt = (I - DF).toInt := (own_ls (by omega) (by omega)).symm
  have k2 : -5000000000 ≤ (I - DF).toInt ∧ (I - DF).toInt ≤ 5000000000 := by omega
  generalize I - DF = S at *
  clear r2 r3 e2 e3 k1
  have q2 : (F - S).toInt = F.toInt - S.toInt := own_ls (by omega) (by omega)
  have q3 : (-(F - S)).toInt = -(F - S).toInt := own_ln (by omega)
  have q4 : (T - F).toInt = T.toInt - F.toInt := own_ls (by omega) (by omega)
  have q5 : (MX + (T - F)).toInt = MX.toInt + (T - F).toInt := own_la (by omega) (by omega)
  have q8 : ((2 : Int64) * F).toInt = 2 * F.toInt := own_l2 (by omega) (by omega)
  have q9 : (T + S).toInt = T.toInt + S.toInt := own_la (by omega) (by omega)
  have q10 : (T + S - 2 * F).toInt = (T + S).toInt - (2 * F).toInt := own_ls (by omega) (by omega)
  have q12 : (T - S).toInt = T.toInt - S.toInt := own_ls (by omega) (by omega)
  have q13 : (MX + (T - S)).toInt = MX.toInt + (T - S).toInt := own_la (by omega) (by omega)
  have q14 : (MX + (T + S - 2 * F)).toInt = MX.toInt + (T + S - 2 * F).toInt := own_la (by omega) (by omega)
  have q15 : (MX + (T - F) - (F - S)).toInt = (MX + (T - F)).toInt - (F - S).toInt := own_ls (by omega) (by omega)
  have q16 : (MX + (T - F) - -(F - S)).toInt = (MX + (T - F)).toInt - (-(F - S)).toInt := own_ls (by omega) (by omega)
  apply Int64.toInt_inj.mp
  by_cases h : S < F
  · rw [if_pos h]
    rw [Int64.lt_iff_toInt_lt] at h
    rw [if_neg (by rw [Int64.lt_iff_toInt_lt, q2]; simp only [Int64.reduceToInt]; omega)]
    omega
  · rw [if_neg h]
    rw [Int64.lt_iff_toInt_lt] at h
    by_cases g : S.toInt = F.toInt
    · rw [if_neg (by rw [Int64.lt_iff_toInt_lt, q2]; simp only [Int64.reduceToInt]; omega)]
      omega
    · rw [if_pos (by rw [Int64.lt_iff_toInt_lt, q2]; simp only [Int64.reduceToInt]; omega)]
      omega
theorem d1_0 : decode jdk_29_method_59_code 0 = .ok (.iload_n 0, 1) := by decide +kernel
theorem d1_1 : decode jdk_29_method_59_code 1 = .ok (.ifCond .ge 8, 3) := by decide +kernel
theorem d1_4 : decode jdk_29_method_59_code 4 = .ok (.iload_n 0, 1) := by decide +kernel
theorem d1_5 : decode jdk_29_method_59_code 5 = .ok (.ineg, 1) := by decide +kernel
theorem d1_6 : decode jdk_29_method_59_code 6 = .ok (.goto 4, 3) := by decide +kernel
theorem d1_9 : decode jdk_29_method_59_code 9 = .ok (.iload_n 0, 1) := by decide +kernel
theorem d1_10 : decode jdk_29_method_59_code 10 = .ok (.ireturn, 1) := by decide +kernel
theorem own_pn1 : plainFor (⟨"java/lang/Math", "abs", "(I)I"⟩ : MethodName) = true := by first | exact plainFor_of_name (by first | (simp [plainName, overriddenIn]; done) | decide +kernel) | decide +kernel
set_option maxHeartbeats 4000000 in
theorem own_ef1 (m : MethodId) (x0 : Int32) : entryFrame m #[.int x0] 1 = mkF m 0 #[.val (.int x0)] [] := by first | (simp [entryFrame, mkF, argsToLocals, Value.category, maxLocals]; done) | rfl
set_option maxRecDepth 65536 in
set_option maxHeartbeats 40000000 in
theorem own_c1 (l : Launch) (Z : State) (a0 : Array Value) (n0 : Nat) (hw : ∀ d ∈ tables_1, d.before a0 Z = true) (ws : List Jvm.Cond) (a : Int32) (H : own_Hs)  :
    own_Con l Z n0 (⟨"java/lang/Math", "abs", "(I)I"⟩ : MethodName) jdk_29_method_59_code 1 (some .int) ws ({ frames := 0, cells := 0, slots := 0, locals := 0 } : Room) #[.int a] H (fun v H' => v = some (.int (own_ab a)) ∧ H' = H) := by
  refine own_con own_pn1 (fun m_ => own_ef1 m_ a) ?_
  intro G C
  refine C.iloadN (q := 1) d1_0 rfl rfl ?_
  refine C.ifGe (q := 9) (q' := 4) d1_1 (by decide) (by decide) rfl (fun h1 => ?_) (fun h1 => ?_)
  · refine C.iloadN (q := 5) d1_4 rfl rfl ?_
    refine C.ineg (q := 6) d1_5 rfl ?_
    refine C.goto (q := 10) d1_6 (by decide) (by decide) ?_
    exact C.retI d1_10 (by decide) (by decide) ⟨congrArg (fun z => some (Value.int z)) (by first | exact (if_pos h1).symm | exact (if_neg h1).symm), rfl⟩
  · refine C.iloadN (q := 10) d1_9 rfl rfl ?_
    exact C.retI d1_10 (by decide) (by decide) ⟨congrArg (fun z => some (Value.int z)) (by first | exact (if_pos h1).symm | exact (if_neg h1).symm), rfl⟩
theorem d2_0 : decode jdk_29_method_69_code 0 = .ok (.iload_n 0, 1) := by decide +kernel
theorem d2_1 : decode jdk_29_method_69_code 1 = .ok (.iload_n 1, 1) := by decide +kernel
theorem d2_2 : decode jdk_29_method_69_code 2 = .ok (.if_icmp .gt 7, 3) := by decide +kernel
theorem d2_5 : decode jdk_29_method_69_code 5 = .ok (.iload_n 0, 1) := by decide +kernel
theorem d2_6 : decode jdk_29_method_69_code 6 = .ok (.goto 4, 3) := by decide +kernel
theorem d2_9 : decode jdk_29_method_69_code 9 = .ok (.iload_n 1, 1) := by decide +kernel
theorem d2_10 : decode jdk_29_method_69_code 10 = .ok (.ireturn, 1) := by decide +kernel
theorem own_pn2 : plainFor (⟨"java/lang/Math", "min", "(II)I"⟩ : MethodName) = true := by first | exact plainFor_of_name (by first | (simp [plainName, overriddenIn]; done) | decide +kernel) | decide +kernel
set_option maxHeartbeats 4000000 in
theorem own_ef2 (m : MethodId) (x0 : Int32) (x1 : Int32) : entryFrame m #[.int x0, .int x1] 2 = mkF m 0 #[.val (.int x0), .val (.int x1)] [] := by first | (simp [entryFrame, mkF, argsToLocals, Value.category, maxLocals]; done) | rfl
set_option maxRecDepth 65536 in
set_option maxHeartbeats 40000000 in
theorem own_c2 (l : Launch) (Z : State) (a0 : Array Value) (n0 : Nat) (hw : ∀ d ∈ tables_1, d.before a0 Z = true) (ws : List Jvm.Cond) (a b : Int32) (H : own_Hs)  :
    own_Con l Z n0 (⟨"java/lang/Math", "min", "(II)I"⟩ : MethodName) jdk_29_method_69_code 2 (some .int) ws ({ frames := 0, cells := 0, slots := 0, locals := 0 } : Room) #[.int a, .int b] H (fun v H' => v = some (.int (own_mn a b)) ∧ H' = H) := by
  refine own_con own_pn2 (fun m_ => own_ef2 m_ a b) ?_
  intro G C
  refine C.iloadN (q := 1) d2_0 rfl rfl ?_
  refine C.iloadN (q := 2) d2_1 rfl rfl ?_
  refine C.icmpGt (q := 9) (q' := 5) d2_2 (by decide) (by decide) rfl (fun h2 => ?_) (fun h2 => ?_)
  · refine C.iloadN (q := 10) d2_9 rfl rfl ?_
    exact C.retI d2_10 (by decide) (by decide) ⟨congrArg (fun z => some (Value.int z)) (by first | exact (if_pos h2).symm | exact (if_neg h2).symm), rfl⟩
  · refine C.iloadN (q := 6) d2_5 rfl rfl ?_
    refine C.goto (q := 10) d2_6 (by decide) (by decide) ?_
    exact C.retI d2_10 (by decide) (by decide) ⟨congrArg (fun z => some (Value.int z)) (by first | exact (if_pos h2).symm | exact (if_neg h2).symm), rfl⟩
theorem d3_0 : decode jdk_29_method_61_code 0 = .ok (.lload_n 0, 1) := by decide +kernel
theorem d3_1 : decode jdk_29_method_61_code 1 = .ok (.lconst 0, 1) := by decide +kernel
theorem d3_2 : decode jdk_29_method_61_code 2 = .ok (.lcmp, 1) := by decide +kernel
theorem d3_3 : decode jdk_29_method_61_code 3 = .ok (.ifCond .ge 8, 3) := by decide +kernel
theorem d3_6 : decode jdk_29_method_61_code 6 = .ok (.lload_n 0, 1) := by decide +kernel
theorem d3_7 : decode jdk_29_method_61_code 7 = .ok (.lneg, 1) := by decide +kernel
theorem d3_8 : decode jdk_29_method_61_code 8 = .ok (.goto 4, 3) := by decide +kernel
theorem d3_11 : decode jdk_29_method_61_code 11 = .ok (.lload_n 0, 1) := by decide +kernel
theorem d3_12 : decode jdk_29_method_61_code 12 = .ok (.lreturn, 1) := by decide +kernel
theorem own_pn3 : plainFor (⟨"java/lang/Math", "abs", "(J)J"⟩ : MethodName) = true := by first | exact plainFor_of_name (by first | (simp [plainName, overriddenIn]; done) | decide +kernel) | decide +kernel
set_option maxHeartbeats 4000000 in
theorem own_ef3 (m : MethodId) (x0 : Int64) : entryFrame m #[.long x0] 2 = mkF m 0 #[.val (.long x0), .second] [] := by first | (simp [entryFrame, mkF, argsToLocals, Value.category, maxLocals]; done) | rfl
set_option maxRecDepth 65536 in
set_option maxHeartbeats 40000000 in
theorem own_c3 (l : Launch) (Z : State) (a0 : Array Value) (n0 : Nat) (hw : ∀ d ∈ tables_1, d.before a0 Z = true) (ws : List Jvm.Cond) (a : Int64) (H : own_Hs)  :
    own_Con l Z n0 (⟨"java/lang/Math", "abs", "(J)J"⟩ : MethodName) jdk_29_method_61_code 2 (some .long) ws ({ frames := 0, cells := 0, slots := 0, locals := 0 } : Room) #[.long a] H (fun v H' => v = some (.long (own_abL a)) ∧ H' = H) := by
  refine own_con own_pn3 (fun m_ => own_ef3 m_ a) ?_
  intro G C
  refine C.lloadN (q := 1) d3_0 rfl rfl ?_
  refine C.lconst (q := 2) (z := (0 : Int64)) d3_1 rfl rfl ?_
  refine C.lcmpGe (q := 11) (q' := 6) (q1 := 3) d3_2 rfl d3_3 (by decide) (by decide) rfl (fun h2 => ?_) (fun h2 => ?_)
  · refine C.lloadN (q := 7) d3_6 rfl rfl ?_
    refine C.lneg (q := 8) d3_7 rfl ?_
    refine C.goto (q := 12) d3_8 (by decide) (by decide) ?_
    exact C.retJ d3_12 (by decide) (by decide) ⟨congrArg (fun z => some (Value.long z)) (by first | exact (if_pos h2).symm | exact (if_neg h2).symm), rfl⟩
  · refine C.lloadN (q := 12) d3_11 rfl rfl ?_
    exact C.retJ d3_12 (by decide) (by decide) ⟨congrArg (fun z => some (Value.long z)) (by first | exact (if_pos h2).symm | exact (if_neg h2).symm), rfl⟩
theorem d4_0 : decode prog_1_method_1_code 0 = .ok (.aload_n 0, 1) := by decide +kernel
theorem d4_1 : decode prog_1_method_1_code 1 = .ok (.invokespecial 1, 3) := by decide +kernel
theorem d4_4 : decode prog_1_method_1_code 4 = .ok (.aload_n 0, 1) := by decide +kernel
theorem d4_5 : decode prog_1_method_1_code 5 = .ok (.iload_n 3, 1) := by decide +kernel
theorem d4_6 : decode prog_1_method_1_code 6 = .ok (.putfield 7, 3) := by decide +kernel
theorem d4_9 : decode prog_1_method_1_code 9 = .ok (.aload_n 0, 1) := by decide +kernel
theorem d4_10 : decode prog_1_method_1_code 10 = .ok (.iload_n 1, 1) := by decide +kernel
theorem d4_11 : decode prog_1_method_1_code 11 = .ok (.iload_n 2, 1) := by decide +kernel
theorem d4_12 : decode prog_1_method_1_code 12 = .ok (.isub, 1) := by decide +kernel
theorem d4_13 : decode prog_1_method_1_code 13 = .ok (.putfield 13, 3) := by decide +kernel
theorem d4_16 : decode prog_1_method_1_code 16 = .ok (.aload_n 0, 1) := by decide +kernel
theorem d4_17 : decode prog_1_method_1_code 17 = .ok (.iload_n 2, 1) := by decide +kernel
theorem d4_18 : decode prog_1_method_1_code 18 = .ok (.putfield 16, 3) := by decide +kernel
theorem d4_21 : decode prog_1_method_1_code 21 = .ok (.aload_n 0, 1) := by decide +kernel
theorem d4_22 : decode prog_1_method_1_code 22 = .ok (.iload_n 3, 1) := by decide +kernel
theorem d4_23 : decode prog_1_method_1_code 23 = .ok (.aload_n 0, 1) := by decide +kernel
theorem d4_24 : decode prog_1_method_1_code 24 = .ok (.getfield 13, 3) := by decide +kernel
theorem d4_27 : decode prog_1_method_1_code 27 = .ok (.iadd, 1) := by decide +kernel
theorem d4_28 : decode prog_1_method_1_code 28 = .ok (.iconst 2, 1) := by decide +kernel
theorem d4_29 : decode prog_1_method_1_code 29 = .ok (.idiv, 1) := by decide +kernel
theorem d4_30 : decode prog_1_method_1_code 30 = .ok (.putfield 19, 3) := by decide +kernel
theorem d4_33 : decode prog_1_method_1_code 33 = .ok (.aload_n 0, 1) := by decide +kernel
theorem d4_34 : decode prog_1_method_1_code 34 = .ok (.iload_n 3, 1) := by decide +kernel
theorem d4_35 : decode prog_1_method_1_code 35 = .ok (.aload_n 0, 1) := by decide +kernel
theorem d4_36 : decode prog_1_method_1_code 36 = .ok (.getfield 13, 3) := by decide +kernel
theorem d4_39 : decode prog_1_method_1_code 39 = .ok (.isub, 1) := by decide +kernel
theorem d4_40 : decode prog_1_method_1_code 40 = .ok (.iconst 2, 1) := by decide +kernel
theorem d4_41 : decode prog_1_method_1_code 41 = .ok (.idiv, 1) := by decide +kernel
theorem d4_42 : decode prog_1_method_1_code 42 = .ok (.putfield 22, 3) := by decide +kernel
theorem d4_45 : decode prog_1_method_1_code 45 = .ok (.return_, 1) := by decide +kernel
theorem own_pn4 : plainFor (⟨"com/example/hairsbreadth/hairsbreadth/Band", "<init>", "(III)V"⟩ : MethodName) = true := by first | exact plainFor_of_name (by first | (simp [plainName, overriddenIn]; done) | decide +kernel) | decide +kernel
set_option maxHeartbeats 4000000 in
theorem own_ef4 (m : MethodId) (x0 : Addr) (x1 : Int32) (x2 : Int32) (x3 : Int32) : entryFrame m #[.ref x0, .int x1, .int x2, .int x3] 4 = mkF m 0 #[.val (.ref x0), .val (.int x1), .val (.int x2), .val (.int x3)] [] := by first | (simp [entryFrame, mkF, argsToLocals, Value.category, maxLocals]; done) | rfl
set_option maxRecDepth 65536 in
set_option maxHeartbeats 40000000 in
theorem own_c4 (l : Launch) (Z : State) (a0 : Array Value) (n0 : Nat) (hw : ∀ d ∈ tables_1, d.before a0 Z = true) (ws : List Jvm.Cond) (o : Addr) (r c m : Int32)  :
    own_Con l Z n0 (⟨"com/example/hairsbreadth/hairsbreadth/Band", "<init>", "(III)V"⟩ : MethodName) prog_1_method_1_code 4 none ws ({ frames := 1, cells := 0, slots := 0, locals := 12 } : Room) #[.ref o, .int r, .int c, .int m] [(o, .inr ("com/example/hairsbreadth/hairsbreadth/Band", [("max", "I", .int (0 : Int32)), ("difference", "I", .int (0 : Int32)), ("columns", "I", .int (0 : Int32)), ("lower", "I", .int (0 : Int32)), ("upper", "I", .int (0 : Int32))]))] (fun v H' => v = none ∧ H' = [(o, .inr ("com/example/hairsbreadth/hairsbreadth/Band", [("max", "I", .int m), ("difference", "I", .int (r - c)), ("columns", "I", .int c), ("lower", "I", .int ((m + (r - c)) / (2 : Int32))), ("upper", "I", .int ((m - (r - c)) / (2 : Int32)))]))]) := by
  refine own_con own_pn4 (fun m_ => own_ef4 m_ o r c m) ?_
  intro G C
  refine C.aloadN (q := 1) d4_0 rfl rfl rfl ?_
  refine C.initO (q := 4) 0 d4_1 (hw _ (List.mem_of_getElem? (i := 14) rfl)) (hw _ (List.mem_of_getElem? (i := 15) rfl)) (hw _ (List.mem_of_getElem? (i := 16) rfl)) rfl (by decide) (Nat.le_of_eq rfl) (by decide) rfl ?_
  refine C.aloadN (q := 5) d4_4 rfl rfl rfl ?_
  refine C.iloadN (q := 6) d4_5 rfl rfl ?_
  refine C.putf (q := 9) 0 0 (ty := .int) (H' := [(o, .inr ("com/example/hairsbreadth/hairsbreadth/Band", [("max", "I", .int m), ("difference", "I", .int (0 : Int32)), ("columns", "I", .int (0 : Int32)), ("lower", "I", .int (0 : Int32)), ("upper", "I", .int (0 : Int32))]))]) d4_6 (hw _ (List.mem_of_getElem? (i := 17) rfl)) (Or.inr ⟨(hw _ (List.mem_of_getElem? (i := 18) rfl)), rfl, rfl⟩) (hw _ (List.mem_of_getElem? (i := 9) rfl)) rfl rfl (by decide) rfl rfl rfl rfl ?_
  refine C.aloadN (q := 10) d4_9 rfl rfl rfl ?_
  refine C.iloadN (q := 11) d4_10 rfl rfl ?_
  refine C.iloadN (q := 12) d4_11 rfl rfl ?_
  refine C.isub (q := 13) d4_12 rfl ?_
  refine C.putf (q := 16) 0 1 (ty := .int) (H' := [(o, .inr ("com/example/hairsbreadth/hairsbreadth/Band", [("max", "I", .int m), ("difference", "I", .int (r - c)), ("columns", "I", .int (0 : Int32)), ("lower", "I", .int (0 : Int32)), ("upper", "I", .int (0 : Int32))]))]) d4_13 (hw _ (List.mem_of_getElem? (i := 19) rfl)) (Or.inr ⟨(hw _ (List.mem_of_getElem? (i := 20) rfl)), rfl, rfl⟩) (hw _ (List.mem_of_getElem? (i := 9) rfl)) rfl rfl (by decide) rfl rfl rfl rfl ?_
  refine C.aloadN (q := 17) d4_16 rfl rfl rfl ?_
  refine C.iloadN (q := 18) d4_17 rfl rfl ?_
  refine C.putf (q := 21) 0 2 (ty := .int) (H' := [(o, .inr ("com/example/hairsbreadth/hairsbreadth/Band", [("max", "I", .int m), ("difference", "I", .int (r - c)), ("columns", "I", .int c), ("lower", "I", .int (0 : Int32)), ("upper", "I", .int (0 : Int32))]))]) d4_18 (hw _ (List.mem_of_getElem? (i := 21) rfl)) (Or.inr ⟨(hw _ (List.mem_of_getElem? (i := 22) rfl)), rfl, rfl⟩) (hw _ (List.mem_of_getElem? (i := 9) rfl)) rfl rfl (by decide) rfl rfl rfl rfl ?_
  refine C.aloadN (q := 22) d4_21 rfl rfl rfl ?_
  refine C.iloadN (q := 23) d4_22 rfl rfl ?_
  refine C.aloadN (q := 24) d4_23 rfl rfl rfl ?_
  refine C.getf (q := 27) 0 1 (v := .int (r - c)) d4_24 (hw _ (List.mem_of_getElem? (i := 19) rfl)) rfl rfl rfl ?_
  refine C.iadd (q := 28) d4_27 rfl ?_
  refine C.iconst (q := 29) (z := (2 : Int32)) d4_28 rfl rfl ?_
  refine C.idiv (q := 30) d4_29 (by decide) rfl ?_
  refine C.putf (q := 33) 0 3 (ty := .int) (H' := [(o, .inr ("com/example/hairsbreadth/hairsbreadth/Band", [("max", "I", .int m), ("difference", "I", .int (r - c)), ("columns", "I", .int c), ("lower", "I", .int ((m + (r - c)) / (2 : Int32))), ("upper", "I", .int (0 : Int32))]))]) d4_30 (hw _ (List.mem_of_getElem? (i := 23) rfl)) (Or.inr ⟨(hw _ (List.mem_of_getElem? (i := 24) rfl)), rfl, rfl⟩) (hw _ (List.mem_of_getElem? (i := 9) rfl)) rfl rfl (by decide) rfl rfl rfl rfl ?_
  refine C.aloadN (q := 34) d4_33 rfl rfl rfl ?_
  refine C.iloadN (q := 35) d4_34 rfl rfl ?_
  refine C.aloadN (q := 36) d4_35 rfl rfl rfl ?_
  refine C.getf (q := 39) 0 1 (v := .int (r - c)) d4_36 (hw _ (List.mem_of_getElem? (i := 19) rfl)) rfl rfl rfl ?_
  refine C.isub (q := 40) d4_39 rfl ?_
  refine C.iconst (q := 41) (z := (2 : Int32)) d4_40 rfl rfl ?_
  refine C.idiv (q := 42) d4_41 (by decide) rfl ?_
  refine C.putf (q := 45) 0 4 (ty := .int) (H' := [(o, .inr ("com/example/hairsbreadth/hairsbreadth/Band", [("max", "I", .int m), ("difference", "I", .int (r - c)), ("columns", "I", .int c), ("lower", "I", .int ((m + (r - c)) / (2 : Int32))), ("upper", "I", .int ((m - (r - c)) / (2 : Int32)))]))]) d4_42 (hw _ (List.mem_of_getElem? (i := 25) rfl)) (Or.inr ⟨(hw _ (List.mem_of_getElem? (i := 26) rfl)), rfl, rfl⟩) (hw _ (List.mem_of_getElem? (i := 9) rfl)) rfl rfl (by decide) rfl rfl rfl rfl ?_
  exact C.retV d4_45 (by decide) (by decide) ⟨rfl, rfl⟩
theorem d5_0 : decode prog_1_method_10_code 0 = .ok (.iload_n 1, 1) := by decide +kernel
theorem d5_1 : decode prog_1_method_10_code 1 = .ok (.i2l, 1) := by decide +kernel
theorem d5_2 : decode prog_1_method_10_code 2 = .ok (.aload_n 0, 1) := by decide +kernel
theorem d5_3 : decode prog_1_method_10_code 3 = .ok (.getfield 13, 3) := by decide +kernel
theorem d5_6 : decode prog_1_method_10_code 6 = .ok (.i2l, 1) := by decide +kernel
theorem d5_7 : decode prog_1_method_10_code 7 = .ok (.lsub, 1) := by decide +kernel
theorem d5_8 : decode prog_1_method_10_code 8 = .ok (.lstore 6, 2) := by decide +kernel
theorem d5_10 : decode prog_1_method_10_code 10 = .ok (.lload 6, 2) := by decide +kernel
theorem d5_12 : decode prog_1_method_10_code 12 = .ok (.iload_n 2, 1) := by decide +kernel
theorem d5_13 : decode prog_1_method_10_code 13 = .ok (.i2l, 1) := by decide +kernel
theorem d5_14 : decode prog_1_method_10_code 14 = .ok (.lcmp, 1) := by decide +kernel
theorem d5_15 : decode prog_1_method_10_code 15 = .ok (.ifCond .lt 11, 3) := by decide +kernel
theorem d5_18 : decode prog_1_method_10_code 18 = .ok (.iload_n 3, 1) := by decide +kernel
theorem d5_19 : decode prog_1_method_10_code 19 = .ok (.i2l, 1) := by decide +kernel
theorem d5_20 : decode prog_1_method_10_code 20 = .ok (.lload 6, 2) := by decide +kernel
theorem d5_22 : decode prog_1_method_10_code 22 = .ok (.lsub, 1) := by decide +kernel
theorem d5_23 : decode prog_1_method_10_code 23 = .ok (.goto 15, 3) := by decide +kernel
theorem d5_26 : decode prog_1_method_10_code 26 = .ok (.iload_n 3, 1) := by decide +kernel
theorem d5_27 : decode prog_1_method_10_code 27 = .ok (.i2l, 1) := by decide +kernel
theorem d5_28 : decode prog_1_method_10_code 28 = .ok (.lload 6, 2) := by decide +kernel
theorem d5_30 : decode prog_1_method_10_code 30 = .ok (.ladd, 1) := by decide +kernel
theorem d5_31 : decode prog_1_method_10_code 31 = .ok (.ldc2_w 37, 3) := by decide +kernel
theorem d5_34 : decode prog_1_method_10_code 34 = .ok (.iload_n 2, 1) := by decide +kernel
theorem d5_35 : decode prog_1_method_10_code 35 = .ok (.i2l, 1) := by decide +kernel
theorem d5_36 : decode prog_1_method_10_code 36 = .ok (.lmul, 1) := by decide +kernel
theorem d5_37 : decode prog_1_method_10_code 37 = .ok (.lsub, 1) := by decide +kernel
theorem d5_38 : decode prog_1_method_10_code 38 = .ok (.lstore 8, 2) := by decide +kernel
theorem d5_40 : decode prog_1_method_10_code 40 = .ok (.lload 4, 2) := by decide +kernel
theorem d5_42 : decode prog_1_method_10_code 42 = .ok (.aload_n 0, 1) := by decide +kernel
theorem d5_43 : decode prog_1_method_10_code 43 = .ok (.getfield 7, 3) := by decide +kernel
theorem d5_46 : decode prog_1_method_10_code 46 = .ok (.i2l, 1) := by decide +kernel
theorem d5_47 : decode prog_1_method_10_code 47 = .ok (.lload 8, 2) := by decide +kernel
theorem d5_49 : decode prog_1_method_10_code 49 = .ok (.ladd, 1) := by decide +kernel
theorem d5_50 : decode prog_1_method_10_code 50 = .ok (.lcmp, 1) := by decide +kernel
theorem d5_51 : decode prog_1_method_10_code 51 = .ok (.ifCond .gt 7, 3) := by decide +kernel
theorem d5_54 : decode prog_1_method_10_code 54 = .ok (.iconst 1, 1) := by decide +kernel
theorem d5_55 : decode prog_1_method_10_code 55 = .ok (.goto 4, 3) := by decide +kernel
theorem d5_58 : decode prog_1_method_10_code 58 = .ok (.iconst 0, 1) := by decide +kernel
theorem d5_59 : decode prog_1_method_10_code 59 = .ok (.ireturn, 1) := by decide +kernel
theorem own_pn5 : plainFor (⟨"com/example/hairsbreadth/hairsbreadth/Band", "inReachUpTo", "(IIIJ)Z"⟩ : MethodName) = true := by first | exact plainFor_of_name (by first | (simp [plainName, overriddenIn]; done) | decide +kernel) | decide +kernel
set_option maxHeartbeats 4000000 in
theorem own_ef5 (m : MethodId) (x0 : Addr) (x1 : Int32) (x2 : Int32) (x3 : Int32) (x4 : Int64) : entryFrame m #[.ref x0, .int x1, .int x2, .int x3, .long x4] 10 = mkF m 0 #[.val (.ref x0), .val (.int x1), .val (.int x2), .val (.int x3), .val (.long x4), .second, .unset, .unset, .unset, .unset] [] := by first | (simp [entryFrame, mkF, argsToLocals, Value.category, maxLocals]; done) | rfl
set_option maxRecDepth 65536 in
set_option maxHeartbeats 40000000 in
theorem own_c5 (l : Launch) (Z : State) (a0 : Array Value) (n0 : Nat) (hw : ∀ d ∈ tables_1, d.before a0 Z = true) (ws : List Jvm.Cond) (o : Addr) (mx df cc lo up i f t : Int32) (ce : Int64)  :
    own_Con l Z n0 (⟨"com/example/hairsbreadth/hairsbreadth/Band", "inReachUpTo", "(IIIJ)Z"⟩ : MethodName) prog_1_method_10_code 10 (some .boolean) ws ({ frames := 0, cells := 0, slots := 0, locals := 0 } : Room) #[.ref o, .int i, .int f, .int t, .long ce] [(o, .inr ("com/example/hairsbreadth/hairsbreadth/Band", [("max", "I", .int mx), ("difference", "I", .int df), ("columns", "I", .int cc), ("lower", "I", .int lo), ("upper", "I", .int up)]))] (fun v H' => v = some (.int (if own_bd mx df i f t < ce then 0 else 1)) ∧ H' = [(o, .inr ("com/example/hairsbreadth/hairsbreadth/Band", [("max", "I", .int mx), ("difference", "I", .int df), ("columns", "I", .int cc), ("lower", "I", .int lo), ("upper", "I", .int up)]))]) := by
  refine own_con own_pn5 (fun m_ => own_ef5 m_ o i f t ce) ?_
  intro G C
  refine C.iloadN (q := 1) d5_0 rfl rfl ?_
  refine C.i2l (q := 2) d5_1 rfl ?_
  refine C.aloadN (q := 3) d5_2 rfl rfl rfl ?_
  refine C.getf (q := 6) 0 1 (v := .int df) d5_3 (hw _ (List.mem_of_getElem? (i := 19) rfl)) rfl rfl rfl ?_
  refine C.i2l (q := 7) d5_6 rfl ?_
  refine C.lsub (q := 8) d5_7 rfl ?_
  refine C.lstore (q := 10) (ls' := [.val (.ref o), .val (.int i), .val (.int f), .val (.int t), .val (.long ce), .second, .val (.long (i.toInt64 - df.toInt64)), .second, .unset, .unset]) d5_8 rfl rfl ?_
  refine C.lload (q := 12) d5_10 rfl rfl ?_
  refine C.iloadN (q := 13) d5_12 rfl rfl ?_
  refine C.i2l (q := 14) d5_13 rfl ?_
  have J14 : ∀ (sl : Int64), sl = (if (i.toInt64 - df.toInt64) < f.toInt64 then ((t.toInt64 + (i.toInt64 - df.toInt64)) - ((2 : Int64) * f.toInt64)) else (t.toInt64 - (i.toInt64 - df.toInt64))) → G 0 0 [(o, .inr ("com/example/hairsbreadth/hairsbreadth/Band", [("max", "I", .int mx), ("difference", "I", .int df), ("columns", "I", .int cc), ("lower", "I", .int lo), ("upper", "I", .int up)]))] 38 [.val (.ref o), .val (.int i), .val (.int f), .val (.int t), .val (.long ce), .second, .val (.long (i.toInt64 - df.toInt64)), .second, .unset, .unset] [.long sl] := by
    intro sl hsl
    refine C.lstore (q := 40) (ls' := [.val (.ref o), .val (.int i), .val (.int f), .val (.int t), .val (.long ce), .second, .val (.long (i.toInt64 - df.toInt64)), .second, .val (.long sl), .second]) d5_38 rfl rfl ?_
    refine C.lload (q := 42) d5_40 rfl rfl ?_
    refine C.aloadN (q := 43) d5_42 rfl rfl rfl ?_
    refine C.getf (q := 46) 0 0 (v := .int mx) d5_43 (hw _ (List.mem_of_getElem? (i := 17) rfl)) rfl rfl rfl ?_
    refine C.i2l (q := 47) d5_46 rfl ?_
    refine C.lload (q := 49) d5_47 rfl rfl ?_
    refine C.ladd (q := 50) d5_49 rfl ?_
    refine C.lcmpGt (q := 58) (q' := 54) (q1 := 51) d5_50 rfl d5_51 (by decide) (by decide) rfl (fun h50 => ?_) (fun h50 => ?_)
    · refine C.iconst (q := 59) (z := (0 : Int32)) d5_58 rfl rfl ?_
      exact C.retB (by simp) d5_59 (by decide) (by decide) ⟨congrArg (fun z => some (Value.int z)) (by rw [hsl] at h50; first | exact (if_pos h50).symm | exact (if_neg h50).symm), rfl⟩
    · refine C.iconst (q := 55) (z := (1 : Int32)) d5_54 rfl rfl ?_
      refine C.goto (q := 59) d5_55 (by decide) (by decide) ?_
      exact C.retB (by simp) d5_59 (by decide) (by decide) ⟨congrArg (fun z => some (Value.int z)) (by rw [hsl] at h50; first | exact (if_pos h50).symm | exact (if_neg h50).symm), rfl⟩
  refine C.lcmpLt (q := 26) (q' := 18) (q1 := 15) d5_14 rfl d5_15 (by decide) (by decide) rfl (fun h14 => ?_) (fun h14 => ?_)
  · refine C.iloadN (q := 27) d5_26 rfl rfl ?_
    refine C.i2l (q := 28) d5_27 rfl ?_
    refine C.lload (q := 30) d5_28 rfl rfl ?_
    refine C.ladd (q := 31) d5_30 rfl ?_
    refine C.ldc2 (q := 34) (v := (2 : Int64)) d5_31 (hw _ (List.mem_of_getElem? (i := 36) rfl)) rfl ?_
    refine C.iloadN (q := 35) d5_34 rfl rfl ?_
    refine C.i2l (q := 36) d5_35 rfl ?_
    refine C.lmul (q := 37) d5_36 rfl ?_
    refine C.lsub (q := 38) d5_37 rfl ?_
    exact J14 _ (if_pos h14).symm
  · refine C.iloadN (q := 19) d5_18 rfl rfl ?_
    refine C.i2l (q := 20) d5_19 rfl ?_
    refine C.lload (q := 22) d5_20 rfl rfl ?_
    refine C.lsub (q := 23) d5_22 rfl ?_
    refine C.goto (q := 38) d5_23 (by decide) (by decide) ?_
    exact J14 _ (if_neg h14).symm
theorem own_pnlaw : plainFor x = true := by first | exact plainFor_of_name (by first | (simp [plainName, overriddenIn]; done) | decide +kernel) | decide +kernel
set_option maxHeartbeats 4000000 in
theorem own_eflaw (m : MethodId) (x0 : Int64) (x1 : Int32) (x2 : Int32) (x3 : Int32) (x4 : Int32) (x5 : Int64) : entryFrame m #[.long x0, .int x1, .int x2, .int x3, .int x4, .long x5] maxLocals = mkF m 0 #[.val (.long x0), .second, .val (.int x1), .val (.int x2), .val (.int x3), .val (.int x4), .val (.long x5), .second, .unset, .unset, .unset, .unset, .unset, .unset, .unset, .unset, .unset, .unset, .unset, .unset, .unset, .unset, .unset] [] := by first | (simp [entryFrame, mkF, argsToLocals, Value.category, maxLocals]; done) | rfl
set_option maxRecDepth 65536 in
set_option maxHeartbeats 40000000 in
theorem own_claw (l : Launch) (Z : State) (a0 : Array Value) (n0 : Nat) (hw : ∀ d ∈ tables_1, d.before a0 Z = true) (ws : List Jvm.Cond) (a : Int64) (b c d e : Int32) (f : Int64)  :
    own_Con l Z n0 x code maxLocals ret ws room_1 #[.long a, .int b, .int c, .int d, .int e, .long f] [] (fun v _ => v = some (.int 1)) := by
  refine own_con own_pnlaw (fun m_ => own_eflaw m_ a b c d e f) ?_
  intro G C
  refine C.lloadN (q := 1) at_0 rfl rfl ?_
  refine C.bipush (q := 3) (z := (32 : Int32)) at_1 rfl rfl ?_
  refine C.lushr (q := 4) at_3 rfl ?_
  refine C.l2i (q := 5) at_4 rfl ?_
  refine C.ldc (q := 7) (v := (2147483647 : Int32)) at_5 (hw _ (List.mem_of_getElem? (i := 0) rfl)) rfl ?_
  refine C.iand (q := 8) at_7 rfl ?_
  refine C.istore (q := 10) (ls' := [.val (.long a), .second, .val (.int b), .val (.int c), .val (.int d), .val (.int e), .val (.long f), .second, .val (.int ((((a.toUInt64 >>> ((32 : Int32) &&& 0x3f).toInt64.toUInt64).toInt64).toInt32) &&& (2147483647 : Int32))), .unset, .unset, .unset, .unset, .unset, .unset, .unset, .unset, .unset, .unset, .unset, .unset, .unset, .unset]) at_8 rfl rfl ?_
  generalize hro : ((((a.toUInt64 >>> ((32 : Int32) &&& 0x3f).toInt64.toUInt64).toInt64).toInt32) &&& (2147483647 : Int32)) = ro
  have hro0 : 0 ≤ ro.toInt := by rw [← hro]; exact own_nn _
  refine C.lloadN (q := 11) at_10 rfl rfl ?_
  refine C.l2i (q := 12) at_11 rfl ?_
  refine C.ldc (q := 14) (v := (2147483647 : Int32)) at_12 (hw _ (List.mem_of_getElem? (i := 0) rfl)) rfl ?_
  refine C.iand (q := 15) at_14 rfl ?_
  refine C.istore (q := 17) (ls' := [.val (.long a), .second, .val (.int b), .val (.int c), .val (.int d), .val (.int e), .val (.long f), .second, .val (.int ro), .val (.int (a.toInt32 &&& (2147483647 : Int32))), .unset, .unset, .unset, .unset, .unset, .unset, .unset, .unset, .unset, .unset, .unset, .unset, .unset]) at_15 rfl rfl ?_
  generalize hco : (a.toInt32 &&& (2147483647 : Int32)) = co
  have hco0 : 0 ≤ co.toInt := by rw [← hco]; exact own_nn _
  refine C.iload (q := 19) at_17 rfl rfl ?_
  refine C.iload (q := 21) at_19 rfl rfl ?_
  refine C.isub (q := 22) at_21 rfl ?_
  refine C.istore (q := 24) (ls' := [.val (.long a), .second, .val (.int b), .val (.int c), .val (.int d), .val (.int e), .val (.long f), .second, .val (.int ro), .val (.int co), .val (.int (ro - co)), .unset, .unset, .unset, .unset, .unset, .unset, .unset, .unset, .unset, .unset, .unset, .unset]) at_22 rfl rfl ?_
  generalize hdf : (ro - co) = df
  refine C.iload (q := 26) at_24 rfl rfl ?_
  refine C.callS (q := 29) 0 [.int df] [] at_26 (hw _ (List.mem_of_getElem? (i := 1) rfl)) (hw _ (List.mem_of_getElem? (i := 2) rfl)) (hw _ (List.mem_of_getElem? (i := 3) rfl)) (hw _ (List.mem_of_getElem? (i := 4) rfl)) (own_c1 l Z a0 n0 hw [] df []) (by decide) (by decide) (by decide) own_pd0 rfl rfl rfl (Nat.le_of_eq rfl) (by decide) (by decide) rfl ?_
  rintro _ _ ⟨rfl, hE⟩
  rw [hE]
  show G 0 0 [] 29 [.val (.long a), .second, .val (.int b), .val (.int c), .val (.int d), .val (.int e), .val (.long f), .second, .val (.int ro), .val (.int co), .val (.int df), .unset, .unset, .unset, .unset, .unset, .unset, .unset, .unset, .unset, .unset, .unset, .unset] [.int (own_ab df)]
  refine C.istore (q := 31) (ls' := [.val (.long a), .second, .val (.int b), .val (.int c), .val (.int d), .val (.int e), .val (.long f), .second, .val (.int ro), .val (.int co), .val (.int df), .val (.int (own_ab df)), .unset, .unset, .unset, .unset, .unset, .unset, .unset, .unset, .unset, .unset, .unset]) at_29 rfl rfl ?_
  refine C.iload (q := 33) at_31 rfl rfl ?_
  refine C.iload (q := 35) at_33 rfl rfl ?_
  refine C.callS (q := 38) 0 [.int ro, .int co] [] at_35 (hw _ (List.mem_of_getElem? (i := 5) rfl)) (hw _ (List.mem_of_getElem? (i := 6) rfl)) (hw _ (List.mem_of_getElem? (i := 3) rfl)) (hw _ (List.mem_of_getElem? (i := 7) rfl)) (own_c2 l Z a0 n0 hw [] ro co []) (by decide) (by decide) (by decide) own_pd1 rfl rfl rfl (Nat.le_of_eq rfl) (by decide) (by decide) rfl ?_
  rintro _ _ ⟨rfl, hE⟩
  rw [hE]
  show G 0 0 [] 38 [.val (.long a), .second, .val (.int b), .val (.int c), .val (.int d), .val (.int e), .val (.long f), .second, .val (.int ro), .val (.int co), .val (.int df), .val (.int (own_ab df)), .unset, .unset, .unset, .unset, .unset, .unset, .unset, .unset, .unset, .unset, .unset] [.int (own_mn ro co)]
  refine C.i2l (q := 39) at_38 rfl ?_
  refine C.lconst (q := 40) (z := (1 : Int64)) at_39 rfl rfl ?_
  refine C.ladd (q := 41) at_40 rfl ?_
  refine C.lstore (q := 43) (ls' := [.val (.long a), .second, .val (.int b), .val (.int c), .val (.int d), .val (.int e), .val (.long f), .second, .val (.int ro), .val (.int co), .val (.int df), .val (.int (own_ab df)), .val (.long (((own_mn ro co).toInt64) + (1 : Int64))), .second, .unset, .unset, .unset, .unset, .unset, .unset, .unset, .unset, .unset]) at_41 rfl rfl ?_
  refine C.iload (q := 45) at_43 rfl rfl ?_
  refine C.iloadN (q := 46) at_45 rfl rfl ?_
  refine C.ldc (q := 48) (v := (2147483647 : Int32)) at_46 (hw _ (List.mem_of_getElem? (i := 0) rfl)) rfl ?_
  refine C.iand (q := 49) at_48 rfl ?_
  refine C.i2l (q := 50) at_49 rfl ?_
  refine C.lload (q := 52) at_50 rfl rfl ?_
  refine C.lrem (q := 53) at_52 (own_rg hro0 hco0) rfl ?_
  refine C.l2i (q := 54) at_53 rfl ?_
  refine C.iadd (q := 55) at_54 rfl ?_
  refine C.istore (q := 57) (ls' := [.val (.long a), .second, .val (.int b), .val (.int c), .val (.int d), .val (.int e), .val (.long f), .second, .val (.int ro), .val (.int co), .val (.int df), .val (.int (own_ab df)), .val (.long (((own_mn ro co).toInt64) + (1 : Int64))), .second, .val (.int ((own_ab df) + ((((b &&& (2147483647 : Int32)).toInt64) % (((own_mn ro co).toInt64) + (1 : Int64))).toInt32))), .unset, .unset, .unset, .unset, .unset, .unset, .unset, .unset]) at_55 rfl rfl ?_
  generalize hmx : ((own_ab df) + ((((b &&& (2147483647 : Int32)).toInt64) % (((own_mn ro co).toInt64) + (1 : Int64))).toInt32)) = mx
  refine C.newobj (q := 60) [("max", "I", .int), ("difference", "I", .int), ("columns", "I", .int), ("lower", "I", .int), ("upper", "I", .int)] (fs := [("max", "I", .int (0 : Int32)), ("difference", "I", .int (0 : Int32)), ("columns", "I", .int (0 : Int32)), ("lower", "I", .int (0 : Int32)), ("upper", "I", .int (0 : Int32))]) (k' := 1) (n' := 5) at_57 (hw _ (List.mem_of_getElem? (i := 8) rfl)) (hw _ (List.mem_of_getElem? (i := 9) rfl)) (hw _ (List.mem_of_getElem? (i := 10) rfl)) ⟨⟨Or.inr (hw _ (List.mem_of_getElem? (i := 18) rfl)), by decide⟩, ⟨⟨Or.inr (hw _ (List.mem_of_getElem? (i := 20) rfl)), by decide⟩, ⟨⟨Or.inr (hw _ (List.mem_of_getElem? (i := 22) rfl)), by decide⟩, ⟨⟨Or.inr (hw _ (List.mem_of_getElem? (i := 24) rfl)), by decide⟩, ⟨⟨Or.inr (hw _ (List.mem_of_getElem? (i := 26) rfl)), by decide⟩, trivial⟩⟩⟩⟩⟩ (by decide) (by decide) (by decide) rfl rfl rfl rfl (fun a57 => ?_)
  show G 1 5 [(a57, .inr ("com/example/hairsbreadth/hairsbreadth/Band", [("max", "I", .int (0 : Int32)), ("difference", "I", .int (0 : Int32)), ("columns", "I", .int (0 : Int32)), ("lower", "I", .int (0 : Int32)), ("upper", "I", .int (0 : Int32))]))] 60 [.val (.long a), .second, .val (.int b), .val (.int c), .val (.int d), .val (.int e), .val (.long f), .second, .val (.int ro), .val (.int co), .val (.int df), .val (.int (own_ab df)), .val (.long (((own_mn ro co).toInt64) + (1 : Int64))), .second, .val (.int mx), .unset, .unset, .unset, .unset, .unset, .unset, .unset, .unset] [.ref a57]
  refine C.dup (q := 61) at_60 rfl rfl ?_
  refine C.iload (q := 63) at_61 rfl rfl ?_
  refine C.iload (q := 65) at_63 rfl rfl ?_
  refine C.iload (q := 67) at_65 rfl rfl ?_
  refine C.callI (q := 70) 1 a57 [.int ro, .int co, .int mx] [.ref a57] at_67 (hw _ (List.mem_of_getElem? (i := 11) rfl)) (hw _ (List.mem_of_getElem? (i := 12) rfl)) (hw _ (List.mem_of_getElem? (i := 10) rfl)) (hw _ (List.mem_of_getElem? (i := 13) rfl)) (own_c4 l Z a0 n0 hw [] a57 ro co mx) rfl (by decide) (by decide) (by decide) own_pd2 rfl rfl rfl (Nat.le_of_eq rfl) (by decide) (by decide) rfl ?_
  rintro _ _ ⟨rfl, hE⟩
  rw [hE]
  rw [hdf]
  show G 1 5 [(a57, .inr ("com/example/hairsbreadth/hairsbreadth/Band", [("max", "I", .int mx), ("difference", "I", .int df), ("columns", "I", .int co), ("lower", "I", .int ((mx + df) / (2 : Int32))), ("upper", "I", .int ((mx - df) / (2 : Int32)))]))] 70 [.val (.long a), .second, .val (.int b), .val (.int c), .val (.int d), .val (.int e), .val (.long f), .second, .val (.int ro), .val (.int co), .val (.int df), .val (.int (own_ab df)), .val (.long (((own_mn ro co).toInt64) + (1 : Int64))), .second, .val (.int mx), .unset, .unset, .unset, .unset, .unset, .unset, .unset, .unset] [.ref a57]
  refine C.astore (q := 72) (ls' := [.val (.long a), .second, .val (.int b), .val (.int c), .val (.int d), .val (.int e), .val (.long f), .second, .val (.int ro), .val (.int co), .val (.int df), .val (.int (own_ab df)), .val (.long (((own_mn ro co).toInt64) + (1 : Int64))), .second, .val (.int mx), .val (.ref a57), .unset, .unset, .unset, .unset, .unset, .unset, .unset]) at_70 rfl rfl rfl ?_
  refine C.iloadN (q := 73) at_72 rfl rfl ?_
  refine C.i2l (q := 74) at_73 rfl ?_
  refine C.iload (q := 76) at_74 rfl rfl ?_
  refine C.i2l (q := 77) at_76 rfl ?_
  refine C.lsub (q := 78) at_77 rfl ?_
  refine C.lstore (q := 80) (ls' := [.val (.long a), .second, .val (.int b), .val (.int c), .val (.int d), .val (.int e), .val (.long f), .second, .val (.int ro), .val (.int co), .val (.int df), .val (.int (own_ab df)), .val (.long (((own_mn ro co).toInt64) + (1 : Int64))), .second, .val (.int mx), .val (.ref a57), .val (.long (c.toInt64 - df.toInt64)), .second, .unset, .unset, .unset, .unset, .unset]) at_78 rfl rfl ?_
  refine C.iload (q := 82) at_80 rfl rfl ?_
  refine C.i2l (q := 83) at_82 rfl ?_
  refine C.iload (q := 85) at_83 rfl rfl ?_
  refine C.i2l (q := 86) at_85 rfl ?_
  refine C.iload (q := 88) at_86 rfl rfl ?_
  refine C.i2l (q := 89) at_88 rfl ?_
  refine C.lsub (q := 90) at_89 rfl ?_
  refine C.ladd (q := 91) at_90 rfl ?_
  refine C.iload (q := 93) at_91 rfl rfl ?_
  refine C.i2l (q := 94) at_93 rfl ?_
  refine C.lload (q := 96) at_94 rfl rfl ?_
  refine C.lsub (q := 97) at_96 rfl ?_
  refine C.callS (q := 100) 2 [.long (d.toInt64 - (c.toInt64 - df.toInt64))] [.long (mx.toInt64 + (e.toInt64 - d.toInt64))] at_97 (hw _ (List.mem_of_getElem? (i := 27) rfl)) (hw _ (List.mem_of_getElem? (i := 28) rfl)) (hw _ (List.mem_of_getElem? (i := 3) rfl)) (hw _ (List.mem_of_getElem? (i := 29) rfl)) (own_c3 l Z a0 n0 hw [] (d.toInt64 - (c.toInt64 - df.toInt64)) [(a57, .inr ("com/example/hairsbreadth/hairsbreadth/Band", [("max", "I", .int mx), ("difference", "I", .int df), ("columns", "I", .int co), ("lower", "I", .int ((mx + df) / (2 : Int32))), ("upper", "I", .int ((mx - df) / (2 : Int32)))]))]) (by decide) (by decide) (by decide) own_pd3 rfl rfl rfl (Nat.le_of_eq rfl) (by decide) (by decide) rfl ?_
  rintro _ _ ⟨rfl, hE⟩
  rw [hE]
  show G 1 5 [(a57, .inr ("com/example/hairsbreadth/hairsbreadth/Band", [("max", "I", .int mx), ("difference", "I", .int df), ("columns", "I", .int co), ("lower", "I", .int ((mx + df) / (2 : Int32))), ("upper", "I", .int ((mx - df) / (2 : Int32)))]))] 100 [.val (.long a), .second, .val (.int b), .val (.int c), .val (.int d), .val (.int e), .val (.long f), .second, .val (.int ro), .val (.int co), .val (.int df), .val (.int (own_ab df)), .val (.long (((own_mn ro co).toInt64) + (1 : Int64))), .second, .val (.int mx), .val (.ref a57), .val (.long (c.toInt64 - df.toInt64)), .second, .unset, .unset, .unset, .unset, .unset] [.long (own_abL (d.toInt64 - (c.toInt64 - df.toInt64))), .long (mx.toInt64 + (e.toInt64 - d.toInt64))]
  refine C.lsub (q := 101) at_100 rfl ?_
  refine C.lstore (q := 103) (ls' := [.val (.long a), .second, .val (.int b), .val (.int c), .val (.int d), .val (.int e), .val (.long f), .second, .val (.int ro), .val (.int co), .val (.int df), .val (.int (own_ab df)), .val (.long (((own_mn ro co).toInt64) + (1 : Int64))), .second, .val (.int mx), .val (.ref a57), .val (.long (c.toInt64 - df.toInt64)), .second, .val (.long ((mx.toInt64 + (e.toInt64 - d.toInt64)) - (own_abL (d.toInt64 - (c.toInt64 - df.toInt64))))), .second, .unset, .unset, .unset]) at_101 rfl rfl ?_
  generalize hbo : ((mx.toInt64 + (e.toInt64 - d.toInt64)) - (own_abL (d.toInt64 - (c.toInt64 - df.toInt64)))) = bo
  refine C.lload (q := 105) at_103 rfl rfl ?_
  refine C.lconst (q := 106) (z := (1 : Int64)) at_105 rfl rfl ?_
  refine C.land (q := 107) at_106 rfl ?_
  refine C.lconst (q := 108) (z := (0 : Int64)) at_107 rfl rfl ?_
  have J108 : ∀ (ce : Int64), (ce = f ∨ ce = (bo + ((f >>> ((1 : Int32) &&& 0x3f).toInt64) % (3 : Int64)))) → G 1 5 [(a57, .inr ("com/example/hairsbreadth/hairsbreadth/Band", [("max", "I", .int mx), ("difference", "I", .int df), ("columns", "I", .int co), ("lower", "I", .int ((mx + df) / (2 : Int32))), ("upper", "I", .int ((mx - df) / (2 : Int32)))]))] 128 [.val (.long a), .second, .val (.int b), .val (.int c), .val (.int d), .val (.int e), .val (.long f), .second, .val (.int ro), .val (.int co), .val (.int df), .val (.int (own_ab df)), .val (.long (((own_mn ro co).toInt64) + (1 : Int64))), .second, .val (.int mx), .val (.ref a57), .val (.long (c.toInt64 - df.toInt64)), .second, .val (.long bo), .second, .unset, .unset, .unset] [.long ce] := by
    intro ce hce
    refine C.lstore (q := 130) (ls' := [.val (.long a), .second, .val (.int b), .val (.int c), .val (.int d), .val (.int e), .val (.long f), .second, .val (.int ro), .val (.int co), .val (.int df), .val (.int (own_ab df)), .val (.long (((own_mn ro co).toInt64) + (1 : Int64))), .second, .val (.int mx), .val (.ref a57), .val (.long (c.toInt64 - df.toInt64)), .second, .val (.long bo), .second, .val (.long ce), .second, .unset]) at_128 rfl rfl ?_
    refine C.lload (q := 132) at_130 rfl rfl ?_
    refine C.lload (q := 134) at_132 rfl rfl ?_
    have J134 : ∀ (ex : Int32), ex = (if bo < ce then (0 : Int32) else (1 : Int32)) → G 1 5 [(a57, .inr ("com/example/hairsbreadth/hairsbreadth/Band", [("max", "I", .int mx), ("difference", "I", .int df), ("columns", "I", .int co), ("lower", "I", .int ((mx + df) / (2 : Int32))), ("upper", "I", .int ((mx - df) / (2 : Int32)))]))] 143 [.val (.long a), .second, .val (.int b), .val (.int c), .val (.int d), .val (.int e), .val (.long f), .second, .val (.int ro), .val (.int co), .val (.int df), .val (.int (own_ab df)), .val (.long (((own_mn ro co).toInt64) + (1 : Int64))), .second, .val (.int mx), .val (.ref a57), .val (.long (c.toInt64 - df.toInt64)), .second, .val (.long bo), .second, .val (.long ce), .second, .unset] [.int ex] := by
      intro ex hex
      refine C.istore (q := 145) (ls' := [.val (.long a), .second, .val (.int b), .val (.int c), .val (.int d), .val (.int e), .val (.long f), .second, .val (.int ro), .val (.int co), .val (.int df), .val (.int (own_ab df)), .val (.long (((own_mn ro co).toInt64) + (1 : Int64))), .second, .val (.int mx), .val (.ref a57), .val (.long (c.toInt64 - df.toInt64)), .second, .val (.long bo), .second, .val (.long ce), .second, .val (.int ex)]) at_143 rfl rfl ?_
      refine C.aload (q := 147) at_145 rfl rfl rfl ?_
      refine C.iloadN (q := 148) at_147 rfl rfl ?_
      refine C.iload (q := 150) at_148 rfl rfl ?_
      refine C.iload (q := 152) at_150 rfl rfl ?_
      refine C.lload (q := 154) at_152 rfl rfl ?_
      refine C.callV (q := 157) 0 0 [.int c, .int d, .int e, .long ce] [] at_154 (hw _ (List.mem_of_getElem? (i := 30) rfl)) (hw _ (List.mem_of_getElem? (i := 31) rfl)) (hw _ (List.mem_of_getElem? (i := 32) rfl)) (hw _ (List.mem_of_getElem? (i := 33) rfl)) (hw _ (List.mem_of_getElem? (i := 10) rfl)) (hw _ (List.mem_of_getElem? (i := 34) rfl)) (own_c5 l Z a0 n0 hw [] a57 mx df co ((mx + df) / (2 : Int32)) ((mx - df) / (2 : Int32)) c d e ce) (by decide) (by decide) (by decide) own_pd4 rfl rfl rfl rfl (Nat.le_of_eq rfl) (by decide) (by decide) rfl ?_
      rintro _ _ ⟨rfl, hE⟩
      rw [hE]
      show G 1 5 [(a57, .inr ("com/example/hairsbreadth/hairsbreadth/Band", [("max", "I", .int mx), ("difference", "I", .int df), ("columns", "I", .int co), ("lower", "I", .int ((mx + df) / (2 : Int32))), ("upper", "I", .int ((mx - df) / (2 : Int32)))]))] 157 [.val (.long a), .second, .val (.int b), .val (.int c), .val (.int d), .val (.int e), .val (.long f), .second, .val (.int ro), .val (.int co), .val (.int df), .val (.int (own_ab df)), .val (.long (((own_mn ro co).toInt64) + (1 : Int64))), .second, .val (.int mx), .val (.ref a57), .val (.long (c.toInt64 - df.toInt64)), .second, .val (.long bo), .second, .val (.long ce), .second, .val (.int ex)] [.int (if own_bd mx df c d e < ce then (0 : Int32) else (1 : Int32))]
      refine C.iload (q := 159) at_157 rfl rfl ?_
      refine C.icmpNe (q := 166) (q' := 162) at_159 (by decide) (by decide) rfl (fun h159 => ?_) (fun h159 => absurd (by rw [hex, ← hbo, own_eq]) h159)
      refine C.iconst (q := 163) (z := (1 : Int32)) at_162 rfl rfl ?_
      refine C.goto (q := 167) at_163 (by decide) (by decide) ?_
      exact C.retB (by simp) at_167 (by decide) (by decide) rfl
    refine C.lcmpGt (q := 142) (q' := 138) (q1 := 135) at_134 rfl at_135 (by decide) (by decide) rfl (fun h134 => ?_) (fun h134 => ?_)
    · refine C.iconst (q := 143) (z := (0 : Int32)) at_142 rfl rfl ?_
      exact J134 _ (if_pos h134).symm
    · refine C.iconst (q := 139) (z := (1 : Int32)) at_138 rfl rfl ?_
      refine C.goto (q := 143) at_139 (by decide) (by decide) ?_
      exact J134 _ (if_neg h134).symm
  refine C.lcmpNe (q := 117) (q' := 112) (q1 := 109) at_108 rfl at_109 (by decide) (by decide) rfl (fun h108 => ?_) (fun h108 => ?_)
  · refine C.lload (q := 114) at_112 rfl rfl ?_
    refine C.goto (q := 128) at_114 (by decide) (by decide) ?_
    exact J108 _ (Or.inl rfl)
  · refine C.lload (q := 119) at_117 rfl rfl ?_
    refine C.lload (q := 121) at_119 rfl rfl ?_
    refine C.iconst (q := 122) (z := (1 : Int32)) at_121 rfl rfl ?_
    refine C.lshr (q := 123) at_122 rfl ?_
    refine C.ldc2 (q := 126) (v := (3 : Int64)) at_123 (hw _ (List.mem_of_getElem? (i := 35) rfl)) rfl ?_
    refine C.lrem (q := 127) at_126 (by decide) rfl ?_
    refine C.ladd (q := 128) at_127 rfl ?_
    exact J108 _ (Or.inr rfl)
set_option maxRecDepth 65536 in
set_option maxHeartbeats 40000000 in
theorem comes_1 {Post : Tables → Env → Array Value → State → Outcome → State → Prop} (hpost : ∀ tb e args s v u, (limb_1_1.after args s (.returned v) u = true ∧ limb_1_2.after args s (.returned v) u = true ∧ True) → FrameEnd s (.returned v) u (Jvm.fieldLocs frame_1_writes args s ++ Jvm.arrayLocs frame_1_arrays args s ++ Jvm.staticLocs frame_1_statics s) 16 128 → Post tb e args s (.returned v) u) :
    ArmFor flags0 classFile x code maxLocals ret World_1 tables_1 room_1 Calls_1 rest_1 Pre_1 Post := by
  intro l hfl _ _ p e ha hc hk s m args below hf hA hF happ hP
  obtain ⟨hcalls, hrest, hpre⟩ := hP
  obtain ⟨-, -, -, hnamed, -, -, -, hat⟩ := (Spec.applies_iff hf).mp happ
  obtain ⟨hg, hn⟩ := and_e (Cond.before_iff.mp (show (Jvm.Cond.and given_1 narrow_1).before args s = true from hpre))
  obtain ⟨hcnt, g0⟩ := and_e hg
  obtain ⟨q0, g1⟩ := and_e g0
  obtain ⟨q1, g2⟩ := and_e g1
  obtain ⟨q2, g3⟩ := and_e g2
  obtain ⟨q3, g4⟩ := and_e g3
  obtain ⟨q4, g5⟩ := and_e g4
  obtain ⟨w0, w1, w2, w3, w4, w5, rfl⟩ : ∃ w0 w1 w2 w3 w4 w5 : Value, args = #[w0, w1, w2, w3, w4, w5] := by
    have hs : args.size = 6 := by simpa [Cond.value, given_1] using hcnt
    obtain ⟨L⟩ := args
    match L, hs with
    | [w0, w1, w2, w3, w4, w5], _ => exact ⟨w0, w1, w2, w3, w4, w5, rfl⟩
  have hw := fun d (hd : d ∈ tables_1) => atoms_spec (ws := Jvm.Cond.code x code maxLocals ret :: tables_1) hat d (List.mem_cons_of_mem _ hd)
  obtain ⟨i0, e0⟩ := isL_v q0
  obtain rfl : w0 = (.long i0) := Option.some.inj e0
  obtain ⟨i1, e1⟩ := is_v q1
  obtain rfl : w1 = (.int i1) := Option.some.inj e1
  obtain ⟨i2, e2⟩ := is_v q2
  obtain rfl : w2 = (.int i2) := Option.some.inj e2
  obtain ⟨i3, e3⟩ := is_v q3
  obtain rfl : w3 = (.int i3) := Option.some.inj e3
  obtain ⟨i4, e4⟩ := is_v q4
  obtain rfl : w4 = (.int i4) := Option.some.inj e4
  obtain ⟨i5, e5⟩ := isL_v g5
  obtain rfl : w5 = (.long i5) := Option.some.inj e5
  obtain ⟨n, o, h1, h2, h3, _, L, rfl, ⟨N, H', hH', hv⟩, hq⟩ := own_claw l s _ s.heap.size hw tables_1 i0 i1 i2 i3 i4 i5  s.heap ⟨Nat.le_refl _, fun i j a o o' z => by simp at z, fun i a o z => by simp at z⟩ p e ha hc hk s m _ below hf ((Spec.applies_iff_loose hf).mp happ).1 ⟨rfl, State.Warmed39.refl s, rfl⟩ trivial
  cases hv
  refine ⟨n, _, h1, h2, h3, hpost _ _ _ _ _ _ ⟨Cond.after_iff.mpr rfl, Cond.after_iff.mpr (eq_i res_at (Term.int_eval (1)) rfl), trivial⟩ ⟨hq.1, hq.2.1, (hq.2.2.sift fun y hy => Or.inr (N y hy)).mono (by decide) (by decide)⟩⟩
theorem main_1_1 : Claimed_1_1 := comes_1 fun _ _ _ _ _ _ h hF => ⟨h.1, hF⟩
theorem main_1_2 : Claimed_1_2 := comes_1 fun _ _ _ _ _ _ h hF => ⟨h.2.1, hF⟩
end Jvm.Pilot.@@N@@
namespace Jvm.Pilot.@@N@@
open Jvm Jvm.ClassFile Sem Op Lib Jvm.Free Jvm.Stand Jvm.Pilot.@@N@@.Jvm.D
/-! MADE BY PROGRAM (witnessworld.py) out of the Statement's table words and the real class files: 10 classes; the members and pool entries that the words name. The judged class is class 1, her method 1. -/
namespace start1
open Jvm.ClassFile
def u (s : String) : CpInfo := .utf8 (stringToUtf16 s)
/-- a pool by its gaps: so many unusable entries, then the entry; so many at the end -/
def gap : Nat → List CpInfo → List CpInfo
  | 0, r => r
  | n + 1, r => .unusable :: gap n r
def poolList (es : List (Nat × CpInfo)) (last : Nat) : List CpInfo := es.foldr (fun e r => gap e.1 (e.2 :: r)) (gap last [])
def pool (es : List (Nat × CpInfo)) (last : Nat) : Array CpInfo := ⟨poolList es last⟩
def fileOf (pool : Array CpInfo) (this : Nat) (attrs : Array Attribute := #[]) (ms : Array MethodInfo := #[]) (fl : Nat := 33) (sup : Nat := 0) (ifs : Array Nat := #[]) (fds : Array FieldInfo := #[]) : ClassFile where
  minorVersion := 0
  majorVersion := 65
  constantPool := pool
  accessFlags := fl
  thisClass := this
  superClass := sup
  interfaces := ifs
  fields := fds
  methods := ms
  attributes := attrs
def plain (name : String) (sup : Option ClassId) : Class where
  name := name
  kind := .ordinary
  loader := none
  accessFlags := 33
  super := sup
  interfaces := #[]
  cf := none
  fields := #[]
  methods := #[]
  instanceTypes := #[]
  staticTypes := #[]
  resolved := #[]
  callSites := []
  init := .initialized
  statics := none
  mirror := none

def pool0 : Array CpInfo := pool [(5, u "<init>"), (0, u "()V"), (1, .class_ 10), (1, u "java/lang/Object")] 113

def k0c0 : Code := { maxStack := 0, maxLocals := 1, code := object_method_1_code, exceptionTable := #[], attributes := #[] }
def k0m0 : Method := { name := "<init>", desc := "()V", sig := { parameters := [], returnType := none }, accessFlags := 1, code := some k0c0 }
/-- java/lang/Object -/
def k0 : Class := { plain "java/lang/Object" none with
  accessFlags := 33
  interfaces := #[]
  cf := some (fileOf pool0 8 #[] #[{ accessFlags := 1, nameIndex := 5, descriptorIndex := 6, attributes := #[] }] 33 0 #[] #[])
  fields := #[]
  methods := #[k0m0]
  instanceTypes := #[]
  staticTypes := #[]
  resolved := Array.replicate 124 none
  statics := none }

def pool1 : Array CpInfo := pool [(2, .class_ 4), (1, u "java/lang/Object"), (0, u "<init>"), (0, u "()V"), (0, .integer 2147483647), (0, .methodref 9 10), (0, .class_ 11), (0, .nameAndType 12 13), (0, u "java/lang/Math"), (0, u "abs"), (0, u "(I)I"), (0, .methodref 9 15), (0, .nameAndType 16 17), (0, u "min"), (0, u "(II)I"), (0, .class_ 19), (0, u "com/example/hairsbreadth/hairsbreadth/Band"), (0, .methodref 18 21), (0, .nameAndType 5 22), (0, u "(III)V"), (0, .methodref 9 24), (0, .nameAndType 12 25), (0, u "(J)J"), (0, .long 3), (1, .methodref 18 29), (0, .nameAndType 30 31), (0, u "inReachUpTo"), (0, u "(IIIJ)Z"), (0, .class_ 33), (0, u "com/example/hairsbreadth/hairsbreadth/BandInReachUpToPinLaw"), (2, u "law"), (0, u "(JIIIIJ)Z")] 3

def k1m0 : Method := { name := "<init>", desc := "()V", sig := { parameters := [], returnType := none }, accessFlags := 1, code := none }
def k1c1 : Code := { maxStack := 6, maxLocals := 23, code := code, exceptionTable := #[], attributes := #[] }
def k1m1 : Method := { name := "law", desc := "(JIIIIJ)Z", sig := { parameters := [.long, .int, .int, .int, .int, .long], returnType := some .boolean }, accessFlags := 9, code := some k1c1 }
/-- com/example/hairsbreadth/hairsbreadth/BandInReachUpToPinLaw -/
def k1 : Class := { plain "com/example/hairsbreadth/hairsbreadth/BandInReachUpToPinLaw" (some 0) with
  accessFlags := 49
  interfaces := #[]
  cf := some (fileOf pool1 32 #[] #[{ accessFlags := 1, nameIndex := 5, descriptorIndex := 6, attributes := #[] }, { accessFlags := 9, nameIndex := 36, descriptorIndex := 37, attributes := #[] }] 49 2 #[] #[])
  fields := #[]
  methods := #[k1m0, k1m1]
  instanceTypes := #[]
  staticTypes := #[]
  resolved := Array.replicate 41 none
  statics := none }

def pool2 : Array CpInfo := pool [(1, .class_ 2), (0, u "java/lang/Math"), (1, .class_ 6), (1, u "java/lang/Object"), (0, u "<init>"), (0, u "()V"), (89, .class_ 100), (1, u "java/lang/Math$RandomNumberGeneratorHolder"), (23, u "abs"), (0, u "(J)J"), (33, u "(I)I"), (12, u "negativeZeroFloatBits"), (0, u "J"), (2, u "negativeZeroDoubleBits"), (24, u "min"), (43, u "$assertionsDisabled"), (0, u "Z"), (88, u "(II)I"), (2, u "twoToTheDoubleScaleDown"), (0, u "D"), (4, u "twoToTheDoubleScaleUp"), (9, u "E"), (3, u "PI"), (2, u "TAU"), (2, u "DEGREES_TO_RADIANS"), (0, u "RADIANS_TO_DEGREES")] 94

def k2m0 : Method := { name := "<init>", desc := "()V", sig := { parameters := [], returnType := none }, accessFlags := 2, code := none }
def k2c1 : Code := { maxStack := 1, maxLocals := 1, code := jdk_29_method_59_code, exceptionTable := #[], attributes := #[] }
def k2m1 : Method := { name := "abs", desc := "(I)I", sig := { parameters := [.int], returnType := some .int }, accessFlags := 9, code := some k2c1 }
def k2c2 : Code := { maxStack := 4, maxLocals := 2, code := jdk_29_method_61_code, exceptionTable := #[], attributes := #[] }
def k2m2 : Method := { name := "abs", desc := "(J)J", sig := { parameters := [.long], returnType := some .long }, accessFlags := 9, code := some k2c2 }
def k2c3 : Code := { maxStack := 2, maxLocals := 2, code := jdk_29_method_69_code, exceptionTable := #[], attributes := #[] }
def k2m3 : Method := { name := "min", desc := "(II)I", sig := { parameters := [.int, .int], returnType := some .int }, accessFlags := 9, code := some k2c3 }
/-- java/lang/Math -/
def k2 : Class := { plain "java/lang/Math" (some 0) with
  accessFlags := 49
  interfaces := #[]
  cf := some (fileOf pool2 1 #[.nestMembers #[98]] #[{ accessFlags := 2, nameIndex := 7, descriptorIndex := 8, attributes := #[] }, { accessFlags := 9, nameIndex := 124, descriptorIndex := 159, attributes := #[] }, { accessFlags := 9, nameIndex := 124, descriptorIndex := 125, attributes := #[] }, { accessFlags := 9, nameIndex := 201, descriptorIndex := 335, attributes := #[] }] 49 4 #[] #[{ accessFlags := 25, nameIndex := 354, descriptorIndex := 339, attributes := #[] }, { accessFlags := 25, nameIndex := 358, descriptorIndex := 339, attributes := #[] }, { accessFlags := 25, nameIndex := 361, descriptorIndex := 339, attributes := #[] }, { accessFlags := 26, nameIndex := 364, descriptorIndex := 339, attributes := #[] }, { accessFlags := 26, nameIndex := 365, descriptorIndex := 339, attributes := #[] }, { accessFlags := 26, nameIndex := 172, descriptorIndex := 173, attributes := #[] }, { accessFlags := 26, nameIndex := 176, descriptorIndex := 173, attributes := #[] }, { accessFlags := 8, nameIndex := 344, descriptorIndex := 339, attributes := #[] }, { accessFlags := 8, nameIndex := 338, descriptorIndex := 339, attributes := #[] }, { accessFlags := 4120, nameIndex := 245, descriptorIndex := 246, attributes := #[] }])
  fields := #[{ name := "E", type := .double, accessFlags := 25, slot := 0, constantValue := 0 }, { name := "PI", type := .double, accessFlags := 25, slot := 1, constantValue := 0 }, { name := "TAU", type := .double, accessFlags := 25, slot := 2, constantValue := 0 }, { name := "DEGREES_TO_RADIANS", type := .double, accessFlags := 26, slot := 3, constantValue := 0 }, { name := "RADIANS_TO_DEGREES", type := .double, accessFlags := 26, slot := 4, constantValue := 0 }, { name := "negativeZeroFloatBits", type := .long, accessFlags := 26, slot := 5, constantValue := 0 }, { name := "negativeZeroDoubleBits", type := .long, accessFlags := 26, slot := 6, constantValue := 0 }, { name := "twoToTheDoubleScaleUp", type := .double, accessFlags := 8, slot := 7, constantValue := 0 }, { name := "twoToTheDoubleScaleDown", type := .double, accessFlags := 8, slot := 8, constantValue := 0 }, { name := "$assertionsDisabled", type := .boolean, accessFlags := 4120, slot := 9, constantValue := 0 }]
  methods := #[k2m0, k2m1, k2m2, k2m3]
  instanceTypes := #[]
  staticTypes := #[.double, .double, .double, .double, .double, .long, .long, .double, .double, .boolean]
  resolved := Array.replicate 460 none
  statics := none }

def pool3 : Array CpInfo := pool [(1, .methodref 2 3), (0, .class_ 4), (0, .nameAndType 5 6), (0, u "java/lang/Object"), (0, u "<init>"), (0, u "()V"), (0, .fieldref 8 9), (0, .class_ 10), (0, .nameAndType 11 12), (0, u "com/example/hairsbreadth/hairsbreadth/Band"), (0, u "max"), (0, u "I"), (0, .fieldref 8 14), (0, .nameAndType 15 12), (0, u "difference"), (0, .fieldref 8 17), (0, .nameAndType 18 12), (0, u "columns"), (0, .fieldref 8 20), (0, .nameAndType 21 12), (0, u "lower"), (0, .fieldref 8 23), (0, .nameAndType 24 12), (0, u "upper"), (12, .long 2), (1, u "(III)V"), (13, u "inReachUpTo"), (0, u "(IIIJ)Z")] 2

def k3c0 : Code := { maxStack := 3, maxLocals := 4, code := prog_1_method_1_code, exceptionTable := #[], attributes := #[] }
def k3m0 : Method := { name := "<init>", desc := "(III)V", sig := { parameters := [.int, .int, .int], returnType := none }, accessFlags := 0, code := some k3c0 }
def k3c1 : Code := { maxStack := 6, maxLocals := 10, code := prog_1_method_10_code, exceptionTable := #[], attributes := #[] }
def k3m1 : Method := { name := "inReachUpTo", desc := "(IIIJ)Z", sig := { parameters := [.int, .int, .int, .long], returnType := some .boolean }, accessFlags := 0, code := some k3c1 }
/-- com/example/hairsbreadth/hairsbreadth/Band -/
def k3 : Class := { plain "com/example/hairsbreadth/hairsbreadth/Band" (some 0) with
  accessFlags := 48
  interfaces := #[]
  cf := some (fileOf pool3 8 #[] #[{ accessFlags := 0, nameIndex := 5, descriptorIndex := 39, attributes := #[] }, { accessFlags := 0, nameIndex := 53, descriptorIndex := 54, attributes := #[] }] 48 2 #[] #[{ accessFlags := 18, nameIndex := 11, descriptorIndex := 12, attributes := #[] }, { accessFlags := 18, nameIndex := 15, descriptorIndex := 12, attributes := #[] }, { accessFlags := 18, nameIndex := 18, descriptorIndex := 12, attributes := #[] }, { accessFlags := 18, nameIndex := 21, descriptorIndex := 12, attributes := #[] }, { accessFlags := 18, nameIndex := 24, descriptorIndex := 12, attributes := #[] }])
  fields := #[{ name := "max", type := .int, accessFlags := 18, slot := 0, constantValue := 0 }, { name := "difference", type := .int, accessFlags := 18, slot := 1, constantValue := 0 }, { name := "columns", type := .int, accessFlags := 18, slot := 2, constantValue := 0 }, { name := "lower", type := .int, accessFlags := 18, slot := 3, constantValue := 0 }, { name := "upper", type := .int, accessFlags := 18, slot := 4, constantValue := 0 }]
  methods := #[k3m0, k3m1]
  instanceTypes := #[.int, .int, .int, .int, .int]
  staticTypes := #[]
  resolved := Array.replicate 57 none
  statics := none }

def pool4 : Array CpInfo := pool [(1, u "java/lang/Cloneable"), (0, .class_ 1), (0, u "java/lang/Object"), (0, .class_ 3)] 3

/-- java/lang/Cloneable -/
def k4 : Class := { plain "java/lang/Cloneable" (some 0) with
  accessFlags := 1537
  interfaces := #[]
  cf := some (fileOf pool4 2 #[] #[] 1537 4 #[] #[])
  fields := #[]
  methods := #[]
  instanceTypes := #[]
  staticTypes := #[]
  resolved := Array.replicate 8 none
  statics := none }

def pool5 : Array CpInfo := pool [(1, u "java/io/Serializable"), (0, .class_ 1), (0, u "java/lang/Object"), (0, .class_ 3)] 3

/-- java/io/Serializable -/
def k5 : Class := { plain "java/io/Serializable" (some 0) with
  accessFlags := 1537
  interfaces := #[]
  cf := some (fileOf pool5 2 #[] #[] 1537 4 #[] #[])
  fields := #[]
  methods := #[]
  instanceTypes := #[]
  staticTypes := #[]
  resolved := Array.replicate 8 none
  statics := none }

/-- the primitive byte -/
def k6 : Class := { plain "byte" none with kind := .primitive 'B', accessFlags := 0x411 }
/-- [B -/
def k7 : Class := { plain "[B" (some 0) with kind := .array 6 .byte, interfaces := #[4, 5], accessFlags := 1041 }

/-- the primitive int -/
def k8 : Class := { plain "int" none with kind := .primitive 'I', accessFlags := 0x411 }
/-- [I -/
def k9 : Class := { plain "[I" (some 0) with kind := .array 8 .int, interfaces := #[4, 5], accessFlags := 1041 }

def heap : Heap := #[]
def classes : Array Class := #[k0, k1, k2, k3, k4, k5, k6, k7, k8, k9]
def interned : List (Array UInt16 × Addr) := []
def slotsUsed : Nat := 0
def theMethod : MethodId := ⟨1, 1⟩
def args0 : Array Value := #[.long 21474836480, .int 7, .int 1, .int 2, .int 3, .long 4]
def aboutOver (below : List Frame) : State where
  vm := { classes := classes, interned := interned.toArray }
  heap := heap
  slotsUsed := slotsUsed
  threads := #[{ frames := .invoking theMethod args0 :: below }]
def below0 : List Frame := [.native { method := ⟨0, 0⟩, args := #[] }]
def about1 : State := aboutOver below0
def p0 : Program := .bare "" "" ""
def e0 : Env := launch0.env 0 0 0
theorem w_frames : about1.frames = Frame.invoking theMethod args0 :: below0 := rfl
set_option maxRecDepth 65536 in
theorem w_args : argsFit about1.vm theMethod args0 = true := by decide +kernel
set_option maxRecDepth 65536 in
theorem w_heap : heapFits about1 = true := by decide +kernel
set_option maxRecDepth 65536 in
theorem w_runnable : about1.curStatus? = some .runnable := by decide +kernel
set_option maxRecDepth 65536 in
theorem w_alone : about1.alone = true := by decide +kernel
set_option maxRecDepth 65536 in
theorem w_named : about1.methodNamed? x = some theMethod := by decide +kernel
set_option maxRecDepth 65536 in
theorem w_hears : about1.hears theMethod below0 = true := by decide +kernel
set_option maxRecDepth 65536 in
theorem w_ripe : about1.ripe theMethod args0 below0 = true := by decide +kernel
theorem w_running : about1.status = .running := rfl
set_option maxRecDepth 65536 in
theorem w_room : about1.hasRoom e0.platform room_1 = true :=
  launch0.hasRoom_least _ room_1 (by decide +kernel) (by decide +kernel) (by decide +kernel) (by decide +kernel) (by decide +kernel) (by decide +kernel)
theorem allAtoms_all (ts : List Jvm.Cond) (a : Array Jvm.Value) (st : Jvm.State) : (allAtoms ts).before a st = ts.all (fun c => c.before a st) := by
  induction ts with
  | nil => rfl
  | cons c t ih =>
    show (Jvm.Cond.and c (allAtoms t)).before a st = _
    rw [Jvm.Cond.before_and, ih, List.all_cons]
def words1 : List Jvm.Cond := Jvm.Cond.code x code maxLocals ret :: tables_1
/-- a 'code' word, met by the world's own term for the bytes: nothing is compared byte by byte -/
theorem code_word {y : MethodName} {bytes : ByteArray} {mx : Nat} {rt : Option FieldType} {a : Array Value} {s : State} {m : MethodId} {meth : Method} {c : Code} (h1 : s.methodNamed? y = some m) (h2 : s.vm.method? m = some meth) (h3 : meth.code = some c) (h4 : c.code = bytes)
    (h5 : (c.maxLocals == mx && c.exceptionTable.isEmpty && decide (c.maxStack ≤ mostOperands) && decide (meth.sig.returnType = rt) && !meth.locks && decide (parseMethodDescriptor y.desc = some meth.sig)) = true) : (Jvm.Cond.code y bytes mx rt).before a s = true := by
  simp only [Bool.and_eq_true, beq_iff_eq, Bool.not_eq_true', decide_eq_true_eq] at h5
  obtain ⟨⟨⟨⟨⟨g1, g2⟩, g3⟩, g4⟩, g5⟩, g6⟩ := h5
  simp [Cond.before, Cond.holds, Cond.value, h1, h2, h3, h4, g1, g2, g3, g4, g5, g6]
def isCode : Jvm.Cond → Bool
  | .code _ _ _ _ => true
  | _ => false
theorem all_split {L : List Jvm.Cond} {P : Jvm.Cond → Bool} (h1 : L.all (fun c => isCode c || P c) = true) (h2 : ∀ c ∈ L.filter isCode, P c = true) : L.all P = true := by
  refine List.all_eq_true.mpr fun c hc => ?_
  have h := List.all_eq_true.mp h1 c hc
  rcases Bool.eq_false_or_eq_true (isCode c) with hi | hi
  · exact h2 c (List.mem_filter.mpr ⟨hc, hi⟩)
  · simpa [hi] using h
set_option maxRecDepth 65536 in
theorem w_c0 : (Jvm.Cond.code x code maxLocals ret).before args0 about1 = true := code_word (m := ⟨1, 1⟩) (meth := k1m1) (c := k1c1) (by decide +kernel) rfl rfl rfl (by decide +kernel)
set_option maxRecDepth 65536 in
theorem w_c1 : (Jvm.Cond.code ({ cls := "java/lang/Math", name := "abs", desc := "(I)I" } : Jvm.MethodName) jdk_29_method_59_code (1 : Nat) (Option.some Jvm.ClassFile.FieldType.int)).before args0 about1 = true := code_word (m := ⟨2, 1⟩) (meth := k2m1) (c := k2c1) (by decide +kernel) rfl rfl rfl (by decide +kernel)
set_option maxRecDepth 65536 in
theorem w_c2 : (Jvm.Cond.code ({ cls := "java/lang/Math", name := "min", desc := "(II)I" } : Jvm.MethodName) jdk_29_method_69_code (2 : Nat) (Option.some Jvm.ClassFile.FieldType.int)).before args0 about1 = true := code_word (m := ⟨2, 3⟩) (meth := k2m3) (c := k2c3) (by decide +kernel) rfl rfl rfl (by decide +kernel)
set_option maxRecDepth 65536 in
theorem w_c3 : (Jvm.Cond.code ({ cls := "com/example/hairsbreadth/hairsbreadth/Band", name := "<init>", desc := "(III)V" } : Jvm.MethodName) prog_1_method_1_code (4 : Nat) (Option.none : Option Jvm.ClassFile.FieldType)).before args0 about1 = true := code_word (m := ⟨3, 0⟩) (meth := k3m0) (c := k3c0) (by decide +kernel) rfl rfl rfl (by decide +kernel)
set_option maxRecDepth 65536 in
theorem w_c4 : (Jvm.Cond.code ({ cls := "java/lang/Object", name := "<init>", desc := "()V" } : Jvm.MethodName) object_method_1_code (1 : Nat) (Option.none : Option Jvm.ClassFile.FieldType)).before args0 about1 = true := code_word (m := ⟨0, 0⟩) (meth := k0m0) (c := k0c0) (by decide +kernel) rfl rfl rfl (by decide +kernel)
set_option maxRecDepth 65536 in
theorem w_c5 : (Jvm.Cond.code ({ cls := "java/lang/Math", name := "abs", desc := "(J)J" } : Jvm.MethodName) jdk_29_method_61_code (2 : Nat) (Option.some Jvm.ClassFile.FieldType.long)).before args0 about1 = true := code_word (m := ⟨2, 2⟩) (meth := k2m2) (c := k2c2) (by decide +kernel) rfl rfl rfl (by decide +kernel)
set_option maxRecDepth 65536 in
theorem w_c6 : (Jvm.Cond.code ({ cls := "com/example/hairsbreadth/hairsbreadth/Band", name := "inReachUpTo", desc := "(IIIJ)Z" } : Jvm.MethodName) prog_1_method_10_code (10 : Nat) (Option.some Jvm.ClassFile.FieldType.boolean)).before args0 about1 = true := code_word (m := ⟨3, 1⟩) (meth := k3m1) (c := k3c1) (by decide +kernel) rfl rfl rfl (by decide +kernel)
def codes1 : List Jvm.Cond := [Jvm.Cond.code x code maxLocals ret, Jvm.Cond.code ({ cls := "java/lang/Math", name := "abs", desc := "(I)I" } : Jvm.MethodName) jdk_29_method_59_code (1 : Nat) (Option.some Jvm.ClassFile.FieldType.int), Jvm.Cond.code ({ cls := "java/lang/Math", name := "min", desc := "(II)I" } : Jvm.MethodName) jdk_29_method_69_code (2 : Nat) (Option.some Jvm.ClassFile.FieldType.int), Jvm.Cond.code ({ cls := "com/example/hairsbreadth/hairsbreadth/Band", name := "<init>", desc := "(III)V" } : Jvm.MethodName) prog_1_method_1_code (4 : Nat) (Option.none : Option Jvm.ClassFile.FieldType), Jvm.Cond.code ({ cls := "java/lang/Object", name := "<init>", desc := "()V" } : Jvm.MethodName) object_method_1_code (1 : Nat) (Option.none : Option Jvm.ClassFile.FieldType), Jvm.Cond.code ({ cls := "java/lang/Math", name := "abs", desc := "(J)J" } : Jvm.MethodName) jdk_29_method_61_code (2 : Nat) (Option.some Jvm.ClassFile.FieldType.long), Jvm.Cond.code ({ cls := "com/example/hairsbreadth/hairsbreadth/Band", name := "inReachUpTo", desc := "(IIIJ)Z" } : Jvm.MethodName) prog_1_method_10_code (10 : Nat) (Option.some Jvm.ClassFile.FieldType.boolean)]
set_option maxRecDepth 65536 in
theorem codes_eq : words1.filter isCode = codes1 := rfl
theorem w_codes : ∀ c ∈ words1.filter isCode, c.before args0 about1 = true := by
  rw [codes_eq]
  intro c hc
  simp only [codes1, List.mem_cons, List.not_mem_nil, or_false] at hc
  rcases hc with rfl | rfl | rfl | rfl | rfl | rfl | rfl
  · exact w_c0
  · exact w_c1
  · exact w_c2
  · exact w_c3
  · exact w_c4
  · exact w_c5
  · exact w_c6
set_option maxRecDepth 65536 in
theorem w_t1 : (words1.take 24).all (fun c => isCode c || c.before args0 about1) = true := by decide +kernel
set_option maxRecDepth 65536 in
theorem w_t2 : (words1.drop 24).all (fun c => isCode c || c.before args0 about1) = true := by decide +kernel
theorem w_tables : (allAtoms (Jvm.Cond.code x code maxLocals ret :: tables_1)).before args0 about1 = true := by
  rw [allAtoms_all]
  show words1.all (fun c => c.before args0 about1) = true
  refine all_split ?_ w_codes
  rw [← List.take_append_drop 24 words1, List.all_append, w_t1, w_t2]
  rfl
set_option maxRecDepth 65536 in
theorem w_case : (Jvm.Cond.and given_1 narrow_1).before args0 about1 = true := by decide +kernel
theorem w_applies : (headSpec (Jvm.Cond.code x code maxLocals ret :: tables_1) room_1).applies x e0.platform about1 = true :=
  (Spec.applies_iff w_frames).mpr ⟨w_running, w_runnable, w_alone, w_named, w_hears, w_ripe, w_room, w_tables⟩
theorem atStart : AtStart classFile x code maxLocals ret World_1 tables_1 room_1 Calls_1 rest_1 Pre_1 launch0 p0 e0 about1 theMethod args0 below0 :=
  ⟨lists_1, trivial, launch0.admits_env _ _ _, launch0.least_env, fairChoices_fair.cas, fairChoices_fair.clock, w_frames, w_args, w_heap, w_applies, trivial, trivial, w_case⟩
end start1
theorem witness_1 : WitnessClaimed_1 := ⟨start1.p0, start1.e0, start1.about1, start1.theMethod, start1.args0, start1.below0, start1.atStart⟩
end Jvm.Pilot.@@N@@
