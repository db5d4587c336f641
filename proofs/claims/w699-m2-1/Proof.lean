import JvmDerived
import JvmDerived.Pilot.@@N@@Statement
import JvmDerived.Pilot.@@N@@Code
set_option linter.unusedVariables false
set_option linter.unusedSimpArgs false
namespace Jvm.Pilot.@@N@@
open Jvm Jvm.ClassFile Sem Op Lib Jvm.Free Jvm.Stand Jvm.LawKit Jvm.RoadKit Bundle Jvm.Pilot.@@N@@.Jvm.D
-- OWN KIT: a walk over an abstract heap. 'own_Ob': an array (kind, values) or an object (class, fields).
abbrev own_Ob : Type := (FieldType × List Value) ⊕ (String × List (String × String × Value))
abbrev own_Hs : Type := List (Addr × own_Ob)
def own_is (Z : State) (h : Heap) (a : Addr) : own_Ob → Prop
  | .inl q => ∃ c : Cell, Arr Z h a c q.1 ∧ c.slots.toList = q.2
  | .inr q => Exa Z h a q.1 ∧ (∀ (i j : Nat) (f g : String × String × Value), q.2[i]? = some f → q.2[j]? = some g → RoadKit.slotOf Z q.1 f.1 f.2.1 = RoadKit.slotOf Z q.1 g.1 g.2.1 → i = j) ∧ ∀ (i : Nat) (f : String × String × Value), q.2[i]? = some f → Fld Z h a q.1 f.1 f.2.1 f.2.2
/-- the objects made since the law began, each at its own address -/
def own_Hp (Z : State) (n0 : Nat) (h : Heap) (H : own_Hs) : Prop :=
  n0 ≤ h.size ∧ (∀ (i j : Nat) (a : Addr) (o o' : own_Ob), H[i]? = some (a, o) → H[j]? = some (a, o') → i = j) ∧ ∀ (i : Nat) (a : Addr) (o : own_Ob), H[i]? = some (a, o) → n0 ≤ a ∧ a < h.size ∧ own_is Z h a o
/-- what is owed at the end -/
def own_P (Z : State) (n0 : Nat) (s : State) (below : List Frame) (R : Room) (Q : Option Value → own_Hs → Prop) (t : State) (o : Outcome) : Prop :=
  t.status = .running ∧ Ended t below o ∧ ∃ v L, o = .returned v ∧ (Fr n0 L ∧ ∃ H', own_Hp Z n0 t.heap H' ∧ Q v H') ∧ FrameEnd s o t L R.cells R.slots
def own_Go (Z : State) (n0 : Nat) (p : Program) (l : Launch) (e : Env) (R : Room) (s : State) (m : MethodId) (args : Array Value) (below : List Frame) (meth : Method) (c : Code) (P : State → Outcome → Prop)
    (k n : Nat) (H : own_Hs) (pc : Nat) (ls : List Slot) (st : List Value) : Prop :=
  ∀ T L, Stand p l e R s m args below meth c T L k n → Fr n0 L → own_Hp Z n0 T.heap H → ∃ t o, Steps p.tables e below (T.setTop (mkF m pc ⟨ls⟩ st)) t ∧ P t o
/-- G is the walk of y's body -/
def own_Wk (Z : State) (n0 : Nat) (R : Room) (y : MethodName) (bytes : ByteArray) (maxL : Nat) (ret : Option FieldType) (l : Launch) (Q : Option Value → own_Hs → Prop)
    (G : Nat → Nat → own_Hs → Nat → List Slot → List Value → Prop) : Prop :=
  ∃ p e s m args below meth c, G = own_Go Z n0 p l e R s m args below meth c (own_P Z n0 s below R Q) ∧ p.tables.exec = Jvm.exec ∧ Z.Warmed39 s.vm ∧ c.code = bytes ∧ c.maxLocals = maxL ∧
    s.vm.findClass y.cls = some m.cls ∧ meth.name = y.name ∧ meth.sig.returnType = ret ∧ meth.locks = false
/-- y's contract -/
def own_Con (l : Launch) (Z : State) (n0 : Nat) (y : MethodName) (bytes : ByteArray) (maxL : Nat) (ret : Option FieldType) (ws : List Jvm.Cond) (rm : Room) (as : Array Value) (H : own_Hs) (Q : Option Value → own_Hs → Prop) : Prop :=
  ∀ h0, own_Hp Z n0 h0 H → MetFree l y (head1 (Jvm.Cond.code y bytes maxL ret :: ws) rm) (fun a U => a = as ∧ Z.Warmed39 U.vm ∧ U.heap = h0) (fun _ _ _ _ _ => True)
    (fun _ U o U' => ∃ v L, o = .returned v ∧ (Fr n0 L ∧ ∃ H', own_Hp Z n0 U'.heap H' ∧ Q v H') ∧ FrameEnd U o U' L rm.cells rm.slots)
section OwnKit
variable {Z : State} {a0 : Array Value} {n0 : Nat} {R : Room} {y : MethodName} {bytes : ByteArray} {maxL : Nat} {ret : Option FieldType} {l : Launch} {Q : Option Value → own_Hs → Prop}
  {G : Nat → Nat → own_Hs → Nat → List Slot → List Value → Prop} {k n : Nat} {H : own_Hs} {pc q q' : Nat} {ls ls' : List Slot} {st st' : List Value}
theorem own_con {ws : List Jvm.Cond} {as : Array Value} {ls0 : List Slot} (hp : plainFor y = true) (hef : ∀ m, entryFrame m as maxL = mkF m 0 ⟨ls0⟩ []) (body : ∀ G, own_Wk Z n0 R y bytes maxL ret l Q G → G 0 0 H 0 ls0 []) :
    own_Con l Z n0 y bytes maxL ret ws R as H Q := by
  intro h0 hH
  refine MetFree.of_bodySF hp hisR ?_
  intro p e s m args below meth c s₁ Bd hml0 hP hK
  obtain ⟨ha, hZ, hh⟩ := hP
  subst ha
  have e0 : s₁.heap = h0 := by rw [← hh, Bd.state]; rfl
  have hown : s.vm.findClass y.cls = some m.cls := findClass_of_methodNamed Bd.named
  have hnm := (name_of_methodNamed Bd.named Bd.method).1
  obtain ⟨t, o, stp, P⟩ := body _ ⟨p, e, s, m, args, below, meth, c, rfl, Bd.exec, hZ, Bd.bytes, hml0, hown, hnm, Bd.returns, BodyLoose.notSynchronized Bd⟩ s₁ [] (Stand.of_body Bd) (Fr.nil n0) (by rw [e0]; exact hH)
  exact ⟨t, o, castTop (hef m) stp, P⟩
/-- a step that touches the frame alone -/
theorem own_Wk.of (C : own_Wk Z n0 R y bytes maxL ret l Q G) (K : G k n H q ls' st')
    (h : ∀ (p : Program) (e : Env) (T t : State) (m : MethodId) (below : List Frame) (c : Code), p.tables.exec = Jvm.exec → c.code = bytes → At T m c below → Steps p.tables e below (T.setTop (mkF m q ⟨ls'⟩ st')) t → Steps p.tables e below (T.setTop (mkF m pc ⟨ls⟩ st)) t) :
    G k n H pc ls st := by
  obtain ⟨p, e, s, m, args, below, meth, c, rfl, hx, hZ, hby, hml, hown, hnm, hret, hlk⟩ := C
  intro T L X N hH
  obtain ⟨t, o, stp, P⟩ := K T L X N hH
  exact ⟨t, o, h p e T t m below c hx hby X.here stp, P⟩
theorem own_Wk.more {k' n' : Nat} (C : own_Wk Z n0 R y bytes maxL ret l Q G) (hk : k ≤ k') (hn : n ≤ n') (K : G k' n' H pc ls st) : G k n H pc ls st := by
  obtain ⟨p, e, s, m, args, below, meth, c, rfl, hx, hZ, hby, hml, hown, hnm, hret, hlk⟩ := C
  exact fun T L X N hH => K T L (X.more hk hn) N hH
theorem own_Wk.iloadN (C : own_Wk Z n0 R y bytes maxL ret l Q G) {j : Fin 4} {v : Int32} (hd : decode bytes pc = .ok (.iload_n j, 1)) (hl : (Array.mk ls)[j.val]? = some (.val (.int v))) (hq : pc + 1 = q) (K : G k n H q ls (.int v :: st)) : G k n H pc ls st := by
  subst hq; exact C.of K fun _ _ _ _ _ _ _ hx hby X s => XS.iloadN X hx rfl (hb hby hd) hl s
theorem own_Wk.iload (C : own_Wk Z n0 R y bytes maxL ret l Q G) {j : Nat} {v : Int32} (hd : decode bytes pc = .ok (.iload j, 2)) (hl : (Array.mk ls)[j]? = some (.val (.int v))) (hq : pc + 2 = q) (K : G k n H q ls (.int v :: st)) : G k n H pc ls st := by
  subst hq; exact C.of K fun _ _ _ _ _ _ _ hx hby X s => XS.iload X hx rfl (hb hby hd) hl s
theorem own_Wk.lloadN (C : own_Wk Z n0 R y bytes maxL ret l Q G) {j : Fin 4} {v : Int64} (hd : decode bytes pc = .ok (.lload_n j, 1)) (hl : (Array.mk ls)[j.val]? = some (.val (.long v))) (hq : pc + 1 = q) (K : G k n H q ls (.long v :: st)) : G k n H pc ls st := by
  subst hq; exact C.of K fun _ _ _ _ _ _ _ hx hby X s => XS.lloadN X hx rfl (hb hby hd) hl s
theorem own_Wk.lload (C : own_Wk Z n0 R y bytes maxL ret l Q G) {j : Nat} {v : Int64} (hd : decode bytes pc = .ok (.lload j, 2)) (hl : (Array.mk ls)[j]? = some (.val (.long v))) (hq : pc + 2 = q) (K : G k n H q ls (.long v :: st)) : G k n H pc ls st := by
  subst hq; exact C.of K fun _ _ _ _ _ _ _ hx hby X s => XS.lload X hx rfl (hb hby hd) hl s
theorem own_Wk.aloadN (C : own_Wk Z n0 R y bytes maxL ret l Q G) {j : Fin 4} {v : Value} (hd : decode bytes pc = .ok (.aload_n j, 1)) (hl : (Array.mk ls)[j.val]? = some (.val v)) (hv : v.isRef = true) (hq : pc + 1 = q) (K : G k n H q ls (v :: st)) : G k n H pc ls st := by
  subst hq; exact C.of K fun _ _ _ _ _ _ _ hx hby X s => XS.aloadN X hx rfl (hb hby hd) hl hv s
theorem own_Wk.aload (C : own_Wk Z n0 R y bytes maxL ret l Q G) {j : Nat} {v : Value} (hd : decode bytes pc = .ok (.aload j, 2)) (hl : (Array.mk ls)[j]? = some (.val v)) (hv : v.isRef = true) (hq : pc + 2 = q) (K : G k n H q ls (v :: st)) : G k n H pc ls st := by
  subst hq; exact C.of K fun _ _ _ _ _ _ _ hx hby X s => XS.aload X hx rfl (hb hby hd) hl hv s
theorem own_Wk.istoreN (C : own_Wk Z n0 R y bytes maxL ret l Q G) {j : Fin 4} {v : Int32} (hd : decode bytes pc = .ok (.istore_n j, 1)) (hl : storeLocals (Array.mk ls) j.val (.int v) = some (Array.mk ls')) (hq : pc + 1 = q) (K : G k n H q ls' st) : G k n H pc ls (.int v :: st) := by
  subst hq; exact C.of K fun _ _ _ _ _ _ _ hx hby X s => XS.istoreN X hx rfl (hb hby hd) rfl hl s
theorem own_Wk.istore (C : own_Wk Z n0 R y bytes maxL ret l Q G) {j : Nat} {v : Int32} (hd : decode bytes pc = .ok (.istore j, 2)) (hl : storeLocals (Array.mk ls) j (.int v) = some (Array.mk ls')) (hq : pc + 2 = q) (K : G k n H q ls' st) : G k n H pc ls (.int v :: st) := by
  subst hq; exact C.of K fun _ _ _ _ _ _ _ hx hby X s => XS.istore X hx rfl (hb hby hd) rfl hl s
theorem own_Wk.lstoreN (C : own_Wk Z n0 R y bytes maxL ret l Q G) {j : Fin 4} {v : Int64} (hd : decode bytes pc = .ok (.lstore_n j, 1)) (hl : storeLocals (Array.mk ls) j.val (.long v) = some (Array.mk ls')) (hq : pc + 1 = q) (K : G k n H q ls' st) : G k n H pc ls (.long v :: st) := by
  subst hq; exact C.of K fun _ _ _ _ _ _ _ hx hby X s => XS.lstoreN X hx rfl (hb hby hd) rfl hl s
theorem own_Wk.lstore (C : own_Wk Z n0 R y bytes maxL ret l Q G) {j : Nat} {v : Int64} (hd : decode bytes pc = .ok (.lstore j, 2)) (hl : storeLocals (Array.mk ls) j (.long v) = some (Array.mk ls')) (hq : pc + 2 = q) (K : G k n H q ls' st) : G k n H pc ls (.long v :: st) := by
  subst hq; exact C.of K fun _ _ _ _ _ _ _ hx hby X s => XS.lstore X hx rfl (hb hby hd) rfl hl s
theorem own_Wk.astoreN (C : own_Wk Z n0 R y bytes maxL ret l Q G) {j : Fin 4} {v : Value} (hd : decode bytes pc = .ok (.astore_n j, 1)) (hv : v.isRef = true) (hl : storeLocals (Array.mk ls) j.val v = some (Array.mk ls')) (hq : pc + 1 = q) (K : G k n H q ls' st) : G k n H pc ls (v :: st) := by
  subst hq; exact C.of K fun _ _ _ _ _ _ _ hx hby X s => XS.astoreN X hx rfl (hb hby hd) rfl hv hl s
theorem own_Wk.astore (C : own_Wk Z n0 R y bytes maxL ret l Q G) {j : Nat} {v : Value} (hd : decode bytes pc = .ok (.astore j, 2)) (hv : v.isRef = true) (hl : storeLocals (Array.mk ls) j v = some (Array.mk ls')) (hq : pc + 2 = q) (K : G k n H q ls' st) : G k n H pc ls (v :: st) := by
  subst hq; exact C.of K fun _ _ _ _ _ _ _ hx hby X s => XS.astore X hx rfl (hb hby hd) rfl hv hl s
theorem own_Wk.iconst (C : own_Wk Z n0 R y bytes maxL ret l Q G) {i : Int} {z : Int32} (hd : decode bytes pc = .ok (.iconst i, 1)) (hz : Int32.ofInt i = z) (hq : pc + 1 = q) (K : G k n H q ls (.int z :: st)) : G k n H pc ls st := by
  subst hq hz; exact C.of K fun _ _ _ _ _ _ _ hx hby X s => XS.iconst X hx rfl (hb hby hd) s
theorem own_Wk.bipush (C : own_Wk Z n0 R y bytes maxL ret l Q G) {i : Int} {z : Int32} (hd : decode bytes pc = .ok (.bipush i, 2)) (hz : (Int8.ofInt i).toInt32 = z) (hq : pc + 2 = q) (K : G k n H q ls (.int z :: st)) : G k n H pc ls st := by
  subst hq hz; exact C.of K fun _ _ _ _ _ _ _ hx hby X s => XS.bipush X hx rfl (hb hby hd) s
theorem own_Wk.sipush (C : own_Wk Z n0 R y bytes maxL ret l Q G) {i : Int} {z : Int32} (hd : decode bytes pc = .ok (.sipush i, 3)) (hz : (Int16.ofInt i).toInt32 = z) (hq : pc + 3 = q) (K : G k n H q ls (.int z :: st)) : G k n H pc ls st := by
  subst hq hz; exact C.of K fun _ _ _ _ _ _ _ hx hby X s => XS.sipush X hx rfl (hb hby hd) s
theorem own_Wk.lconst (C : own_Wk Z n0 R y bytes maxL ret l Q G) {i : Fin 2} {z : Int64} (hd : decode bytes pc = .ok (.lconst i, 1)) (hz : Int64.ofNat i = z) (hq : pc + 1 = q) (K : G k n H q ls (.long z :: st)) : G k n H pc ls st := by
  subst hq hz; exact C.of K fun _ _ _ _ _ _ _ hx hby X s => XS.lconst X hx rfl (hb hby hd) s
theorem own_Wk.aconstNull (C : own_Wk Z n0 R y bytes maxL ret l Q G) (hd : decode bytes pc = .ok (.aconst_null, 1)) (hq : pc + 1 = q) (K : G k n H q ls (.null :: st)) : G k n H pc ls st := by
  subst hq; exact C.of K fun _ _ _ _ _ _ _ hx hby X s => XS.aconstNull X hx rfl (hb hby hd) s
theorem own_Wk.iadd (C : own_Wk Z n0 R y bytes maxL ret l Q G) {a b : Int32} (hd : decode bytes pc = .ok (.iadd, 1)) (hq : pc + 1 = q) (K : G k n H q ls (.int (a + b) :: st)) : G k n H pc ls (.int b :: .int a :: st) := by
  subst hq; exact C.of K fun _ _ _ _ _ _ _ hx hby X s => XS.iadd X hx rfl (hb hby hd) rfl s
theorem own_Wk.isub (C : own_Wk Z n0 R y bytes maxL ret l Q G) {a b : Int32} (hd : decode bytes pc = .ok (.isub, 1)) (hq : pc + 1 = q) (K : G k n H q ls (.int (a - b) :: st)) : G k n H pc ls (.int b :: .int a :: st) := by
  subst hq; exact C.of K fun _ _ _ _ _ _ _ hx hby X s => XS.isub X hx rfl (hb hby hd) rfl s
theorem own_Wk.imul (C : own_Wk Z n0 R y bytes maxL ret l Q G) {a b : Int32} (hd : decode bytes pc = .ok (.imul, 1)) (hq : pc + 1 = q) (K : G k n H q ls (.int (a * b) :: st)) : G k n H pc ls (.int b :: .int a :: st) := by
  subst hq; exact C.of K fun _ _ _ _ _ _ _ hx hby X s => XS.imul X hx rfl (hb hby hd) rfl s
theorem own_Wk.iand (C : own_Wk Z n0 R y bytes maxL ret l Q G) {a b : Int32} (hd : decode bytes pc = .ok (.iand, 1)) (hq : pc + 1 = q) (K : G k n H q ls (.int (a &&& b) :: st)) : G k n H pc ls (.int b :: .int a :: st) := by
  subst hq; exact C.of K fun _ _ _ _ _ _ _ hx hby X s => XS.iand X hx rfl (hb hby hd) rfl s
theorem own_Wk.ior (C : own_Wk Z n0 R y bytes maxL ret l Q G) {a b : Int32} (hd : decode bytes pc = .ok (.ior, 1)) (hq : pc + 1 = q) (K : G k n H q ls (.int (a ||| b) :: st)) : G k n H pc ls (.int b :: .int a :: st) := by
  subst hq; exact C.of K fun _ _ _ _ _ _ _ hx hby X s => XS.ior X hx rfl (hb hby hd) rfl s
theorem own_Wk.ixor (C : own_Wk Z n0 R y bytes maxL ret l Q G) {a b : Int32} (hd : decode bytes pc = .ok (.ixor, 1)) (hq : pc + 1 = q) (K : G k n H q ls (.int (a ^^^ b) :: st)) : G k n H pc ls (.int b :: .int a :: st) := by
  subst hq; exact C.of K fun _ _ _ _ _ _ _ hx hby X s => XS.ixor X hx rfl (hb hby hd) rfl s
theorem own_Wk.ishl (C : own_Wk Z n0 R y bytes maxL ret l Q G) {a b : Int32} (hd : decode bytes pc = .ok (.ishl, 1)) (hq : pc + 1 = q) (K : G k n H q ls (.int (a <<< (b &&& 31)) :: st)) : G k n H pc ls (.int b :: .int a :: st) := by
  subst hq; exact C.of K fun _ _ _ _ _ _ _ hx hby X s => XS.ishl X hx rfl (hb hby hd) rfl s
theorem own_Wk.ishr (C : own_Wk Z n0 R y bytes maxL ret l Q G) {a b : Int32} (hd : decode bytes pc = .ok (.ishr, 1)) (hq : pc + 1 = q) (K : G k n H q ls (.int (a >>> (b &&& 31)) :: st)) : G k n H pc ls (.int b :: .int a :: st) := by
  subst hq; exact C.of K fun _ _ _ _ _ _ _ hx hby X s => XS.ishr X hx rfl (hb hby hd) rfl s
theorem own_Wk.iushr (C : own_Wk Z n0 R y bytes maxL ret l Q G) {a b : Int32} (hd : decode bytes pc = .ok (.iushr, 1)) (hq : pc + 1 = q) (K : G k n H q ls (.int ((a.toUInt32 >>> (b &&& 31).toUInt32).toInt32) :: st)) : G k n H pc ls (.int b :: .int a :: st) := by
  subst hq; exact C.of K fun _ _ _ _ _ _ _ hx hby X s => XS.iushr X hx rfl (hb hby hd) rfl s
theorem own_Wk.ladd (C : own_Wk Z n0 R y bytes maxL ret l Q G) {a b : Int64} (hd : decode bytes pc = .ok (.ladd, 1)) (hq : pc + 1 = q) (K : G k n H q ls (.long (a + b) :: st)) : G k n H pc ls (.long b :: .long a :: st) := by
  subst hq; exact C.of K fun _ _ _ _ _ _ _ hx hby X s => XS.ladd X hx rfl (hb hby hd) rfl s
theorem own_Wk.lsub (C : own_Wk Z n0 R y bytes maxL ret l Q G) {a b : Int64} (hd : decode bytes pc = .ok (.lsub, 1)) (hq : pc + 1 = q) (K : G k n H q ls (.long (a - b) :: st)) : G k n H pc ls (.long b :: .long a :: st) := by
  subst hq; exact C.of K fun _ _ _ _ _ _ _ hx hby X s => XS.lsub X hx rfl (hb hby hd) rfl s
theorem own_Wk.lmul (C : own_Wk Z n0 R y bytes maxL ret l Q G) {a b : Int64} (hd : decode bytes pc = .ok (.lmul, 1)) (hq : pc + 1 = q) (K : G k n H q ls (.long (a * b) :: st)) : G k n H pc ls (.long b :: .long a :: st) := by
  subst hq; exact C.of K fun _ _ _ _ _ _ _ hx hby X s => XS.lmul X hx rfl (hb hby hd) rfl s
theorem own_Wk.land (C : own_Wk Z n0 R y bytes maxL ret l Q G) {a b : Int64} (hd : decode bytes pc = .ok (.land, 1)) (hq : pc + 1 = q) (K : G k n H q ls (.long (a &&& b) :: st)) : G k n H pc ls (.long b :: .long a :: st) := by
  subst hq; exact C.of K fun _ _ _ _ _ _ _ hx hby X s => XS.land X hx rfl (hb hby hd) rfl s
theorem own_Wk.lor (C : own_Wk Z n0 R y bytes maxL ret l Q G) {a b : Int64} (hd : decode bytes pc = .ok (.lor, 1)) (hq : pc + 1 = q) (K : G k n H q ls (.long (a ||| b) :: st)) : G k n H pc ls (.long b :: .long a :: st) := by
  subst hq; exact C.of K fun _ _ _ _ _ _ _ hx hby X s => XS.lor X hx rfl (hb hby hd) rfl s
theorem own_Wk.lxor (C : own_Wk Z n0 R y bytes maxL ret l Q G) {a b : Int64} (hd : decode bytes pc = .ok (.lxor, 1)) (hq : pc + 1 = q) (K : G k n H q ls (.long (a ^^^ b) :: st)) : G k n H pc ls (.long b :: .long a :: st) := by
  subst hq; exact C.of K fun _ _ _ _ _ _ _ hx hby X s => XS.lxor X hx rfl (hb hby hd) rfl s
theorem own_Wk.lshl (C : own_Wk Z n0 R y bytes maxL ret l Q G) {a : Int64} {b : Int32} (hd : decode bytes pc = .ok (.lshl, 1)) (hq : pc + 1 = q) (K : G k n H q ls (.long (a <<< (b &&& 0x3f).toInt64) :: st)) : G k n H pc ls (.int b :: .long a :: st) := by
  subst hq; exact C.of K fun _ _ _ _ _ _ _ hx hby X s => XS.lshl X hx rfl (hb hby hd) rfl s
theorem own_Wk.lshr (C : own_Wk Z n0 R y bytes maxL ret l Q G) {a : Int64} {b : Int32} (hd : decode bytes pc = .ok (.lshr, 1)) (hq : pc + 1 = q) (K : G k n H q ls (.long (a >>> (b &&& 0x3f).toInt64) :: st)) : G k n H pc ls (.int b :: .long a :: st) := by
  subst hq; exact C.of K fun _ _ _ _ _ _ _ hx hby X s => XS.lshr X hx rfl (hb hby hd) rfl s
theorem own_Wk.lushr (C : own_Wk Z n0 R y bytes maxL ret l Q G) {a : Int64} {b : Int32} (hd : decode bytes pc = .ok (.lushr, 1)) (hq : pc + 1 = q) (K : G k n H q ls (.long ((a.toUInt64 >>> (b &&& 0x3f).toInt64.toUInt64).toInt64) :: st)) : G k n H pc ls (.int b :: .long a :: st) := by
  subst hq; exact C.of K fun _ _ _ _ _ _ _ hx hby X s => XS.lushr X hx rfl (hb hby hd) rfl s
theorem own_Wk.idiv (C : own_Wk Z n0 R y bytes maxL ret l Q G) {a b : Int32} (hd : decode bytes pc = .ok (.idiv, 1)) (hy : b ≠ 0) (hq : pc + 1 = q) (K : G k n H q ls (.int (a / b) :: st)) : G k n H pc ls (.int b :: .int a :: st) := by
  subst hq; exact C.of K fun _ _ _ _ _ _ _ hx hby X s => XS.idiv X hx rfl (hb hby hd) rfl hy s
theorem own_Wk.irem (C : own_Wk Z n0 R y bytes maxL ret l Q G) {a b : Int32} (hd : decode bytes pc = .ok (.irem, 1)) (hy : b ≠ 0) (hq : pc + 1 = q) (K : G k n H q ls (.int (a % b) :: st)) : G k n H pc ls (.int b :: .int a :: st) := by
  subst hq; exact C.of K fun _ _ _ _ _ _ _ hx hby X s => XS.irem X hx rfl (hb hby hd) rfl hy (by rw [show a - a / b * b = a % b from irem_eq_mod a b]; exact s)
theorem own_Wk.ldiv (C : own_Wk Z n0 R y bytes maxL ret l Q G) {a b : Int64} (hd : decode bytes pc = .ok (.ldiv, 1)) (hy : b ≠ 0) (hq : pc + 1 = q) (K : G k n H q ls (.long (a / b) :: st)) : G k n H pc ls (.long b :: .long a :: st) := by
  subst hq; exact C.of K fun _ _ _ _ _ _ _ hx hby X s => XS.ldiv X hx rfl (hb hby hd) rfl hy s
theorem own_Wk.lrem (C : own_Wk Z n0 R y bytes maxL ret l Q G) {a b : Int64} (hd : decode bytes pc = .ok (.lrem, 1)) (hy : b ≠ 0) (hq : pc + 1 = q) (K : G k n H q ls (.long (a % b) :: st)) : G k n H pc ls (.long b :: .long a :: st) := by
  subst hq; exact C.of K fun _ _ _ _ _ _ _ hx hby X s => XS.lrem X hx rfl (hb hby hd) rfl hy (by rw [show a - a / b * b = a % b from lrem_mod a b]; exact s)
theorem own_Wk.ineg (C : own_Wk Z n0 R y bytes maxL ret l Q G) {a : Int32} (hd : decode bytes pc = .ok (.ineg, 1)) (hq : pc + 1 = q) (K : G k n H q ls (.int (-a) :: st)) : G k n H pc ls (.int a :: st) := by
  subst hq; exact C.of K fun _ _ _ _ _ _ _ hx hby X s => XS.ineg X hx rfl (hb hby hd) rfl s
theorem own_Wk.lneg (C : own_Wk Z n0 R y bytes maxL ret l Q G) {a : Int64} (hd : decode bytes pc = .ok (.lneg, 1)) (hq : pc + 1 = q) (K : G k n H q ls (.long (-a) :: st)) : G k n H pc ls (.long a :: st) := by
  subst hq; exact C.of K fun _ _ _ _ _ _ _ hx hby X s => XS.lneg X hx rfl (hb hby hd) rfl s
theorem own_Wk.i2l (C : own_Wk Z n0 R y bytes maxL ret l Q G) {a : Int32} (hd : decode bytes pc = .ok (.i2l, 1)) (hq : pc + 1 = q) (K : G k n H q ls (.long (a.toInt64) :: st)) : G k n H pc ls (.int a :: st) := by
  subst hq; exact C.of K fun _ _ _ _ _ _ _ hx hby X s => XS.i2l X hx rfl (hb hby hd) rfl s
theorem own_Wk.l2i (C : own_Wk Z n0 R y bytes maxL ret l Q G) {a : Int64} (hd : decode bytes pc = .ok (.l2i, 1)) (hq : pc + 1 = q) (K : G k n H q ls (.int (a.toInt32) :: st)) : G k n H pc ls (.long a :: st) := by
  subst hq; exact C.of K fun _ _ _ _ _ _ _ hx hby X s => XS.l2i X hx rfl (hb hby hd) rfl s
theorem own_Wk.i2b (C : own_Wk Z n0 R y bytes maxL ret l Q G) {a : Int32} (hd : decode bytes pc = .ok (.i2b, 1)) (hq : pc + 1 = q) (K : G k n H q ls (.int (a.toInt8.toInt32) :: st)) : G k n H pc ls (.int a :: st) := by
  subst hq; exact C.of K fun _ _ _ _ _ _ _ hx hby X s => XS.i2b X hx rfl (hb hby hd) rfl s
theorem own_Wk.dup (C : own_Wk Z n0 R y bytes maxL ret l Q G) {v : Value} (hd : decode bytes pc = .ok (.dup, 1)) (hc : v.category = 1) (hq : pc + 1 = q) (K : G k n H q ls (v :: v :: st)) : G k n H pc ls (v :: st) := by
  subst hq; exact C.of K fun _ _ _ _ _ _ _ hx hby X s => XS.dup X hx rfl (hb hby hd) rfl hc s
theorem own_Wk.pop (C : own_Wk Z n0 R y bytes maxL ret l Q G) {v : Value} (hd : decode bytes pc = .ok (.pop, 1)) (hc : v.category = 1) (hq : pc + 1 = q) (K : G k n H q ls st) : G k n H pc ls (v :: st) := by
  subst hq; exact C.of K fun _ _ _ _ _ _ _ hx hby X s => XS.pop X hx rfl (hb hby hd) rfl hc s
theorem own_Wk.iinc (C : own_Wk Z n0 R y bytes maxL ret l Q G) {j : Nat} {i : Int} {v z : Int32} (hd : decode bytes pc = .ok (.iinc j i, 3)) (hl : (Array.mk ls)[j]? = some (.val (.int v))) (hz : Int32.ofInt i = z) (hl' : storeLocals (Array.mk ls) j (.int (v + z)) = some (Array.mk ls')) (hq : pc + 3 = q) (K : G k n H q ls' st) : G k n H pc ls st := by
  subst hq hz; exact C.of K fun _ _ _ _ _ _ _ hx hby X s => XS.iinc X hx rfl (hb hby hd) hl hl' s
theorem own_Wk.goto (C : own_Wk Z n0 R y bytes maxL ret l Q G) {o : Int} (hd : decode bytes pc = .ok (.goto o, 3)) (ho : 0 ≤ (pc : Int) + o) (hq : ((pc : Int) + o).toNat = q) (K : G k n H q ls st) : G k n H pc ls st := by
  exact C.of K fun _ _ _ _ _ _ _ hx hby X s => XS.goto X hx rfl rfl (hb hby hd) ho hq s
theorem own_Wk.icmpLt (C : own_Wk Z n0 R y bytes maxL ret l Q G) {a b : Int32} {o : Int} (hd : decode bytes pc = .ok (.if_icmp .lt o, 3)) (ho : 0 ≤ (pc : Int) + o) (hq : ((pc : Int) + o).toNat = q) (hq' : pc + 3 = q') (T : a < b → G k n H q ls st) (F : ¬ a < b → G k n H q' ls st) : G k n H pc ls (.int b :: .int a :: st) := by
  subst hq hq'
  by_cases h : a < b
  · exact C.of (T h) fun _ _ _ _ _ _ _ hx hby X s => XS.icmpYes X hx rfl rfl (hb hby hd) rfl (tlt h).1 ho rfl s
  · exact C.of (F h) fun _ _ _ _ _ _ _ hx hby X s => XS.icmpNo X hx rfl (hb hby hd) rfl (flt h).1 s
theorem own_Wk.ifLt (C : own_Wk Z n0 R y bytes maxL ret l Q G) {a : Int32} {o : Int} (hd : decode bytes pc = .ok (.ifCond .lt o, 3)) (ho : 0 ≤ (pc : Int) + o) (hq : ((pc : Int) + o).toNat = q) (hq' : pc + 3 = q') (T : a < 0 → G k n H q ls st) (F : ¬ a < 0 → G k n H q' ls st) : G k n H pc ls (.int a :: st) := by
  subst hq hq'
  by_cases h : a < 0
  · exact C.of (T h) fun _ _ _ _ _ _ _ hx hby X s => XS.ifYes X hx rfl rfl (hb hby hd) rfl ((if0 _ _).trans (tlt h).1) ho rfl s
  · exact C.of (F h) fun _ _ _ _ _ _ _ hx hby X s => XS.ifNo X hx rfl (hb hby hd) rfl ((if0 _ _).trans (flt h).1) s
theorem own_Wk.icmpGe (C : own_Wk Z n0 R y bytes maxL ret l Q G) {a b : Int32} {o : Int} (hd : decode bytes pc = .ok (.if_icmp .ge o, 3)) (ho : 0 ≤ (pc : Int) + o) (hq : ((pc : Int) + o).toNat = q) (hq' : pc + 3 = q') (T : a < b → G k n H q' ls st) (F : ¬ a < b → G k n H q ls st) : G k n H pc ls (.int b :: .int a :: st) := by
  subst hq hq'
  by_cases h : a < b
  · exact C.of (T h) fun _ _ _ _ _ _ _ hx hby X s => XS.icmpNo X hx rfl (hb hby hd) rfl (tlt h).2.1 s
  · exact C.of (F h) fun _ _ _ _ _ _ _ hx hby X s => XS.icmpYes X hx rfl rfl (hb hby hd) rfl (flt h).2.1 ho rfl s
theorem own_Wk.ifGe (C : own_Wk Z n0 R y bytes maxL ret l Q G) {a : Int32} {o : Int} (hd : decode bytes pc = .ok (.ifCond .ge o, 3)) (ho : 0 ≤ (pc : Int) + o) (hq : ((pc : Int) + o).toNat = q) (hq' : pc + 3 = q') (T : a < 0 → G k n H q' ls st) (F : ¬ a < 0 → G k n H q ls st) : G k n H pc ls (.int a :: st) := by
  subst hq hq'
  by_cases h : a < 0
  · exact C.of (T h) fun _ _ _ _ _ _ _ hx hby X s => XS.ifNo X hx rfl (hb hby hd) rfl ((if0 _ _).trans (tlt h).2.1) s
  · exact C.of (F h) fun _ _ _ _ _ _ _ hx hby X s => XS.ifYes X hx rfl rfl (hb hby hd) rfl ((if0 _ _).trans (flt h).2.1) ho rfl s
theorem own_Wk.icmpGt (C : own_Wk Z n0 R y bytes maxL ret l Q G) {a b : Int32} {o : Int} (hd : decode bytes pc = .ok (.if_icmp .gt o, 3)) (ho : 0 ≤ (pc : Int) + o) (hq : ((pc : Int) + o).toNat = q) (hq' : pc + 3 = q') (T : b < a → G k n H q ls st) (F : ¬ b < a → G k n H q' ls st) : G k n H pc ls (.int b :: .int a :: st) := by
  subst hq hq'
  by_cases h : b < a
  · exact C.of (T h) fun _ _ _ _ _ _ _ hx hby X s => XS.icmpYes X hx rfl rfl (hb hby hd) rfl (tlt h).2.2.1 ho rfl s
  · exact C.of (F h) fun _ _ _ _ _ _ _ hx hby X s => XS.icmpNo X hx rfl (hb hby hd) rfl (flt h).2.2.1 s
theorem own_Wk.ifGt (C : own_Wk Z n0 R y bytes maxL ret l Q G) {a : Int32} {o : Int} (hd : decode bytes pc = .ok (.ifCond .gt o, 3)) (ho : 0 ≤ (pc : Int) + o) (hq : ((pc : Int) + o).toNat = q) (hq' : pc + 3 = q') (T : 0 < a → G k n H q ls st) (F : ¬ 0 < a → G k n H q' ls st) : G k n H pc ls (.int a :: st) := by
  subst hq hq'
  by_cases h : 0 < a
  · exact C.of (T h) fun _ _ _ _ _ _ _ hx hby X s => XS.ifYes X hx rfl rfl (hb hby hd) rfl ((if0 _ _).trans (tlt h).2.2.1) ho rfl s
  · exact C.of (F h) fun _ _ _ _ _ _ _ hx hby X s => XS.ifNo X hx rfl (hb hby hd) rfl ((if0 _ _).trans (flt h).2.2.1) s
theorem own_Wk.icmpLe (C : own_Wk Z n0 R y bytes maxL ret l Q G) {a b : Int32} {o : Int} (hd : decode bytes pc = .ok (.if_icmp .le o, 3)) (ho : 0 ≤ (pc : Int) + o) (hq : ((pc : Int) + o).toNat = q) (hq' : pc + 3 = q') (T : b < a → G k n H q' ls st) (F : ¬ b < a → G k n H q ls st) : G k n H pc ls (.int b :: .int a :: st) := by
  subst hq hq'
  by_cases h : b < a
  · exact C.of (T h) fun _ _ _ _ _ _ _ hx hby X s => XS.icmpNo X hx rfl (hb hby hd) rfl (tlt h).2.2.2 s
  · exact C.of (F h) fun _ _ _ _ _ _ _ hx hby X s => XS.icmpYes X hx rfl rfl (hb hby hd) rfl (flt h).2.2.2 ho rfl s
theorem own_Wk.ifLe (C : own_Wk Z n0 R y bytes maxL ret l Q G) {a : Int32} {o : Int} (hd : decode bytes pc = .ok (.ifCond .le o, 3)) (ho : 0 ≤ (pc : Int) + o) (hq : ((pc : Int) + o).toNat = q) (hq' : pc + 3 = q') (T : 0 < a → G k n H q' ls st) (F : ¬ 0 < a → G k n H q ls st) : G k n H pc ls (.int a :: st) := by
  subst hq hq'
  by_cases h : 0 < a
  · exact C.of (T h) fun _ _ _ _ _ _ _ hx hby X s => XS.ifNo X hx rfl (hb hby hd) rfl ((if0 _ _).trans (tlt h).2.2.2) s
  · exact C.of (F h) fun _ _ _ _ _ _ _ hx hby X s => XS.ifYes X hx rfl rfl (hb hby hd) rfl ((if0 _ _).trans (flt h).2.2.2) ho rfl s
theorem own_Wk.icmpEq (C : own_Wk Z n0 R y bytes maxL ret l Q G) {a b : Int32} {o : Int} (hd : decode bytes pc = .ok (.if_icmp .eq o, 3)) (ho : 0 ≤ (pc : Int) + o) (hq : ((pc : Int) + o).toNat = q) (hq' : pc + 3 = q') (T : a = b → G k n H q ls st) (F : ¬ a = b → G k n H q' ls st) : G k n H pc ls (.int b :: .int a :: st) := by
  subst hq hq'
  by_cases h : a = b
  · exact C.of (T h) fun _ _ _ _ _ _ _ hx hby X s => XS.icmpYes X hx rfl rfl (hb hby hd) rfl (teq h).1 ho rfl s
  · exact C.of (F h) fun _ _ _ _ _ _ _ hx hby X s => XS.icmpNo X hx rfl (hb hby hd) rfl (feq h).1 s
theorem own_Wk.ifEq (C : own_Wk Z n0 R y bytes maxL ret l Q G) {a : Int32} {o : Int} (hd : decode bytes pc = .ok (.ifCond .eq o, 3)) (ho : 0 ≤ (pc : Int) + o) (hq : ((pc : Int) + o).toNat = q) (hq' : pc + 3 = q') (T : a = 0 → G k n H q ls st) (F : ¬ a = 0 → G k n H q' ls st) : G k n H pc ls (.int a :: st) := by
  subst hq hq'
  by_cases h : a = 0
  · exact C.of (T h) fun _ _ _ _ _ _ _ hx hby X s => XS.ifYes X hx rfl rfl (hb hby hd) rfl ((if0 _ _).trans (teq h).1) ho rfl s
  · exact C.of (F h) fun _ _ _ _ _ _ _ hx hby X s => XS.ifNo X hx rfl (hb hby hd) rfl ((if0 _ _).trans (feq h).1) s
theorem own_Wk.icmpNe (C : own_Wk Z n0 R y bytes maxL ret l Q G) {a b : Int32} {o : Int} (hd : decode bytes pc = .ok (.if_icmp .ne o, 3)) (ho : 0 ≤ (pc : Int) + o) (hq : ((pc : Int) + o).toNat = q) (hq' : pc + 3 = q') (T : a = b → G k n H q' ls st) (F : ¬ a = b → G k n H q ls st) : G k n H pc ls (.int b :: .int a :: st) := by
  subst hq hq'
  by_cases h : a = b
  · exact C.of (T h) fun _ _ _ _ _ _ _ hx hby X s => XS.icmpNo X hx rfl (hb hby hd) rfl (teq h).2 s
  · exact C.of (F h) fun _ _ _ _ _ _ _ hx hby X s => XS.icmpYes X hx rfl rfl (hb hby hd) rfl (feq h).2 ho rfl s
theorem own_Wk.ifNe (C : own_Wk Z n0 R y bytes maxL ret l Q G) {a : Int32} {o : Int} (hd : decode bytes pc = .ok (.ifCond .ne o, 3)) (ho : 0 ≤ (pc : Int) + o) (hq : ((pc : Int) + o).toNat = q) (hq' : pc + 3 = q') (T : a = 0 → G k n H q' ls st) (F : ¬ a = 0 → G k n H q ls st) : G k n H pc ls (.int a :: st) := by
  subst hq hq'
  by_cases h : a = 0
  · exact C.of (T h) fun _ _ _ _ _ _ _ hx hby X s => XS.ifNo X hx rfl (hb hby hd) rfl ((if0 _ _).trans (teq h).2) s
  · exact C.of (F h) fun _ _ _ _ _ _ _ hx hby X s => XS.ifYes X hx rfl rfl (hb hby hd) rfl ((if0 _ _).trans (feq h).2) ho rfl s
theorem own_Wk.lcmp0 (C : own_Wk Z n0 R y bytes maxL ret l Q G) {a b : Int64} (hd : decode bytes pc = .ok (.lcmp, 1)) (hq : pc + 1 = q) (K : G k n H q ls (.int (lcmpW a b) :: st)) : G k n H pc ls (.long b :: .long a :: st) := by
  subst hq; exact C.of K fun _ _ _ _ _ _ _ hx hby X s => XS.lcmp X hx rfl (hb hby hd) rfl s
theorem own_Wk.lcmpLt (C : own_Wk Z n0 R y bytes maxL ret l Q G) {a b : Int64} {o : Int} (hd : decode bytes pc = .ok (.lcmp, 1)) {q1 : Nat} (h1 : pc + 1 = q1) (hd1 : decode bytes q1 = .ok (.ifCond .lt o, 3)) (ho : 0 ≤ (q1 : Int) + o) (hq : ((q1 : Int) + o).toNat = q) (hq' : q1 + 3 = q') (T : a < b → G k n H q ls st) (F : ¬ a < b → G k n H q' ls st) : G k n H pc ls (.long b :: .long a :: st) :=
  C.lcmp0 hd h1 (C.ifLt hd1 ho hq hq' (fun h => T ((lw_lt a b).mp h)) (fun h => F fun h' => h ((lw_lt a b).mpr h')))
theorem own_Wk.lcmpGe (C : own_Wk Z n0 R y bytes maxL ret l Q G) {a b : Int64} {o : Int} (hd : decode bytes pc = .ok (.lcmp, 1)) {q1 : Nat} (h1 : pc + 1 = q1) (hd1 : decode bytes q1 = .ok (.ifCond .ge o, 3)) (ho : 0 ≤ (q1 : Int) + o) (hq : ((q1 : Int) + o).toNat = q) (hq' : q1 + 3 = q') (T : a < b → G k n H q' ls st) (F : ¬ a < b → G k n H q ls st) : G k n H pc ls (.long b :: .long a :: st) :=
  C.lcmp0 hd h1 (C.ifGe hd1 ho hq hq' (fun h => T ((lw_lt a b).mp h)) (fun h => F fun h' => h ((lw_lt a b).mpr h')))
theorem own_Wk.lcmpGt (C : own_Wk Z n0 R y bytes maxL ret l Q G) {a b : Int64} {o : Int} (hd : decode bytes pc = .ok (.lcmp, 1)) {q1 : Nat} (h1 : pc + 1 = q1) (hd1 : decode bytes q1 = .ok (.ifCond .gt o, 3)) (ho : 0 ≤ (q1 : Int) + o) (hq : ((q1 : Int) + o).toNat = q) (hq' : q1 + 3 = q') (T : b < a → G k n H q ls st) (F : ¬ b < a → G k n H q' ls st) : G k n H pc ls (.long b :: .long a :: st) :=
  C.lcmp0 hd h1 (C.ifGt hd1 ho hq hq' (fun h => T ((lw_gt a b).mp h)) (fun h => F fun h' => h ((lw_gt a b).mpr h')))
theorem own_Wk.lcmpLe (C : own_Wk Z n0 R y bytes maxL ret l Q G) {a b : Int64} {o : Int} (hd : decode bytes pc = .ok (.lcmp, 1)) {q1 : Nat} (h1 : pc + 1 = q1) (hd1 : decode bytes q1 = .ok (.ifCond .le o, 3)) (ho : 0 ≤ (q1 : Int) + o) (hq : ((q1 : Int) + o).toNat = q) (hq' : q1 + 3 = q') (T : b < a → G k n H q' ls st) (F : ¬ b < a → G k n H q ls st) : G k n H pc ls (.long b :: .long a :: st) :=
  C.lcmp0 hd h1 (C.ifLe hd1 ho hq hq' (fun h => T ((lw_gt a b).mp h)) (fun h => F fun h' => h ((lw_gt a b).mpr h')))
theorem own_Wk.lcmpEq (C : own_Wk Z n0 R y bytes maxL ret l Q G) {a b : Int64} {o : Int} (hd : decode bytes pc = .ok (.lcmp, 1)) {q1 : Nat} (h1 : pc + 1 = q1) (hd1 : decode bytes q1 = .ok (.ifCond .eq o, 3)) (ho : 0 ≤ (q1 : Int) + o) (hq : ((q1 : Int) + o).toNat = q) (hq' : q1 + 3 = q') (T : a = b → G k n H q ls st) (F : ¬ a = b → G k n H q' ls st) : G k n H pc ls (.long b :: .long a :: st) :=
  C.lcmp0 hd h1 (C.ifEq hd1 ho hq hq' (fun h => T ((lw_eq a b).mp h)) (fun h => F fun h' => h ((lw_eq a b).mpr h')))
theorem own_Wk.lcmpNe (C : own_Wk Z n0 R y bytes maxL ret l Q G) {a b : Int64} {o : Int} (hd : decode bytes pc = .ok (.lcmp, 1)) {q1 : Nat} (h1 : pc + 1 = q1) (hd1 : decode bytes q1 = .ok (.ifCond .ne o, 3)) (ho : 0 ≤ (q1 : Int) + o) (hq : ((q1 : Int) + o).toNat = q) (hq' : q1 + 3 = q') (T : a = b → G k n H q' ls st) (F : ¬ a = b → G k n H q ls st) : G k n H pc ls (.long b :: .long a :: st) :=
  C.lcmp0 hd h1 (C.ifNe hd1 ho hq hq' (fun h => T ((lw_eq a b).mp h)) (fun h => F fun h' => h ((lw_eq a b).mpr h')))
theorem own_Wk.nonnullY (C : own_Wk Z n0 R y bytes maxL ret l Q G) {b : Addr} {o : Int} (hd : decode bytes pc = .ok (.ifnonnull o, 3)) (ho : 0 ≤ (pc : Int) + o) (hq : ((pc : Int) + o).toNat = q) (K : G k n H q ls st) : G k n H pc ls (.ref b :: st) := by
  exact C.of K fun _ _ _ _ _ _ _ hx hby X s => XS.ifnonnullYes X hx rfl rfl (hb hby hd) rfl ho hq s
theorem own_Wk.nonnullN (C : own_Wk Z n0 R y bytes maxL ret l Q G) {o : Int} (hd : decode bytes pc = .ok (.ifnonnull o, 3)) (hq : pc + 3 = q) (K : G k n H q ls st) : G k n H pc ls (.null :: st) := by
  subst hq; exact C.of K fun _ _ _ _ _ _ _ hx hby X s => XS.ifnonnullNo X hx rfl (hb hby hd) rfl s
theorem own_Wk.ldc (C : own_Wk Z n0 R y bytes maxL ret l Q G) {i : Nat} {v : Int32} (hd : decode bytes pc = .ok (.ldc i, 2)) (w : (Jvm.Cond.constant y.cls i v).before a0 Z = true) (hq : pc + 2 = q) (K : G k n H q ls (.int v :: st)) : G k n H pc ls st := by
  subst hq
  obtain ⟨p, e, s, m, args, below, meth, c, rfl, hx, hZ, hby, hml, hown, hnm, hret, hlk⟩ := C
  intro T L X N hH
  obtain ⟨t, o, stp, P⟩ := K T L X N hH
  exact ⟨t, o, X.ldcInt hx hown (mvT hZ w) (g := mkF m pc ⟨ls⟩ st) rfl (hb hby hd) _ stp, P⟩
theorem own_Wk.ldc2 (C : own_Wk Z n0 R y bytes maxL ret l Q G) {i : Nat} {v : Int64} (hd : decode bytes pc = .ok (.ldc2_w i, 3)) (w : (Jvm.Cond.constantLong y.cls i v).before a0 Z = true) (hq : pc + 3 = q) (K : G k n H q ls (.long v :: st)) : G k n H pc ls st := by
  subst hq
  obtain ⟨p, e, s, m, args, below, meth, c, rfl, hx, hZ, hby, hml, hown, hnm, hret, hlk⟩ := C
  intro T L X N hH
  obtain ⟨t, o, stp, P⟩ := K T L X N hH
  exact ⟨t, o, X.ldc2Long hx hown (mvT hZ w) (g := mkF m pc ⟨ls⟩ st) rfl (hb hby hd) _ stp, P⟩
-- returns
theorem own_Wk.retI {z : Int32} (C : own_Wk Z n0 R y bytes maxL (some .int) l Q G) (hd : decode bytes pc = .ok (.ireturn, 1)) (hk : k ≤ R.cells) (hn : n ≤ R.slots) (hQ : Q (some (.int z)) H) : G k n H pc ls (.int z :: st) := by
  obtain ⟨p, e, s, m, args, below, meth, c, rfl, hx, hZ, hby, hml, hown, hnm, hret, hlk⟩ := C
  intro T L X N hH
  obtain ⟨fs, hr, hrun, hended, hW, hsame⟩ := X.leave (v := some (.int z)) (fun h => by rw [hret] at h; cases h) hlk
  exact ⟨_, _, retOut X hx hret rfl (Or.inl ⟨rfl, Or.inl rfl, z, rfl⟩) (hb hby hd) hr, hrun, hended, _, _, rfl, ⟨N, H, hH, hQ⟩, ⟨_, rfl⟩, hW, hsame.mono hk hn⟩
theorem own_Wk.retJ {z : Int64} (C : own_Wk Z n0 R y bytes maxL (some .long) l Q G) (hd : decode bytes pc = .ok (.lreturn, 1)) (hk : k ≤ R.cells) (hn : n ≤ R.slots) (hQ : Q (some (.long z)) H) : G k n H pc ls (.long z :: st) := by
  obtain ⟨p, e, s, m, args, below, meth, c, rfl, hx, hZ, hby, hml, hown, hnm, hret, hlk⟩ := C
  intro T L X N hH
  obtain ⟨fs, hr, hrun, hended, hW, hsame⟩ := X.leave (v := some (.long z)) (fun h => by rw [hret] at h; cases h) hlk
  exact ⟨_, _, retOut X hx hret rfl (Or.inr (Or.inl ⟨rfl, rfl, z, rfl⟩)) (hb hby hd) hr, hrun, hended, _, _, rfl, ⟨N, H, hH, hQ⟩, ⟨_, rfl⟩, hW, hsame.mono hk hn⟩
theorem own_Wk.retA {t : FieldType} {v : Value} (C : own_Wk Z n0 R y bytes maxL (some t) l Q G) (ht : t.isReference = true) (hn' : narrow t v = v) (hv : v.isRef = true) (hd : decode bytes pc = .ok (.areturn, 1)) (hk : k ≤ R.cells) (hn : n ≤ R.slots) (hQ : Q (some v) H) : G k n H pc ls (v :: st) := by
  obtain ⟨p, e, s, m, args, below, meth, c, rfl, hx, hZ, hby, hml, hown, hnm, hret, hlk⟩ := C
  intro T L X N hH
  obtain ⟨fs, hr, hrun, hended, hW, hsame⟩ := X.leave (v := some v) (fun h => by rw [hret] at h; cases h) hlk
  exact ⟨_, _, retOut X hx hret hn' (Or.inr (Or.inr (Or.inr (Or.inr ⟨rfl, ht, hv⟩)))) (hb hby hd) hr, hrun, hended, _, _, rfl, ⟨N, H, hH, hQ⟩, ⟨_, rfl⟩, hW, hsame.mono hk hn⟩
theorem own_Wk.retB {t : FieldType} {z : Int32} (C : own_Wk Z n0 R y bytes maxL (some t) l Q G) (ht : t = .boolean ∨ t = .byte ∨ t = .char ∨ t = .short) (hd : decode bytes pc = .ok (.ireturn, 1)) (hk : k ≤ R.cells) (hn : n ≤ R.slots) (hQ : Q (some (.int (nar t z))) H) : G k n H pc ls (.int z :: st) := by
  obtain ⟨p, e, s, m, args, below, meth, c, rfl, hx, hZ, hby, hml, hown, hnm, hret, hlk⟩ := C
  intro T L X N hH
  obtain ⟨fs, hr, hrun, hended, hW, hsame⟩ := X.leave (v := some (.int (nar t z))) (fun h => by rw [hret] at h; cases h) hlk
  exact ⟨_, _, retN X hx hret ht (hb hby hd) hr, hrun, hended, _, _, rfl, ⟨N, H, hH, hQ⟩, ⟨_, rfl⟩, hW, hsame.mono hk hn⟩
theorem own_Wk.retV (C : own_Wk Z n0 R y bytes maxL none l Q G) (hd : decode bytes pc = .ok (.return_, 1)) (hk : k ≤ R.cells) (hn : n ≤ R.slots) (hQ : Q none H) : G k n H pc ls [] := by
  obtain ⟨p, e, s, m, args, below, meth, c, rfl, hx, hZ, hby, hml, hown, hnm, hret, hlk⟩ := C
  intro T L X N hH
  obtain ⟨fs, hr, hrun, hended, hW, hsame⟩ := X.leave (v := none) (fun _ => rfl) hlk
  exact ⟨_, _, X.returnOut hx hret (hb hby hd) hr, hrun, hended, _, _, rfl, ⟨N, H, hH, hQ⟩, ⟨_, rfl⟩, hW, hsame.mono hk hn⟩
-- the abstract heap
theorem own_is_ext {h h' : Heap} {a : Addr} {o : own_Ob} (E : Ext h h') (F : own_is Z h a o) : own_is Z h' a o := by
  match o, F with
  | .inl q, F => obtain ⟨c, A, r⟩ := F; exact ⟨c, A.ext E, r⟩
  | .inr q, F => exact ⟨F.1.ext E, F.2.1, fun i f hf => (F.2.2 i f hf).ext E⟩
theorem own_is_ne {h h' : Heap} {a b : Addr} {sl : Nat} {v : Value} {o : own_Ob} (W : Wr h h' a sl v) (hne : b ≠ a) (F : own_is Z h b o) : own_is Z h' b o := by
  match o, F with
  | .inl q, F => obtain ⟨c, A, r⟩ := F; exact ⟨c, A.other W hne, r⟩
  | .inr q, F => exact ⟨F.1.wr W, F.2.1, fun i f hf => (F.2.2 i f hf).other W (Or.inl hne)⟩
theorem own_Hp_new {h h' : Heap} {o : own_Ob} (P : own_Hp Z n0 h H) (E : Ext h h') (hlt : h.size < h'.size) (F : own_is Z h' h.size o) : own_Hp Z n0 h' (H ++ [(h.size, o)]) := by
  obtain ⟨p1, p2, p3⟩ := P
  have key : ∀ (i : Nat) (a : Addr) (o' : own_Ob), (H ++ [(h.size, o)])[i]? = some (a, o') → (H[i]? = some (a, o') ∧ i < H.length) ∨ (i = H.length ∧ a = h.size ∧ o' = o) := by
    intro i a o' hi
    by_cases q : i < H.length
    · rw [List.getElem?_append_left q] at hi; exact Or.inl ⟨hi, q⟩
    · rw [List.getElem?_append_right (by omega)] at hi
      obtain ⟨j, hj⟩ : ∃ j, j = i - H.length := ⟨_, rfl⟩
      rw [← hj] at hi
      match j, hj, hi with
      | 0, hj, hi => exact Or.inr ⟨by omega, by simpa using (Prod.mk.inj (Option.some.inj hi)).1.symm, by simpa using (Prod.mk.inj (Option.some.inj hi)).2.symm⟩
      | j + 1, _, hi => simp at hi
  refine ⟨Nat.le_trans p1 E.1, fun i j a o1 o2 hi hj => ?_, fun i a o' hi => ?_⟩
  · rcases key i a o1 hi with ⟨h1, l1⟩ | ⟨h1, h2, -⟩ <;> rcases key j a o2 hj with ⟨g1, l2⟩ | ⟨g1, g2, -⟩
    · exact p2 i j a o1 o2 h1 g1
    · exact absurd (p3 i a o1 h1).2.1 (by rw [g2]; exact Nat.lt_irrefl _)
    · exact absurd (p3 j a o2 g1).2.1 (by rw [h2]; exact Nat.lt_irrefl _)
    · rw [h1, g1]
  · rcases key i a o' hi with ⟨h1, -⟩ | ⟨-, rfl, rfl⟩
    · obtain ⟨r1, r2, r3⟩ := p3 i a o' h1
      exact ⟨r1, Nat.lt_of_lt_of_le r2 E.1, own_is_ext E r3⟩
    · exact ⟨p1, hlt, F⟩
theorem own_Hp_set {h h' : Heap} {i : Nat} {a : Addr} {o o' : own_Ob} {sl : Nat} {v : Value} (P : own_Hp Z n0 h H) (hi : H[i]? = some (a, o)) (W : Wr h h' a sl v) (F : own_is Z h' a o') : own_Hp Z n0 h' (H.set i (a, o')) := by
  obtain ⟨p1, p2, p3⟩ := P
  have key : ∀ (j : Nat) (b : Addr) (ob : own_Ob), (H.set i (a, o'))[j]? = some (b, ob) → (j = i ∧ b = a ∧ ob = o') ∨ (j ≠ i ∧ H[j]? = some (b, ob)) := by
    intro j b ob hj
    rw [List.getElem?_set] at hj
    by_cases q : i = j
    · subst q
      rw [if_pos rfl] at hj
      split at hj
      · exact Or.inl ⟨rfl, (Prod.mk.inj (Option.some.inj hj)).1.symm, (Prod.mk.inj (Option.some.inj hj)).2.symm⟩
      · cases hj
    · rw [if_neg q] at hj; exact Or.inr ⟨fun z => q z.symm, hj⟩
  refine ⟨by rw [W.size]; exact p1, fun j j' b o1 o2 hj hj' => ?_, fun j b ob hj => ?_⟩
  · rcases key j b o1 hj with ⟨h1, h2, -⟩ | ⟨h1, h2⟩ <;> rcases key j' b o2 hj' with ⟨g1, g2, -⟩ | ⟨g1, g2⟩
    · rw [h1, g1]
    · subst h2; rw [h1]; exact p2 i j' _ o o2 hi g2
    · subst g2; rw [g1]; exact (p2 i j _ o o1 hi h2).symm
    · exact p2 j j' b o1 o2 h2 g2
  · rw [W.size]
    rcases key j b ob hj with ⟨-, rfl, rfl⟩ | ⟨h1, h2⟩
    · obtain ⟨r1, r2, -⟩ := p3 i _ _ hi; exact ⟨r1, r2, F⟩
    · obtain ⟨r1, r2, r3⟩ := p3 j b ob h2
      exact ⟨r1, r2, own_is_ne W (fun z => h1 (by subst z; exact (p2 i j _ o ob hi h2).symm)) r3⟩
-- arrays
theorem own_Wk.alen (C : own_Wk Z n0 R y bytes maxL ret l Q G) (i : Nat) {a : Addr} {ty : FieldType} {vs : List Value} {z : Int32} (hd : decode bytes pc = .ok (.arraylength, 1)) (hi : H[i]? = some (a, .inl (ty, vs))) (hz : vs.length.toInt32 = z) (hq : pc + 1 = q) (K : G k n H q ls (.int z :: st)) : G k n H pc ls (.ref a :: st) := by
  subst hq hz
  obtain ⟨p, e, s, m, args, below, meth, c, rfl, hx, hZ, hby, hml, hown, hnm, hret, hlk⟩ := C
  intro T L X N hH
  obtain ⟨-, -, cl, A, hc⟩ := hH.2.2 i _ _ hi
  obtain ⟨t, o, stp, P⟩ := K T L X N hH
  have hc' : cl.slots.toList = vs := hc
  refine ⟨t, o, X.arraylength hx (cell := cl) A.1 (State.isArrayOf_alike hZ.alike A.2.1) (g := mkF m pc ⟨ls⟩ (.ref a :: st)) rfl rfl (hb hby hd) _ ?_, P⟩
  rw [show cl.slots.size = vs.length by rw [← hc', Array.length_toList]]
  exact stp
theorem own_at {cl : Cell} {vs : List Value} {j : Int32} {v : Value} (hc : cl.slots.toList = vs) (h0 : ¬ j < 0) (hv : vs[j.toNatClampNeg]? = some v) : ¬ (j < 0 ∨ cl.slots.size ≤ j.toNatClampNeg) ∧ cl.slots[j.toNatClampNeg]? = some v := by
  rw [← hc, Array.getElem?_toList] at hv
  exact ⟨fun z => z.elim h0 fun z => by have := (Array.getElem?_eq_some_iff.mp hv).1; omega, hv⟩
theorem own_in {cl : Cell} {vs : List Value} {j : Int32} (hc : cl.slots.toList = vs) (h0 : ¬ j < 0) (hj : j.toNatClampNeg < vs.length) : ¬ (j < 0 ∨ cl.slots.size ≤ j.toNatClampNeg) :=
  fun z => z.elim h0 fun z => by rw [← hc, Array.length_toList] at hj; omega
theorem own_Wk.iaload (C : own_Wk Z n0 R y bytes maxL ret l Q G) (i : Nat) {a : Addr} {vs : List Value} {j : Int32} {v : Value} (hd : decode bytes pc = .ok (.iaload, 1)) (hi : H[i]? = some (a, .inl (.int, vs))) (h0 : ¬ j < 0) (hv : vs[j.toNatClampNeg]? = some v) (hq : pc + 1 = q) (K : G k n H q ls (v :: st)) : G k n H pc ls (.int j :: .ref a :: st) := by
  subst hq
  obtain ⟨p, e, s, m, args, below, meth, c, rfl, hx, hZ, hby, hml, hown, hnm, hret, hlk⟩ := C
  intro T L X N hH
  obtain ⟨-, -, cl, A, hc⟩ := hH.2.2 i _ _ hi
  obtain ⟨t, o, stp, P⟩ := K T L X N hH
  have q2 := own_at hc h0 hv
  exact ⟨t, o, X.iaload hx (j := j) (v := v) A.1 (State.isArrayOf_alike hZ.alike A.2.1) A.2.2 q2.1 q2.2 (g := mkF m pc ⟨ls⟩ (.int j :: .ref a :: st)) rfl rfl (hb hby hd) _ stp, P⟩
theorem own_Wk.laload (C : own_Wk Z n0 R y bytes maxL ret l Q G) (i : Nat) {a : Addr} {vs : List Value} {j : Int32} {v : Value} (hd : decode bytes pc = .ok (.laload, 1)) (hi : H[i]? = some (a, .inl (.long, vs))) (h0 : ¬ j < 0) (hv : vs[j.toNatClampNeg]? = some v) (hq : pc + 1 = q) (K : G k n H q ls (v :: st)) : G k n H pc ls (.int j :: .ref a :: st) := by
  subst hq
  obtain ⟨p, e, s, m, args, below, meth, c, rfl, hx, hZ, hby, hml, hown, hnm, hret, hlk⟩ := C
  intro T L X N hH
  obtain ⟨-, -, cl, A, hc⟩ := hH.2.2 i _ _ hi
  obtain ⟨t, o, stp, P⟩ := K T L X N hH
  have q2 := own_at hc h0 hv
  exact ⟨t, o, X.laload hx (j := j) (v := v) A.1 (State.isArrayOf_alike hZ.alike A.2.1) A.2.2 q2.1 q2.2 (g := mkF m pc ⟨ls⟩ (.int j :: .ref a :: st)) rfl rfl (hb hby hd) _ stp, P⟩
theorem own_Wk.baload (C : own_Wk Z n0 R y bytes maxL ret l Q G) (i : Nat) {a : Addr} {vs : List Value} {j : Int32} {v : Value} (hd : decode bytes pc = .ok (.baload, 1)) (hi : H[i]? = some (a, .inl (.byte, vs))) (h0 : ¬ j < 0) (hv : vs[j.toNatClampNeg]? = some v) (hq : pc + 1 = q) (K : G k n H q ls (v :: st)) : G k n H pc ls (.int j :: .ref a :: st) := by
  subst hq
  obtain ⟨p, e, s, m, args, below, meth, c, rfl, hx, hZ, hby, hml, hown, hnm, hret, hlk⟩ := C
  intro T L X N hH
  obtain ⟨-, -, cl, A, hc⟩ := hH.2.2 i _ _ hi
  obtain ⟨t, o, stp, P⟩ := K T L X N hH
  have q2 := own_at hc h0 hv
  exact ⟨t, o, X.baloadBytes hx (j := j) (v := v) A.1 (State.isArrayOf_alike hZ.alike A.2.1) A.2.2 q2.1 q2.2 (g := mkF m pc ⟨ls⟩ (.int j :: .ref a :: st)) rfl rfl (hb hby hd) _ stp, P⟩
theorem own_arr_set {h h' : Heap} {a : Addr} {cl : Cell} {ty : FieldType} {vs : List Value} {j : Nat} {v : Value} (A : Arr Z h a cl ty) (hc : cl.slots.toList = vs) (W : Wr h h' a j v) : own_is Z h' a (.inl (ty, vs.set j v)) := by
  refine ⟨cl.setSlot j v, A.same W, ?_⟩
  show (cl.slots.setIfInBounds j v).toList = vs.set j v
  rw [Array.toList_setIfInBounds, hc]
theorem own_Wk.iastore (C : own_Wk Z n0 R y bytes maxL ret l Q G) (i : Nat) {a : Addr} {vs : List Value} {j x : Int32} {H' : own_Hs} (hd : decode bytes pc = .ok (.iastore, 1)) (hi : H[i]? = some (a, .inl (.int, vs))) (h0 : ¬ j < 0) (hj : j.toNatClampNeg < vs.length) (hH' : H.set i (a, .inl (.int, vs.set j.toNatClampNeg (.int x))) = H') (hq : pc + 1 = q) (K : G k n H' q ls st) : G k n H pc ls (.int x :: .int j :: .ref a :: st) := by
  subst hq hH'
  obtain ⟨p, e, s, m, args, below, meth, c, rfl, hx, hZ, hby, hml, hown, hnm, hret, hlk⟩ := C
  intro T L X N hH
  obtain ⟨g1, -, cl, A, hc⟩ := hH.2.2 i _ _ hi
  obtain ⟨T', h', X', e', W, stp⟩ := stI X hx hZ rfl A (own_in hc h0 hj) (g := mkF m pc ⟨ls⟩ (.int x :: .int j :: .ref a :: st)) rfl rfl (hb hby hd)
  obtain ⟨t, o, st2, P⟩ := K T' _ X' (Fr.snoc X' N g1) (by rw [e']; exact own_Hp_set hH hi W (own_arr_set A hc W))
  exact ⟨t, o, stp _ st2, P⟩
theorem own_Wk.lastore (C : own_Wk Z n0 R y bytes maxL ret l Q G) (i : Nat) {a : Addr} {vs : List Value} {j : Int32} {x : Int64} {H' : own_Hs} (hd : decode bytes pc = .ok (.lastore, 1)) (hi : H[i]? = some (a, .inl (.long, vs))) (h0 : ¬ j < 0) (hj : j.toNatClampNeg < vs.length) (hH' : H.set i (a, .inl (.long, vs.set j.toNatClampNeg (.long x))) = H') (hq : pc + 1 = q) (K : G k n H' q ls st) : G k n H pc ls (.long x :: .int j :: .ref a :: st) := by
  subst hq hH'
  obtain ⟨p, e, s, m, args, below, meth, c, rfl, hx, hZ, hby, hml, hown, hnm, hret, hlk⟩ := C
  intro T L X N hH
  obtain ⟨g1, -, cl, A, hc⟩ := hH.2.2 i _ _ hi
  obtain ⟨T', h', X', e', W, stp⟩ := stJ X hx hZ rfl A (own_in hc h0 hj) (g := mkF m pc ⟨ls⟩ (.long x :: .int j :: .ref a :: st)) rfl rfl (hb hby hd)
  obtain ⟨t, o, st2, P⟩ := K T' _ X' (Fr.snoc X' N g1) (by rw [e']; exact own_Hp_set hH hi W (own_arr_set A hc W))
  exact ⟨t, o, stp _ st2, P⟩
theorem own_Wk.bastore (C : own_Wk Z n0 R y bytes maxL ret l Q G) (i : Nat) {a : Addr} {vs : List Value} {j x : Int32} {H' : own_Hs} (hd : decode bytes pc = .ok (.bastore, 1)) (hi : H[i]? = some (a, .inl (.byte, vs))) (h0 : ¬ j < 0) (hj : j.toNatClampNeg < vs.length) (hH' : H.set i (a, .inl (.byte, vs.set j.toNatClampNeg (.int (nar .byte x)))) = H') (hq : pc + 1 = q) (K : G k n H' q ls st) : G k n H pc ls (.int x :: .int j :: .ref a :: st) := by
  subst hq hH'
  obtain ⟨p, e, s, m, args, below, meth, c, rfl, hx, hZ, hby, hml, hown, hnm, hret, hlk⟩ := C
  intro T L X N hH
  obtain ⟨g1, -, cl, A, hc⟩ := hH.2.2 i _ _ hi
  obtain ⟨T', h', X', e', W, stp⟩ := stB X hx hZ rfl A (own_in hc h0 hj) (g := mkF m pc ⟨ls⟩ (.int x :: .int j :: .ref a :: st)) rfl rfl (hb hby hd)
  obtain ⟨t, o, st2, P⟩ := K T' _ X' (Fr.snoc X' N g1) (by rw [e']; exact own_Hp_set hH hi W (own_arr_set A hc W))
  exact ⟨t, o, stp _ st2, P⟩
theorem own_Wk.newarr (C : own_Wk Z n0 R y bytes maxL ret l Q G) (cap : Nat) {aty : ArrayType} {z : Int32} {ty : FieldType} {vs : List Value} {k' n' : Nat} (hd : decode bytes pc = .ok (.newarray aty, 2)) (w : (Jvm.Cond.arrayClass (newarray.typeOf aty)).before a0 Z = true) (hz : ¬ z < 0) (hcap : z.toNatClampNeg ≤ cap) (hb8 : cap * 8 ≤ 536870912) (hc : k + 1 ≤ R.cells) (hl : n + cap ≤ R.slots)
    (hty : newarray.typeOf aty = ty) (hvs : List.replicate z.toNatClampNeg (defaultValue ty) = vs) (hk' : k + 1 = k') (hn' : n + cap = n') (hq : pc + 2 = q) (K : ∀ a, G k' n' (H ++ [(a, .inl (ty, vs))]) q ls (.ref a :: st)) : G k n H pc ls (.int z :: st) := by
  subst hq hvs hty hk' hn'
  obtain ⟨p, e, s, m, args, below, meth, c, rfl, hx, hZ, hby, hml, hown, hnm, hret, hlk⟩ := C
  intro T L X N hH
  obtain ⟨T', h', cA, X', e', E, A, stp⟩ := newP X hx hZ w rfl (g := mkF m pc ⟨ls⟩ (.int z :: st)) rfl (hb hby hd) rfl hz hcap hb8 hc hl
  obtain ⟨t, o, st2, P⟩ := K T.heap.size T' _ X' N (by
    rw [e']
    refine own_Hp_new hH E A.lt ⟨_, A, ?_⟩
    show (newA cA (newarray.typeOf aty) z).slots.toList = _
    simp only [newA, Array.toList_replicate])
  exact ⟨t, o, stp _ st2, P⟩
-- objects
def own_Laid (Z : State) (a0 : Array Value) (Cn : String) : List (String × String × FieldType) → Prop
  | [] => True
  | d :: r => (Laid Z a0 Cn Cn d.1 d.2.1 ∧ parseFieldDescriptor d.2.1 = some d.2.2) ∧ own_Laid Z a0 Cn r
theorem own_Laid.at {Cn : String} : ∀ {ds : List (String × String × FieldType)} {i : Nat} {d : String × String × FieldType}, own_Laid Z a0 Cn ds → ds[i]? = some d → Laid Z a0 Cn Cn d.1 d.2.1 ∧ parseFieldDescriptor d.2.1 = some d.2.2
  | [], _, _, _, h => by simp at h
  | d0 :: r, 0, d, L, h => by cases Option.some.inj h; exact L.1
  | d0 :: r, i + 1, d, L, h => own_Laid.at L.2 (by simpa using h)
def own_diff : List String → Bool
  | [] => true
  | x :: r => (r.all fun z => z != x) && own_diff r
theorem own_diff.inj : ∀ {xs : List String} {i j : Nat} {s : String}, own_diff xs = true → xs[i]? = some s → xs[j]? = some s → i = j
  | [], _, _, _, _, h, _ => by simp at h
  | x :: r, 0, 0, _, _, _, _ => rfl
  | x :: r, 0, j + 1, s, D, h, g => by
    simp only [own_diff, Bool.and_eq_true, List.all_eq_true, bne_iff_ne] at D
    cases Option.some.inj h
    exact absurd rfl (D.1 _ (List.mem_of_getElem? (by simpa using g)))
  | x :: r, i + 1, 0, s, D, h, g => by
    simp only [own_diff, Bool.and_eq_true, List.all_eq_true, bne_iff_ne] at D
    cases Option.some.inj g
    exact absurd rfl (D.1 _ (List.mem_of_getElem? (by simpa using h)))
  | x :: r, i + 1, j + 1, s, D, h, g => by
    simp only [own_diff, Bool.and_eq_true] at D
    exact congrArg (· + 1) (own_diff.inj (s := s) D.2 (by simpa using h) (by simpa using g))
theorem own_Wk.newobj (C : own_Wk Z n0 R y bytes maxL ret l Q G) (ds : List (String × String × FieldType)) {Cn : String} {ix nn k' n' : Nat} {fs : List (String × String × Value)} (hd : decode bytes pc = .ok (.new ix, 3)) (w1 : (Jvm.Cond.classLink y.cls ix Cn).before a0 Z = true) (w2 : (Jvm.Cond.instantiable Cn nn).before a0 Z = true) (w3 : (Jvm.Cond.initialized Cn).before a0 Z = true)
    (hL : own_Laid Z a0 Cn ds) (hdf : own_diff (ds.map fun d => d.1) = true) (hc : k + 1 ≤ R.cells) (hl : n + nn ≤ R.slots) (hfs : ds.map (fun d => (d.1, d.2.1, defaultValue d.2.2)) = fs) (hk' : k + 1 = k') (hn' : n + nn = n') (hq : pc + 3 = q)
    (K : ∀ a, G k' n' (H ++ [(a, .inr (Cn, fs))]) q ls (.ref a :: st)) : G k n H pc ls st := by
  subst hq hfs hk' hn'
  obtain ⟨p, e, s, m, args, below, meth, c, rfl, hx, hZ, hby, hml, hown, hnm, hret, hlk⟩ := C
  intro T L X N hH
  obtain ⟨T', h', X', e', E, A, D, -, stp⟩ := newO X hx hZ hown w1 w2 w3 rfl (g := mkF m pc ⟨ls⟩ st) rfl (hb hby hd) hc hl
  have at_ : ∀ (i : Nat) (f : String × String × Value), (ds.map (fun d => (d.1, d.2.1, defaultValue d.2.2)))[i]? = some f → ∃ d : String × String × FieldType, ds[i]? = some d ∧ f = (d.1, d.2.1, defaultValue d.2.2) := by
    intro i f hf
    rw [List.getElem?_map] at hf
    obtain ⟨d, h1, h2⟩ := Option.map_eq_some_iff.mp hf
    exact ⟨d, h1, h2.symm⟩
  obtain ⟨t, o, st2, P⟩ := K T.heap.size T' _ X' N (by
    rw [e']
    refine own_Hp_new hH E A.lt ⟨A, fun i j f g hf hg hs => ?_, fun i f hf => ?_⟩
    · obtain ⟨d, h1, rfl⟩ := at_ i f hf
      obtain ⟨d', h1', rfl⟩ := at_ j g hg
      by_cases hn : d.1 = d'.1
      · exact own_diff.inj hdf (s := d.1) (by rw [List.getElem?_map, h1]; rfl) (by rw [List.getElem?_map, h1', hn]; rfl)
      · exact absurd hs (slot_ne (hL.at h1).1 (hL.at h1').1 hn (hL.at h1).2 (hL.at h1').2)
    · obtain ⟨d, h1, rfl⟩ := at_ i f hf
      exact D (hL.at h1).1 (hL.at h1).2)
  exact ⟨t, o, stp _ st2, P⟩
theorem own_Wk.getf (C : own_Wk Z n0 R y bytes maxL ret l Q G) (i j : Nat) {ix : Nat} {Cn nm ds : String} {a : Addr} {fs : List (String × String × Value)} {v : Value} (hd : decode bytes pc = .ok (.getfield ix, 3)) (w : (Jvm.Cond.fieldLink y.cls ix Cn nm ds).before a0 Z = true)
    (hi : H[i]? = some (a, .inr (Cn, fs))) (hj : fs[j]? = some (nm, ds, v)) (hq : pc + 3 = q) (K : G k n H q ls (v :: st)) : G k n H pc ls (.ref a :: st) := by
  subst hq
  obtain ⟨p, e, s, m, args, below, meth, c, rfl, hx, hZ, hby, hml, hown, hnm, hret, hlk⟩ := C
  intro T L X N hH
  obtain ⟨-, -, hE, hS, hF⟩ := hH.2.2 i _ _ hi
  obtain ⟨T', X', e', stp⟩ := getF X hx hZ hown (host := "") (Or.inl w) Via.refl rfl (hF j _ hj) (g := mkF m pc ⟨ls⟩ (.ref a :: st)) rfl rfl (hb hby hd)
  obtain ⟨t, o, st2, P⟩ := K T' _ X' N (by rw [e']; exact hH)
  exact ⟨t, o, stp _ st2, P⟩
theorem own_Wk.putf (C : own_Wk Z n0 R y bytes maxL ret l Q G) (i j : Nat) {ix kk : Nat} {Cn nm ds : String} {a : Addr} {fs : List (String × String × Value)} {v old : Value} {ty : FieldType} {H' : own_Hs} (hd : decode bytes pc = .ok (.putfield ix, 3)) (w : (Jvm.Cond.fieldLink y.cls ix Cn nm ds).before a0 Z = true)
    (hL : (Jvm.Cond.lays Cn Cn nm ds).before a0 Z = true ∨ ((Jvm.Cond.laysFinal Cn Cn nm ds).before a0 Z = true ∧ y.cls = Cn ∧ y.name = "<init>")) (wi : (Jvm.Cond.instantiable Cn kk).before a0 Z = true)
    (hi : H[i]? = some (a, .inr (Cn, fs))) (hj : fs[j]? = some (nm, ds, old)) (hty : parseFieldDescriptor ds = some ty) (hn' : narrow ty v = v) (hf : fits ty v = true) (hH' : H.set i (a, .inr (Cn, fs.set j (nm, ds, v))) = H') (hq : pc + 3 = q) (K : G k n H' q ls st) : G k n H pc ls (v :: .ref a :: st) := by
  subst hq hH'
  obtain ⟨p, e, s, m, args, below, meth, c, rfl, hx, hZ, hby, hml, hown, hnm, hret, hlk⟩ := C
  intro T L X N hH
  obtain ⟨g1, -, hE, hS, hF⟩ := hH.2.2 i _ _ hi
  obtain ⟨T', h', X', e', W, stp⟩ := putF X hx hZ hown (host := "") (Or.inl w) Via.refl rfl (hF j _ hj) hE (hL.imp id fun z => ⟨z.1, z.2.1, hnm.trans z.2.2⟩) wi hty hn' hf (g := mkF m pc ⟨ls⟩ (v :: .ref a :: st)) rfl rfl (hb hby hd)
  have key : ∀ (i' : Nat) (f : String × String × Value), (fs.set j (nm, ds, v))[i']? = some f → (i' = j ∧ f = (nm, ds, v)) ∨ (i' ≠ j ∧ fs[i']? = some f) := by
    intro i' f hf'
    rw [List.getElem?_set] at hf'
    by_cases q : j = i'
    · subst q
      rw [if_pos rfl] at hf'
      split at hf'
      · exact Or.inl ⟨rfl, (Option.some.inj hf').symm⟩
      · cases hf'
    · rw [if_neg q] at hf'; exact Or.inr ⟨fun z => q z.symm, hf'⟩
  obtain ⟨t, o, st2, P⟩ := K T' _ X' (Fr.snoc X' N g1) (by
    rw [e']
    refine own_Hp_set hH hi W ⟨hE.wr W, fun i1 j1 f g h1 h2 hs => ?_, fun i1 f h1 => ?_⟩
    · rcases key i1 f h1 with ⟨z1, rfl⟩ | ⟨z1, z2⟩ <;> rcases key j1 g h2 with ⟨y1, rfl⟩ | ⟨y1, y2⟩
      · rw [z1, y1]
      · rw [z1]; exact hS j j1 (nm, ds, old) g hj y2 hs
      · rw [y1]; exact hS i1 j f (nm, ds, old) z2 hj hs
      · exact hS i1 j1 f g z2 y2 hs
    · rcases key i1 f h1 with ⟨z1, rfl⟩ | ⟨z1, z2⟩
      · exact (hF j _ hj).same W
      · exact (hF i1 f z2).other W (Or.inr fun z => z1 (hS i1 j f (nm, ds, old) z2 hj z)))
  exact ⟨t, o, stp _ st2, P⟩
theorem own_Wk.initO (C : own_Wk Z n0 R y bytes maxL ret l Q G) (W : Nat) {ix : Nat} {a : Addr} (hd : decode bytes pc = .ok (.invokespecial ix, 3)) (w1 : (Jvm.Cond.methodLink y.cls ix Lib.objectInit).before a0 Z = true) (w2 : (Jvm.Cond.instanceMethod Lib.objectInit).before a0 Z = true) (w3 : (Jvm.Cond.code Lib.objectInit ⟨#[0xb1]⟩ 1 none).before a0 Z = true)
    (hls : ls.length = maxL) (hf : 1 ≤ R.frames) (hW : (st.map fun v => v.category).sum ≤ W) (hl : W + 12 ≤ R.locals) (hq : pc + 3 = q) (K : G k n H q ls st) : G k n H pc ls (.ref a :: st) := by
  subst hq
  obtain ⟨p, e, s, m, args, below, meth, c, rfl, hx, hZ, hby, hml, hown, hnm, hret, hlk⟩ := C
  intro T L X N hH
  obtain ⟨T', X', e', stp⟩ := RoadKit.initO X hx hZ hown w1 w2 w3 rfl (g := mkF m pc ⟨ls⟩ (.ref a :: st)) rfl (by rw [hml]; exact hls) rfl (hb hby hd) hf (W := W) (by show 2 * 0 + _ ≤ _; rw [Nat.mul_zero, Nat.zero_add]; exact hW) hl
  obtain ⟨t, o, st2, P⟩ := K T' _ X' N (by rw [e']; exact hH)
  exact ⟨t, o, stp _ st2, P⟩
-- calls
theorem own_Wk.callS (C : own_Wk Z n0 R y bytes maxL ret l Q G) (W : Nat) (argsL rest : List Value) {ix : Nat} {y' : MethodName} {bytes' : ByteArray} {maxL' : Nat} {ret' r : Option FieldType} {ps : List FieldType} {rm : Room} {Q' : Option Value → own_Hs → Prop}
    (hd : decode bytes pc = .ok (.invokestatic ix, 3)) (w1 : (Jvm.Cond.methodLink y.cls ix y').before a0 Z = true) (w2 : (Jvm.Cond.static y').before a0 Z = true) (w3 : (Jvm.Cond.initialized y'.cls).before a0 Z = true) (w4 : (Jvm.Cond.code y' bytes' maxL' ret').before a0 Z = true)
    (hM : own_Con l Z n0 y' bytes' maxL' ret' [] rm argsL.toArray H Q') (hy : y'.cls ≠ "java/lang/invoke/MethodHandle" ∧ y'.cls ≠ "java/lang/invoke/VarHandle") (hfr : rm.frames + 1 ≤ R.frames) (hlo : W + (maxL' + 11) + rm.locals ≤ R.locals) (hds : parseMethodDescriptor y'.desc = some ⟨ps, r⟩) (hln : argsL.length = ps.length)
    (hls : ls.length = maxL) (hst : st = argsL.reverse ++ rest) (hW : (rest.map fun v => v.category).sum ≤ W) (hc : k + rm.cells ≤ R.cells) (hs : n + rm.slots ≤ R.slots) (hq : pc + 3 = q) (K : ∀ v H', Q' v H' → G (k + rm.cells) (n + rm.slots) H' q ls (v.toList ++ rest)) : G k n H pc ls st := by
  subst hq
  obtain ⟨p, e, s, m, args, below, meth, c, rfl, hx, hZ, hby, hml, hown, hnm, hret, hlk⟩ := C
  intro T L X N hH
  obtain ⟨v, vm₁, ⟨T', L', k', n'⟩, -, X', ⟨Lc, hQ, l', c', s'⟩, stp⟩ := Jvm.LawKit.callS X hx (y := y') hown (mvT hZ w1) (mvT hZ w2) (mvT hZ w3) (mvT hZ w4) hy
    (backOf (W := W) (Q := fun v h L => Fr n0 L ∧ ∃ H', own_Hp Z n0 h H' ∧ Q' v H') (hM T.heap hH) hZ w4 w3 hfr hlo) (g := mkF m pc ⟨ls⟩ st) rfl (by rw [hml]; exact hls) (argsL := argsL) (rest := rest) (lenOf hds hln) hst (by show 2 * 0 + _ ≤ _; rw [Nat.mul_zero, Nat.zero_add]; exact hW) (hb hby hd) (fun _ _ => ⟨rfl, rfl, hc, hs⟩)
  dsimp only [Pt.U, Pt.locs, Pt.cells, Pt.slots] at X' l' c' s' stp hQ
  subst l' c' s'
  obtain ⟨N', H', hH', hQ'⟩ := hQ
  obtain ⟨t, o, st2, P⟩ := K v H' hQ' T' _ X' (Fr.app N N') hH'
  exact ⟨t, o, stp _ st2, P⟩
theorem own_Wk.callI (C : own_Wk Z n0 R y bytes maxL ret l Q G) (W : Nat) (a : Addr) (argsL rest : List Value) {ix : Nat} {y' : MethodName} {bytes' : ByteArray} {maxL' : Nat} {r : Option FieldType} {ps : List FieldType} {rm : Room} {Q' : Option Value → own_Hs → Prop}
    (hd : decode bytes pc = .ok (.invokespecial ix, 3)) (w1 : (Jvm.Cond.methodLink y.cls ix y').before a0 Z = true) (w2 : (Jvm.Cond.instanceMethod y').before a0 Z = true) (w3 : (Jvm.Cond.initialized y'.cls).before a0 Z = true) (w4 : (Jvm.Cond.code y' bytes' maxL' none).before a0 Z = true)
    (hM : own_Con l Z n0 y' bytes' maxL' none [] rm (.ref a :: argsL).toArray H Q') (hnm' : y'.name = "<init>") (hy : y'.cls ≠ "java/lang/invoke/MethodHandle" ∧ y'.cls ≠ "java/lang/invoke/VarHandle") (hfr : rm.frames + 1 ≤ R.frames) (hlo : W + (maxL' + 11) + rm.locals ≤ R.locals) (hds : parseMethodDescriptor y'.desc = some ⟨ps, r⟩) (hln : argsL.length = ps.length)
    (hls : ls.length = maxL) (hst : st = argsL.reverse ++ .ref a :: rest) (hW : (rest.map fun v => v.category).sum ≤ W) (hc : k + rm.cells ≤ R.cells) (hs : n + rm.slots ≤ R.slots) (hq : pc + 3 = q) (K : ∀ v H', Q' v H' → G (k + rm.cells) (n + rm.slots) H' q ls (v.toList ++ rest)) : G k n H pc ls st := by
  subst hq
  obtain ⟨p, e, s, m, args, below, meth, c, rfl, hx, hZ, hby, hml, hown, hnm, hret, hlk⟩ := C
  intro T L X N hH
  obtain ⟨v, vm₁, ⟨T', L', k', n'⟩, -, X', ⟨Lc, hQ, l', c', s'⟩, stp⟩ := X.specialBack hx (y := y') hnm' hown (mvT hZ w1) (mvT hZ w2) (mvT hZ w4) hy
    (backOf (W := W) (Q := fun v h L => Fr n0 L ∧ ∃ H', own_Hp Z n0 h H' ∧ Q' v H') (hM T.heap hH) hZ w4 w3 hfr hlo) (g := mkF m pc ⟨ls⟩ st) rfl (by rw [hml]; exact hls) (Steps.refl _) (a := a) (argsL := argsL) (rest := rest) (lenOf hds hln) hst (by show 2 * 0 + _ ≤ _; rw [Nat.mul_zero, Nat.zero_add]; exact hW) (hb hby hd) (fun _ _ => ⟨rfl, rfl, hc, hs⟩)
  dsimp only [Pt.U, Pt.locs, Pt.cells, Pt.slots] at X' l' c' s' stp hQ
  subst l' c' s'
  obtain ⟨N', H', hH', hQ'⟩ := hQ
  obtain ⟨t, o, st2, P⟩ := K v H' hQ' T' _ X' (Fr.app N N') hH'
  exact ⟨t, o, stp.trans st2, P⟩
theorem own_Wk.callV (C : own_Wk Z n0 R y bytes maxL ret l Q G) (W i : Nat) (argsL rest : List Value) {a : Addr} {ix : Nat} {y' : MethodName} {bytes' : ByteArray} {maxL' : Nat} {ret' r : Option FieldType} {ps : List FieldType} {fs : List (String × String × Value)} {rm : Room} {Q' : Option Value → own_Hs → Prop}
    (hd : decode bytes pc = .ok (.invokevirtual ix, 3)) (w1 : (Jvm.Cond.methodLink y.cls ix y').before a0 Z = true) (w2 : (Jvm.Cond.declares y').before a0 Z = true) (w5 : (Jvm.Cond.instanceMethod y').before a0 Z = true) (w6 : (Jvm.Cond.selects y'.cls y' y').before a0 Z = true) (w3 : (Jvm.Cond.initialized y'.cls).before a0 Z = true) (w4 : (Jvm.Cond.code y' bytes' maxL' ret').before a0 Z = true)
    (hM : own_Con l Z n0 y' bytes' maxL' ret' [] rm (.ref a :: argsL).toArray H Q') (hy : y'.cls ≠ "java/lang/invoke/MethodHandle" ∧ y'.cls ≠ "java/lang/invoke/VarHandle") (hfr : rm.frames + 1 ≤ R.frames) (hlo : W + (maxL' + 11) + rm.locals ≤ R.locals) (hds : parseMethodDescriptor y'.desc = some ⟨ps, r⟩) (hln : argsL.length = ps.length)
    (hi : H[i]? = some (a, .inr (y'.cls, fs))) (hls : ls.length = maxL) (hst : st = argsL.reverse ++ .ref a :: rest) (hW : (rest.map fun v => v.category).sum ≤ W) (hc : k + rm.cells ≤ R.cells) (hs : n + rm.slots ≤ R.slots) (hq : pc + 3 = q) (K : ∀ v H', Q' v H' → G (k + rm.cells) (n + rm.slots) H' q ls (v.toList ++ rest)) : G k n H pc ls st := by
  subst hq
  obtain ⟨p, e, s, m, args, below, meth, c, rfl, hx, hZ, hby, hml, hown, hnm, hret, hlk⟩ := C
  intro T L X N hH
  obtain ⟨-, -, hE, -, -⟩ := hH.2.2 i _ _ hi
  obtain ⟨cB, kB, b1, -, b3⟩ := isOf hZ rfl hE
  obtain ⟨v, vm₁, ⟨T', L', k', n'⟩, -, X', ⟨Lc, hQ, l', c', s'⟩, stp⟩ := X.virtualBack hx (y := y') (z := y') hown (mvT hZ w1) (mvT hZ w2) (notFace_of_selects (args := #[]) (mvT hZ w6)) (mvT hZ w6) (mvT hZ w5) hy
    (backOf (W := W) (Q := fun v h L => Fr n0 L ∧ ∃ H', own_Hp Z n0 h H' ∧ Q' v H') (hM T.heap hH) hZ w4 w3 hfr hlo) b1 b3 (g := mkF m pc ⟨ls⟩ st) rfl (by rw [hml]; exact hls) (Steps.refl _) (argsL := argsL) (rest := rest) (lenOf hds hln) hst (by show 2 * 0 + _ ≤ _; rw [Nat.mul_zero, Nat.zero_add]; exact hW) (hb hby hd) (fun _ _ => ⟨rfl, rfl, hc, hs⟩)
  dsimp only [Pt.U, Pt.locs, Pt.cells, Pt.slots] at X' l' c' s' stp hQ
  subst l' c' s'
  obtain ⟨N', H', hH', hQ'⟩ := hQ
  obtain ⟨t, o, st2, P⟩ := K v H' hQ' T' _ X' (Fr.app N N') hH'
  exact ⟨t, o, stp.trans st2, P⟩
theorem own_Wk.callF (C : own_Wk Z n0 R y bytes maxL ret l Q G) (W i : Nat) (argsL rest : List Value) {a : Addr} {ix cnt : Nat} {xi y' : MethodName} {bytes' : ByteArray} {maxL' : Nat} {ret' r : Option FieldType} {ps : List FieldType} {fs : List (String × String × Value)} {rm : Room} {Q' : Option Value → own_Hs → Prop}
    (hd : decode bytes pc = .ok (.invokeinterface ix cnt, 5)) (w1 : (Jvm.Cond.methodLink y.cls ix xi).before a0 Z = true) (w2 : (Jvm.Cond.declares xi).before a0 Z = true) (w7 : ∀ {s : State} {args : Array Value}, Z.Warmed39 s.vm → (Jvm.Cond.interfaceMethod xi.cls xi.cls xi.name xi.desc).before args s = true) (w6 : (Jvm.Cond.selects y'.cls xi y').before a0 Z = true) (w5 : (Jvm.Cond.instanceMethod y').before a0 Z = true)
    (w8 : (Jvm.Cond.publicMethod y').before a0 Z = true) (w9 : (Jvm.Cond.unhidden y'.cls xi.name xi.desc).before a0 Z = true) (w10 : (Jvm.Cond.castable y'.cls xi.cls).before a0 Z = true) (w3 : (Jvm.Cond.initialized y'.cls).before a0 Z = true) (w4 : (Jvm.Cond.code y' bytes' maxL' ret').before a0 Z = true)
    (hM : own_Con l Z n0 y' bytes' maxL' ret' [] rm (.ref a :: argsL).toArray H Q') (hy : xi.cls ≠ "java/lang/invoke/MethodHandle" ∧ xi.cls ≠ "java/lang/invoke/VarHandle") (hfr : rm.frames + 1 ≤ R.frames) (hlo : W + (maxL' + 11) + rm.locals ≤ R.locals) (hds : parseMethodDescriptor xi.desc = some ⟨ps, r⟩) (hln : argsL.length = ps.length)
    (hi : H[i]? = some (a, .inr (y'.cls, fs))) (hls : ls.length = maxL) (hst : st = argsL.reverse ++ .ref a :: rest) (hW : (rest.map fun v => v.category).sum ≤ W) (hc : k + rm.cells ≤ R.cells) (hs : n + rm.slots ≤ R.slots) (hq : pc + 5 = q) (K : ∀ v H', Q' v H' → G (k + rm.cells) (n + rm.slots) H' q ls (v.toList ++ rest)) : G k n H pc ls st := by
  subst hq
  obtain ⟨p, e, s, m, args, below, meth, c, rfl, hx, hZ, hby, hml, hown, hnm, hret, hlk⟩ := C
  intro T L X N hH
  obtain ⟨-, -, hE, -, -⟩ := hH.2.2 i _ _ hi
  obtain ⟨cB, kB, b1, b2, b3⟩ := isOf hZ rfl hE
  obtain ⟨v, vm₁, ⟨T', L', k', n'⟩, -, X', ⟨Lc, hQ, l', c', s'⟩, stp⟩ := X.interfaceBack hx (xi := xi) (y := y') hown (mvT hZ w1) (mvT hZ w2) (w7 hZ) (mvT hZ w6) (mvT hZ w5) (mvT hZ w8) (mvT hZ w9) (mvT hZ w10) hy
    (backOf (W := W) (Q := fun v h L => Fr n0 L ∧ ∃ H', own_Hp Z n0 h H' ∧ Q' v H') (hM T.heap hH) hZ w4 w3 hfr hlo) b1 b2 b3 (g := mkF m pc ⟨ls⟩ st) rfl (by rw [hml]; exact hls) (Steps.refl _) (argsL := argsL) (rest := rest) (lenOf hds hln) hst (by show 2 * 0 + _ ≤ _; rw [Nat.mul_zero, Nat.zero_add]; exact hW) (hb hby hd) (fun _ _ => ⟨rfl, rfl, hc, hs⟩)
  dsimp only [Pt.U, Pt.locs, Pt.cells, Pt.slots] at X' l' c' s' stp hQ
  subst l' c' s'
  obtain ⟨N', H', hH', hQ'⟩ := hQ
  obtain ⟨t, o, st2, P⟩ := K v H' hQ' T' _ X' (Fr.app N N') hH'
  exact ⟨t, o, stp.trans st2, P⟩
end OwnKit
theorem own_pd0 : parseMethodDescriptor "([II)V" = some ⟨[(.array .int), .int], none⟩ := by decide +kernel
theorem own_pd1 : parseMethodDescriptor "(II)V" = some ⟨[.int, .int], none⟩ := by decide +kernel
theorem own_pd2 : parseMethodDescriptor "()I" = some ⟨[], some .int⟩ := by decide +kernel
theorem own_pd3 : parseMethodDescriptor "(I)I" = some ⟨[.int], some .int⟩ := by decide +kernel
abbrev own_TL : Type := List Int32 × List Int32 × List Int32 × Int32
def own_vl (xs : List Int32) : List Value := xs.map Value.int
theorem own_vl_at {xs : List Int32} {i : Nat} (h : i < xs.length) : (own_vl xs)[i]? = some (.int (xs.getD i 0)) := by
  rw [own_vl, List.getElem?_map, List.getD_eq_getElem?_getD, List.getElem?_eq_getElem h]; rfl
theorem own_vl_set (xs : List Int32) (i : Nat) (x : Int32) : (own_vl xs).set i (.int x) = own_vl (xs.set i x) := by
  rw [own_vl, own_vl, List.map_set]
theorem own_vl_len (xs : List Int32) : (own_vl xs).length = xs.length := by rw [own_vl, List.length_map]
def own_add (s : own_TL) (t k : Nat) : own_TL :=
  (s.1.set k (Int32.ofNat t), s.2.1.set t (s.1.getD k 0), (if s.1.getD k 0 = -1 then s.2.2.1.set s.2.2.2.toNatClampNeg (Int32.ofNat k) else s.2.2.1), (if s.1.getD k 0 = -1 then s.2.2.2 + 1 else s.2.2.2))
/-- what an add asks -/
def own_ok (s : own_TL) (t k : Nat) : Prop := k < s.1.length ∧ t < s.2.1.length ∧ (s.1.getD k 0 = -1 → ¬ s.2.2.2 < 0 ∧ s.2.2.2.toNatClampNeg < s.2.2.1.length)
theorem own_ti {n : Nat} (h : n < 1000) : (Int32.ofNat n).toInt = n := Int32.toInt_ofNat_of_lt (by omega)
theorem own_nn {n : Nat} (h : n < 1000) : ¬ Int32.ofNat n < 0 := by rw [Int32.lt_iff_toInt_lt, own_ti h]; simp only [Int32.reduceToInt]; omega
theorem own_lt {i n : Nat} (h : i < 1000) (g : n < 1000) : Int32.ofNat i < Int32.ofNat n ↔ i < n := by rw [Int32.lt_iff_toInt_lt, own_ti h, own_ti g]; omega
theorem own_cn {n : Nat} (h : n < 1000) : (Int32.ofNat n).toNatClampNeg = n := by rw [Int32.toNatClampNeg, own_ti h]; rfl
theorem own_sc (n : Nat) : Int32.ofNat n + (1 : Int32) = Int32.ofNat (n + 1) := (Int32.ofNat_add n 1).symm
theorem own_ofInt {x : Int32} {n : Nat} (h : x.toInt = n) (hn : n < 1000) : x = Int32.ofNat n := by apply Int32.toInt_inj.mp; rw [own_ti hn, h]
theorem d1_0 : decode prog_11_method_2_code 0 = .ok (.aload_n 0, 1) := by decide +kernel
theorem d1_1 : decode prog_11_method_2_code 1 = .ok (.getfield 7, 3) := by decide +kernel
theorem d1_4 : decode prog_11_method_2_code 4 = .ok (.iload_n 2, 1) := by decide +kernel
theorem d1_5 : decode prog_11_method_2_code 5 = .ok (.iaload, 1) := by decide +kernel
theorem d1_6 : decode prog_11_method_2_code 6 = .ok (.iconst (-1), 1) := by decide +kernel
theorem d1_7 : decode prog_11_method_2_code 7 = .ok (.if_icmp .ne 23, 3) := by decide +kernel
theorem d1_10 : decode prog_11_method_2_code 10 = .ok (.aload_n 0, 1) := by decide +kernel
theorem d1_11 : decode prog_11_method_2_code 11 = .ok (.getfield 22, 3) := by decide +kernel
theorem d1_14 : decode prog_11_method_2_code 14 = .ok (.aload_n 0, 1) := by decide +kernel
theorem d1_15 : decode prog_11_method_2_code 15 = .ok (.getfield 25, 3) := by decide +kernel
theorem d1_18 : decode prog_11_method_2_code 18 = .ok (.iload_n 2, 1) := by decide +kernel
theorem d1_19 : decode prog_11_method_2_code 19 = .ok (.iastore, 1) := by decide +kernel
theorem d1_20 : decode prog_11_method_2_code 20 = .ok (.aload_n 0, 1) := by decide +kernel
theorem d1_21 : decode prog_11_method_2_code 21 = .ok (.dup, 1) := by decide +kernel
theorem d1_22 : decode prog_11_method_2_code 22 = .ok (.getfield 25, 3) := by decide +kernel
theorem d1_25 : decode prog_11_method_2_code 25 = .ok (.iconst 1, 1) := by decide +kernel
theorem d1_26 : decode prog_11_method_2_code 26 = .ok (.iadd, 1) := by decide +kernel
theorem d1_27 : decode prog_11_method_2_code 27 = .ok (.putfield 25, 3) := by decide +kernel
theorem d1_30 : decode prog_11_method_2_code 30 = .ok (.aload_n 0, 1) := by decide +kernel
theorem d1_31 : decode prog_11_method_2_code 31 = .ok (.getfield 19, 3) := by decide +kernel
theorem d1_34 : decode prog_11_method_2_code 34 = .ok (.iload_n 1, 1) := by decide +kernel
theorem d1_35 : decode prog_11_method_2_code 35 = .ok (.aload_n 0, 1) := by decide +kernel
theorem d1_36 : decode prog_11_method_2_code 36 = .ok (.getfield 7, 3) := by decide +kernel
theorem d1_39 : decode prog_11_method_2_code 39 = .ok (.iload_n 2, 1) := by decide +kernel
theorem d1_40 : decode prog_11_method_2_code 40 = .ok (.iaload, 1) := by decide +kernel
theorem d1_41 : decode prog_11_method_2_code 41 = .ok (.iastore, 1) := by decide +kernel
theorem d1_42 : decode prog_11_method_2_code 42 = .ok (.aload_n 0, 1) := by decide +kernel
theorem d1_43 : decode prog_11_method_2_code 43 = .ok (.getfield 7, 3) := by decide +kernel
theorem d1_46 : decode prog_11_method_2_code 46 = .ok (.iload_n 2, 1) := by decide +kernel
theorem d1_47 : decode prog_11_method_2_code 47 = .ok (.iload_n 1, 1) := by decide +kernel
theorem d1_48 : decode prog_11_method_2_code 48 = .ok (.iastore, 1) := by decide +kernel
theorem d1_49 : decode prog_11_method_2_code 49 = .ok (.return_, 1) := by decide +kernel
theorem own_pn1 : plainFor (⟨"com/example/terms_to_transitions/termstotransitions/equivalence/TransitionLists", "add", "(II)V"⟩ : MethodName) = true := by first | exact plainFor_of_name (by first | (simp [plainName, overriddenIn]; done) | decide +kernel) | decide +kernel
set_option maxHeartbeats 4000000 in
theorem own_ef1 (m : MethodId) (x0 : Addr) (x1 : Int32) (x2 : Int32) : entryFrame m #[.ref x0, .int x1, .int x2] 3 = mkF m 0 #[.val (.ref x0), .val (.int x1), .val (.int x2)] [] := by first | (simp [entryFrame, mkF, argsToLocals, Value.category, maxLocals]; done) | rfl
set_option maxRecDepth 65536 in
set_option maxHeartbeats 40000000 in
theorem own_c1 (l : Launch) (Z : State) (a0 : Array Value) (n0 : Nat) (hw : ∀ d ∈ tables_1, d.before a0 Z = true) (ws : List Jvm.Cond) (o h x m : Addr) (s : own_TL) (t k : Nat) (ht : t < 1000) (hk : k < 1000) (ok : own_ok s t k) :
    own_Con l Z n0 (⟨"com/example/terms_to_transitions/termstotransitions/equivalence/TransitionLists", "add", "(II)V"⟩ : MethodName) prog_11_method_2_code 3 none ws ({ frames := 0, cells := 0, slots := 0, locals := 0 } : Room) #[.ref o, .int (Int32.ofNat t), .int (Int32.ofNat k)] [(o, .inr ("com/example/terms_to_transitions/termstotransitions/equivalence/TransitionLists", [("heads", "[I", .ref h), ("nexts", "[I", .ref x), ("keysMet", "[I", .ref m), ("keysMetCount", "I", .int s.2.2.2)])), (h, .inl (.int, (own_vl s.1))), (x, .inl (.int, (own_vl s.2.1))), (m, .inl (.int, (own_vl s.2.2.1)))] (fun v H' => v = none ∧ H' = [(o, .inr ("com/example/terms_to_transitions/termstotransitions/equivalence/TransitionLists", [("heads", "[I", .ref h), ("nexts", "[I", .ref x), ("keysMet", "[I", .ref m), ("keysMetCount", "I", .int ((own_add s t k).2.2.2))])), (h, .inl (.int, (own_vl (own_add s t k).1))), (x, .inl (.int, (own_vl (own_add s t k).2.1))), (m, .inl (.int, (own_vl (own_add s t k).2.2.1)))]) := by
  refine own_con own_pn1 (fun m_ => own_ef1 m_ o (Int32.ofNat t) (Int32.ofNat k)) ?_
  intro G C
  refine C.aloadN (q := 1) d1_0 rfl rfl rfl ?_
  refine C.getf (q := 4) 0 0 (v := .ref h) d1_1 (hw _ (List.mem_of_getElem? (i := 11) rfl)) rfl rfl rfl ?_
  refine C.iloadN (q := 5) d1_4 rfl rfl ?_
  refine C.iaload (q := 6) 1 (v := .int (s.1.getD k 0)) d1_5 rfl (own_nn hk) (by rw [own_cn hk]; exact own_vl_at ok.1) rfl ?_
  refine C.iconst (q := 7) (z := (-1 : Int32)) d1_6 rfl rfl ?_
  refine C.icmpNe (q := 30) (q' := 10) d1_7 (by decide) (by decide) rfl (fun h7 => ?_) (fun h7 => ?_)
  · refine C.aloadN (q := 11) d1_10 rfl rfl rfl ?_
    refine C.getf (q := 14) 0 2 (v := .ref m) d1_11 (hw _ (List.mem_of_getElem? (i := 19) rfl)) rfl rfl rfl ?_
    refine C.aloadN (q := 15) d1_14 rfl rfl rfl ?_
    refine C.getf (q := 18) 0 3 (v := .int s.2.2.2) d1_15 (hw _ (List.mem_of_getElem? (i := 26) rfl)) rfl rfl rfl ?_
    refine C.iloadN (q := 19) d1_18 rfl rfl ?_
    refine C.iastore (q := 20) 3 (H' := [(o, .inr ("com/example/terms_to_transitions/termstotransitions/equivalence/TransitionLists", [("heads", "[I", .ref h), ("nexts", "[I", .ref x), ("keysMet", "[I", .ref m), ("keysMetCount", "I", .int s.2.2.2)])), (h, .inl (.int, (own_vl s.1))), (x, .inl (.int, (own_vl s.2.1))), (m, .inl (.int, (own_vl (s.2.2.1.set s.2.2.2.toNatClampNeg (Int32.ofNat k)))))]) d1_19 rfl (ok.2.2 h7).1 (by rw [own_vl_len]; exact (ok.2.2 h7).2) (by rw [own_vl_set]; rfl) rfl ?_
    refine C.aloadN (q := 21) d1_20 rfl rfl rfl ?_
    refine C.dup (q := 22) d1_21 rfl rfl ?_
    refine C.getf (q := 25) 0 3 (v := .int s.2.2.2) d1_22 (hw _ (List.mem_of_getElem? (i := 26) rfl)) rfl rfl rfl ?_
    refine C.iconst (q := 26) (z := (1 : Int32)) d1_25 rfl rfl ?_
    refine C.iadd (q := 27) d1_26 rfl ?_
    refine C.putf (q := 30) 0 3 (ty := .int) (H' := [(o, .inr ("com/example/terms_to_transitions/termstotransitions/equivalence/TransitionLists", [("heads", "[I", .ref h), ("nexts", "[I", .ref x), ("keysMet", "[I", .ref m), ("keysMetCount", "I", .int (s.2.2.2 + (1 : Int32)))])), (h, .inl (.int, (own_vl s.1))), (x, .inl (.int, (own_vl s.2.1))), (m, .inl (.int, (own_vl (s.2.2.1.set s.2.2.2.toNatClampNeg (Int32.ofNat k)))))]) d1_27 (hw _ (List.mem_of_getElem? (i := 26) rfl)) (Or.inl (hw _ (List.mem_of_getElem? (i := 27) rfl))) (hw _ (List.mem_of_getElem? (i := 2) rfl)) rfl rfl (by decide) rfl rfl rfl rfl ?_
    refine C.aloadN (q := 31) d1_30 rfl rfl rfl ?_
    refine C.getf (q := 34) 0 1 (v := .ref x) d1_31 (hw _ (List.mem_of_getElem? (i := 17) rfl)) rfl rfl rfl ?_
    refine C.iloadN (q := 35) d1_34 rfl rfl ?_
    refine C.aloadN (q := 36) d1_35 rfl rfl rfl ?_
    refine C.getf (q := 39) 0 0 (v := .ref h) d1_36 (hw _ (List.mem_of_getElem? (i := 11) rfl)) rfl rfl rfl ?_
    refine C.iloadN (q := 40) d1_39 rfl rfl ?_
    refine C.iaload (q := 41) 1 (v := .int (s.1.getD k 0)) d1_40 rfl (own_nn hk) (by rw [own_cn hk]; exact own_vl_at ok.1) rfl ?_
    refine C.iastore (q := 42) 2 (H' := [(o, .inr ("com/example/terms_to_transitions/termstotransitions/equivalence/TransitionLists", [("heads", "[I", .ref h), ("nexts", "[I", .ref x), ("keysMet", "[I", .ref m), ("keysMetCount", "I", .int (s.2.2.2 + (1 : Int32)))])), (h, .inl (.int, (own_vl s.1))), (x, .inl (.int, (own_vl (s.2.1.set t (s.1.getD k 0))))), (m, .inl (.int, (own_vl (s.2.2.1.set s.2.2.2.toNatClampNeg (Int32.ofNat k)))))]) d1_41 rfl (own_nn ht) (by rw [own_vl_len, own_cn ht]; exact ok.2.1) (by rw [own_vl_set, own_cn ht]; rfl) rfl ?_
    refine C.aloadN (q := 43) d1_42 rfl rfl rfl ?_
    refine C.getf (q := 46) 0 0 (v := .ref h) d1_43 (hw _ (List.mem_of_getElem? (i := 11) rfl)) rfl rfl rfl ?_
    refine C.iloadN (q := 47) d1_46 rfl rfl ?_
    refine C.iloadN (q := 48) d1_47 rfl rfl ?_
    refine C.iastore (q := 49) 1 (H' := [(o, .inr ("com/example/terms_to_transitions/termstotransitions/equivalence/TransitionLists", [("heads", "[I", .ref h), ("nexts", "[I", .ref x), ("keysMet", "[I", .ref m), ("keysMetCount", "I", .int (s.2.2.2 + (1 : Int32)))])), (h, .inl (.int, (own_vl (s.1.set k (Int32.ofNat t))))), (x, .inl (.int, (own_vl (s.2.1.set t (s.1.getD k 0))))), (m, .inl (.int, (own_vl (s.2.2.1.set s.2.2.2.toNatClampNeg (Int32.ofNat k)))))]) d1_48 rfl (own_nn hk) (by rw [own_vl_len, own_cn hk]; exact ok.1) (by rw [own_vl_set, own_cn hk]; rfl) rfl ?_
    exact C.retV d1_49 (by decide) (by decide) ⟨rfl, by first | (simp only [own_add, if_pos h7]; done) | (simp only [own_add, if_neg h7]; done)⟩
  · refine C.aloadN (q := 31) d1_30 rfl rfl rfl ?_
    refine C.getf (q := 34) 0 1 (v := .ref x) d1_31 (hw _ (List.mem_of_getElem? (i := 17) rfl)) rfl rfl rfl ?_
    refine C.iloadN (q := 35) d1_34 rfl rfl ?_
    refine C.aloadN (q := 36) d1_35 rfl rfl rfl ?_
    refine C.getf (q := 39) 0 0 (v := .ref h) d1_36 (hw _ (List.mem_of_getElem? (i := 11) rfl)) rfl rfl rfl ?_
    refine C.iloadN (q := 40) d1_39 rfl rfl ?_
    refine C.iaload (q := 41) 1 (v := .int (s.1.getD k 0)) d1_40 rfl (own_nn hk) (by rw [own_cn hk]; exact own_vl_at ok.1) rfl ?_
    refine C.iastore (q := 42) 2 (H' := [(o, .inr ("com/example/terms_to_transitions/termstotransitions/equivalence/TransitionLists", [("heads", "[I", .ref h), ("nexts", "[I", .ref x), ("keysMet", "[I", .ref m), ("keysMetCount", "I", .int s.2.2.2)])), (h, .inl (.int, (own_vl s.1))), (x, .inl (.int, (own_vl (s.2.1.set t (s.1.getD k 0))))), (m, .inl (.int, (own_vl s.2.2.1)))]) d1_41 rfl (own_nn ht) (by rw [own_vl_len, own_cn ht]; exact ok.2.1) (by rw [own_vl_set, own_cn ht]; rfl) rfl ?_
    refine C.aloadN (q := 43) d1_42 rfl rfl rfl ?_
    refine C.getf (q := 46) 0 0 (v := .ref h) d1_43 (hw _ (List.mem_of_getElem? (i := 11) rfl)) rfl rfl rfl ?_
    refine C.iloadN (q := 47) d1_46 rfl rfl ?_
    refine C.iloadN (q := 48) d1_47 rfl rfl ?_
    refine C.iastore (q := 49) 1 (H' := [(o, .inr ("com/example/terms_to_transitions/termstotransitions/equivalence/TransitionLists", [("heads", "[I", .ref h), ("nexts", "[I", .ref x), ("keysMet", "[I", .ref m), ("keysMetCount", "I", .int s.2.2.2)])), (h, .inl (.int, (own_vl (s.1.set k (Int32.ofNat t))))), (x, .inl (.int, (own_vl (s.2.1.set t (s.1.getD k 0))))), (m, .inl (.int, (own_vl s.2.2.1)))]) d1_48 rfl (own_nn hk) (by rw [own_vl_len, own_cn hk]; exact ok.1) (by rw [own_vl_set, own_cn hk]; rfl) rfl ?_
    exact C.retV d1_49 (by decide) (by decide) ⟨rfl, by first | (simp only [own_add, if_pos h7]; done) | (simp only [own_add, if_neg h7]; done)⟩
theorem d2_0 : decode prog_11_method_3_code 0 = .ok (.aload_n 0, 1) := by decide +kernel
theorem d2_1 : decode prog_11_method_3_code 1 = .ok (.getfield 25, 3) := by decide +kernel
theorem d2_4 : decode prog_11_method_3_code 4 = .ok (.ireturn, 1) := by decide +kernel
theorem own_pn2 : plainFor (⟨"com/example/terms_to_transitions/termstotransitions/equivalence/TransitionLists", "listCount", "()I"⟩ : MethodName) = true := by first | exact plainFor_of_name (by first | (simp [plainName, overriddenIn]; done) | decide +kernel) | decide +kernel
set_option maxHeartbeats 4000000 in
theorem own_ef2 (m : MethodId) (x0 : Addr) : entryFrame m #[.ref x0] 1 = mkF m 0 #[.val (.ref x0)] [] := by first | (simp [entryFrame, mkF, argsToLocals, Value.category, maxLocals]; done) | rfl
set_option maxRecDepth 65536 in
set_option maxHeartbeats 40000000 in
theorem own_c2 (l : Launch) (Z : State) (a0 : Array Value) (n0 : Nat) (hw : ∀ d ∈ tables_1, d.before a0 Z = true) (ws : List Jvm.Cond) (o h x m : Addr) (s : own_TL)  :
    own_Con l Z n0 (⟨"com/example/terms_to_transitions/termstotransitions/equivalence/TransitionLists", "listCount", "()I"⟩ : MethodName) prog_11_method_3_code 1 (some .int) ws ({ frames := 0, cells := 0, slots := 0, locals := 0 } : Room) #[.ref o] [(o, .inr ("com/example/terms_to_transitions/termstotransitions/equivalence/TransitionLists", [("heads", "[I", .ref h), ("nexts", "[I", .ref x), ("keysMet", "[I", .ref m), ("keysMetCount", "I", .int s.2.2.2)])), (h, .inl (.int, (own_vl s.1))), (x, .inl (.int, (own_vl s.2.1))), (m, .inl (.int, (own_vl s.2.2.1)))] (fun v H' => v = some (.int s.2.2.2) ∧ H' = [(o, .inr ("com/example/terms_to_transitions/termstotransitions/equivalence/TransitionLists", [("heads", "[I", .ref h), ("nexts", "[I", .ref x), ("keysMet", "[I", .ref m), ("keysMetCount", "I", .int s.2.2.2)])), (h, .inl (.int, (own_vl s.1))), (x, .inl (.int, (own_vl s.2.1))), (m, .inl (.int, (own_vl s.2.2.1)))]) := by
  refine own_con own_pn2 (fun m_ => own_ef2 m_ o) ?_
  intro G C
  refine C.aloadN (q := 1) d2_0 rfl rfl rfl ?_
  refine C.getf (q := 4) 0 3 (v := .int s.2.2.2) d2_1 (hw _ (List.mem_of_getElem? (i := 26) rfl)) rfl rfl rfl ?_
  exact C.retI d2_4 (by decide) (by decide) ⟨rfl, rfl⟩
theorem d3_0 : decode prog_11_method_4_code 0 = .ok (.aload_n 0, 1) := by decide +kernel
theorem d3_1 : decode prog_11_method_4_code 1 = .ok (.getfield 7, 3) := by decide +kernel
theorem d3_4 : decode prog_11_method_4_code 4 = .ok (.aload_n 0, 1) := by decide +kernel
theorem d3_5 : decode prog_11_method_4_code 5 = .ok (.getfield 22, 3) := by decide +kernel
theorem d3_8 : decode prog_11_method_4_code 8 = .ok (.iload_n 1, 1) := by decide +kernel
theorem d3_9 : decode prog_11_method_4_code 9 = .ok (.iaload, 1) := by decide +kernel
theorem d3_10 : decode prog_11_method_4_code 10 = .ok (.iaload, 1) := by decide +kernel
theorem d3_11 : decode prog_11_method_4_code 11 = .ok (.ireturn, 1) := by decide +kernel
theorem own_pn3 : plainFor (⟨"com/example/terms_to_transitions/termstotransitions/equivalence/TransitionLists", "first", "(I)I"⟩ : MethodName) = true := by first | exact plainFor_of_name (by first | (simp [plainName, overriddenIn]; done) | decide +kernel) | decide +kernel
set_option maxHeartbeats 4000000 in
theorem own_ef3 (m : MethodId) (x0 : Addr) (x1 : Int32) : entryFrame m #[.ref x0, .int x1] 2 = mkF m 0 #[.val (.ref x0), .val (.int x1)] [] := by first | (simp [entryFrame, mkF, argsToLocals, Value.category, maxLocals]; done) | rfl
set_option maxRecDepth 65536 in
set_option maxHeartbeats 40000000 in
theorem own_c3 (l : Launch) (Z : State) (a0 : Array Value) (n0 : Nat) (hw : ∀ d ∈ tables_1, d.before a0 Z = true) (ws : List Jvm.Cond) (o h x m : Addr) (s : own_TL) (i : Nat) (hi : i < 1000) (h1 : i < s.2.2.1.length) (h2 : ¬ (s.2.2.1.getD i 0) < 0) (h3 : (s.2.2.1.getD i 0).toNatClampNeg < s.1.length) :
    own_Con l Z n0 (⟨"com/example/terms_to_transitions/termstotransitions/equivalence/TransitionLists", "first", "(I)I"⟩ : MethodName) prog_11_method_4_code 2 (some .int) ws ({ frames := 0, cells := 0, slots := 0, locals := 0 } : Room) #[.ref o, .int (Int32.ofNat i)] [(o, .inr ("com/example/terms_to_transitions/termstotransitions/equivalence/TransitionLists", [("heads", "[I", .ref h), ("nexts", "[I", .ref x), ("keysMet", "[I", .ref m), ("keysMetCount", "I", .int s.2.2.2)])), (h, .inl (.int, (own_vl s.1))), (x, .inl (.int, (own_vl s.2.1))), (m, .inl (.int, (own_vl s.2.2.1)))] (fun v H' => v = some (.int (s.1.getD (s.2.2.1.getD i 0).toNatClampNeg 0)) ∧ H' = [(o, .inr ("com/example/terms_to_transitions/termstotransitions/equivalence/TransitionLists", [("heads", "[I", .ref h), ("nexts", "[I", .ref x), ("keysMet", "[I", .ref m), ("keysMetCount", "I", .int s.2.2.2)])), (h, .inl (.int, (own_vl s.1))), (x, .inl (.int, (own_vl s.2.1))), (m, .inl (.int, (own_vl s.2.2.1)))]) := by
  refine own_con own_pn3 (fun m_ => own_ef3 m_ o (Int32.ofNat i)) ?_
  intro G C
  refine C.aloadN (q := 1) d3_0 rfl rfl rfl ?_
  refine C.getf (q := 4) 0 0 (v := .ref h) d3_1 (hw _ (List.mem_of_getElem? (i := 11) rfl)) rfl rfl rfl ?_
  refine C.aloadN (q := 5) d3_4 rfl rfl rfl ?_
  refine C.getf (q := 8) 0 2 (v := .ref m) d3_5 (hw _ (List.mem_of_getElem? (i := 19) rfl)) rfl rfl rfl ?_
  refine C.iloadN (q := 9) d3_8 rfl rfl ?_
  refine C.iaload (q := 10) 3 (v := .int (s.2.2.1.getD i 0)) d3_9 rfl (own_nn hi) (by rw [own_cn hi]; exact own_vl_at h1) rfl ?_
  refine C.iaload (q := 11) 1 (v := .int (s.1.getD (s.2.2.1.getD i 0).toNatClampNeg 0)) d3_10 rfl h2 (own_vl_at h3) rfl ?_
  exact C.retI d3_11 (by decide) (by decide) ⟨rfl, rfl⟩
theorem d4_0 : decode prog_11_method_5_code 0 = .ok (.aload_n 0, 1) := by decide +kernel
theorem d4_1 : decode prog_11_method_5_code 1 = .ok (.getfield 19, 3) := by decide +kernel
theorem d4_4 : decode prog_11_method_5_code 4 = .ok (.iload_n 1, 1) := by decide +kernel
theorem d4_5 : decode prog_11_method_5_code 5 = .ok (.iaload, 1) := by decide +kernel
theorem d4_6 : decode prog_11_method_5_code 6 = .ok (.ireturn, 1) := by decide +kernel
theorem own_pn4 : plainFor (⟨"com/example/terms_to_transitions/termstotransitions/equivalence/TransitionLists", "next", "(I)I"⟩ : MethodName) = true := by first | exact plainFor_of_name (by first | (simp [plainName, overriddenIn]; done) | decide +kernel) | decide +kernel
set_option maxHeartbeats 4000000 in
theorem own_ef4 (m : MethodId) (x0 : Addr) (x1 : Int32) : entryFrame m #[.ref x0, .int x1] 2 = mkF m 0 #[.val (.ref x0), .val (.int x1)] [] := by first | (simp [entryFrame, mkF, argsToLocals, Value.category, maxLocals]; done) | rfl
set_option maxRecDepth 65536 in
set_option maxHeartbeats 40000000 in
theorem own_c4 (l : Launch) (Z : State) (a0 : Array Value) (n0 : Nat) (hw : ∀ d ∈ tables_1, d.before a0 Z = true) (ws : List Jvm.Cond) (o h x m : Addr) (s : own_TL) (i : Nat) (hi : i < 1000) (h1 : i < s.2.1.length) :
    own_Con l Z n0 (⟨"com/example/terms_to_transitions/termstotransitions/equivalence/TransitionLists", "next", "(I)I"⟩ : MethodName) prog_11_method_5_code 2 (some .int) ws ({ frames := 0, cells := 0, slots := 0, locals := 0 } : Room) #[.ref o, .int (Int32.ofNat i)] [(o, .inr ("com/example/terms_to_transitions/termstotransitions/equivalence/TransitionLists", [("heads", "[I", .ref h), ("nexts", "[I", .ref x), ("keysMet", "[I", .ref m), ("keysMetCount", "I", .int s.2.2.2)])), (h, .inl (.int, (own_vl s.1))), (x, .inl (.int, (own_vl s.2.1))), (m, .inl (.int, (own_vl s.2.2.1)))] (fun v H' => v = some (.int (s.2.1.getD i 0)) ∧ H' = [(o, .inr ("com/example/terms_to_transitions/termstotransitions/equivalence/TransitionLists", [("heads", "[I", .ref h), ("nexts", "[I", .ref x), ("keysMet", "[I", .ref m), ("keysMetCount", "I", .int s.2.2.2)])), (h, .inl (.int, (own_vl s.1))), (x, .inl (.int, (own_vl s.2.1))), (m, .inl (.int, (own_vl s.2.2.1)))]) := by
  refine own_con own_pn4 (fun m_ => own_ef4 m_ o (Int32.ofNat i)) ?_
  intro G C
  refine C.aloadN (q := 1) d4_0 rfl rfl rfl ?_
  refine C.getf (q := 4) 0 1 (v := .ref x) d4_1 (hw _ (List.mem_of_getElem? (i := 17) rfl)) rfl rfl rfl ?_
  refine C.iloadN (q := 5) d4_4 rfl rfl ?_
  refine C.iaload (q := 6) 2 (v := .int (s.2.1.getD i 0)) d4_5 rfl (own_nn hi) (by rw [own_cn hi]; exact own_vl_at h1) rfl ?_
  exact C.retI d4_6 (by decide) (by decide) ⟨rfl, rfl⟩
def own_fl (z : Int32) : Nat → List Int32 → Nat → List Int32
  | 0, xs, _ => xs
  | k + 1, xs, i => own_fl z k (xs.set i z) (i + 1)
theorem own_fl_len (z : Int32) : ∀ k xs i, (own_fl z k xs i).length = xs.length
  | 0, _, _ => rfl
  | k + 1, xs, i => by rw [own_fl, own_fl_len z k, List.length_set]
def own_s0 (kc : Nat) : own_TL := (own_fl (-1) kc (List.replicate kc 0) 0, [0, 0, 0], List.replicate kc 0, 0)
theorem df_5 : decode jdk_65_method_103_code 5 = .ok (.iload_n 2, 1) := by decide +kernel
theorem df_6 : decode jdk_65_method_103_code 6 = .ok (.iload_n 3, 1) := by decide +kernel
theorem df_7 : decode jdk_65_method_103_code 7 = .ok (.if_icmp .ge 13, 3) := by decide +kernel
theorem df_10 : decode jdk_65_method_103_code 10 = .ok (.aload_n 0, 1) := by decide +kernel
theorem df_11 : decode jdk_65_method_103_code 11 = .ok (.iload_n 2, 1) := by decide +kernel
theorem df_12 : decode jdk_65_method_103_code 12 = .ok (.iload_n 1, 1) := by decide +kernel
theorem df_13 : decode jdk_65_method_103_code 13 = .ok (.iastore, 1) := by decide +kernel
theorem df_14 : decode jdk_65_method_103_code 14 = .ok (.iinc 2 1, 3) := by decide +kernel
theorem df_17 : decode jdk_65_method_103_code 17 = .ok (.goto (-12), 3) := by decide +kernel
set_option maxRecDepth 65536 in
theorem own_tf {Z : State} {a0 : Array Value} {n0 : Nat} {R : Room} {l : Launch} {Q : Option Value → own_Hs → Prop} {G : Nat → Nat → own_Hs → Nat → List Slot → List Value → Prop} (hw : ∀ d ∈ tables_1, d.before a0 Z = true)
    (C : own_Wk Z n0 R (⟨"java/util/Arrays", "fill", "([II)V"⟩ : MethodName) jdk_65_method_103_code 4 none l Q G) (h : Addr) (z : Int32) (n : Nat) (e0 : Addr × own_Ob) (xs : List Int32) (i : Nat) (hi : i < 1000) (hb : Int32.ofNat i < Int32.ofNat n → i < xs.length)
    (K0 : ¬ Int32.ofNat i < Int32.ofNat n → G 0 0 [e0, (h, .inl (.int, (own_vl xs)))] 20 [.val (.ref h), .val (.int z), .val (.int (Int32.ofNat i)), .val (.int (Int32.ofNat n))] []) (K1 : Int32.ofNat i < Int32.ofNat n → G 0 0 [e0, (h, .inl (.int, (own_vl (xs.set i z))))] 5 [.val (.ref h), .val (.int z), .val (.int ((Int32.ofNat i) + (1 : Int32))), .val (.int (Int32.ofNat n))] []) : G 0 0 [e0, (h, .inl (.int, (own_vl xs)))] 5 [.val (.ref h), .val (.int z), .val (.int (Int32.ofNat i)), .val (.int (Int32.ofNat n))] [] := by
  refine C.iloadN (q := 6) df_5 rfl rfl ?_
  refine C.iloadN (q := 7) df_6 rfl rfl ?_
  refine C.icmpGe (q := 20) (q' := 10) df_7 (by decide) (by decide) rfl (fun h7 => ?_) (fun h7 => ?_)
  · refine C.aloadN (q := 11) df_10 rfl rfl rfl ?_
    refine C.iloadN (q := 12) df_11 rfl rfl ?_
    refine C.iloadN (q := 13) df_12 rfl rfl ?_
    refine C.iastore (q := 14) 1 (H' := [e0, (h, .inl (.int, (own_vl (xs.set i z))))]) df_13 rfl (own_nn hi) (by rw [own_vl_len, own_cn hi]; exact hb h7) (by rw [own_vl_set, own_cn hi]; rfl) rfl ?_
    refine C.iinc (q := 17) (z := (1 : Int32)) (ls' := [.val (.ref h), .val (.int z), .val (.int ((Int32.ofNat i) + (1 : Int32))), .val (.int (Int32.ofNat n))]) df_14 rfl rfl rfl rfl ?_
    refine C.goto (q := 5) df_17 (by decide) (by decide) ?_
    exact K1 h7
  · exact K0 h7
theorem own_lpf {Z : State} {a0 : Array Value} {n0 : Nat} {R : Room} {l : Launch} {Q : Option Value → own_Hs → Prop} {G : Nat → Nat → own_Hs → Nat → List Slot → List Value → Prop} (hw : ∀ d ∈ tables_1, d.before a0 Z = true)
    (C : own_Wk Z n0 R (⟨"java/util/Arrays", "fill", "([II)V"⟩ : MethodName) jdk_65_method_103_code 4 none l Q G) (h : Addr) (z : Int32) (n : Nat) (e0 : Addr × own_Ob) (hn : n < 1000) :
    ∀ (k i : Nat) (xs : List Int32), xs.length = n → i + k = n → (∀ j, G 0 0 [e0, (h, .inl (.int, (own_vl (own_fl z k xs i))))] 20 [.val (.ref h), .val (.int z), .val (.int j), .val (.int (Int32.ofNat n))] []) → G 0 0 [e0, (h, .inl (.int, (own_vl xs)))] 5 [.val (.ref h), .val (.int z), .val (.int (Int32.ofNat i)), .val (.int (Int32.ofNat n))] [] := by
  intro k
  induction k with
  | zero =>
    intro i xs hl hk K
    have hq : ¬ Int32.ofNat i < Int32.ofNat n := by rw [own_lt (by omega) hn]; omega
    exact own_tf hw C h z n e0 xs i (by omega) (fun q => absurd q hq) (fun _ => K _) (fun q => absurd q hq)
  | succ k ih =>
    intro i xs hl hk K
    have hy : Int32.ofNat i < Int32.ofNat n := by rw [own_lt (by omega) hn]; omega
    refine own_tf hw C h z n e0 xs i (by omega) (fun _ => by omega) (fun q => absurd hy q) (fun _ => ?_)
    rw [own_sc]
    exact ih (i + 1) _ (by rw [List.length_set, hl]) (by omega) K
theorem df_0 : decode jdk_65_method_103_code 0 = .ok (.iconst 0, 1) := by decide +kernel
theorem df_1 : decode jdk_65_method_103_code 1 = .ok (.istore_n 2, 1) := by decide +kernel
theorem df_2 : decode jdk_65_method_103_code 2 = .ok (.aload_n 0, 1) := by decide +kernel
theorem df_3 : decode jdk_65_method_103_code 3 = .ok (.arraylength, 1) := by decide +kernel
theorem df_4 : decode jdk_65_method_103_code 4 = .ok (.istore_n 3, 1) := by decide +kernel
theorem df_20 : decode jdk_65_method_103_code 20 = .ok (.return_, 1) := by decide +kernel
theorem own_pn5f : plainFor (⟨"java/util/Arrays", "fill", "([II)V"⟩ : MethodName) = true := by first | exact plainFor_of_name (by first | (simp [plainName, overriddenIn]; done) | decide +kernel) | decide +kernel
set_option maxHeartbeats 4000000 in
theorem own_ef5f (m : MethodId) (x0 : Addr) (x1 : Int32) : entryFrame m #[.ref x0, .int x1] 4 = mkF m 0 #[.val (.ref x0), .val (.int x1), .unset, .unset] [] := by first | (simp [entryFrame, mkF, argsToLocals, Value.category, maxLocals]; done) | rfl
set_option maxRecDepth 65536 in
set_option maxHeartbeats 40000000 in
theorem own_c5f (l : Launch) (Z : State) (a0 : Array Value) (n0 : Nat) (hw : ∀ d ∈ tables_1, d.before a0 Z = true) (ws : List Jvm.Cond) (h : Addr) (z : Int32) (n : Nat) (e0 : Addr × own_Ob) (xs : List Int32) (hn : n < 1000) (hl : xs.length = n) :
    own_Con l Z n0 (⟨"java/util/Arrays", "fill", "([II)V"⟩ : MethodName) jdk_65_method_103_code 4 none ws ({ frames := 0, cells := 0, slots := 0, locals := 0 } : Room) #[.ref h, .int z] [e0, (h, .inl (.int, (own_vl xs)))] (fun v H' => v = none ∧ H' = [e0, (h, .inl (.int, (own_vl (own_fl z n xs 0))))]) := by
  refine own_con own_pn5f (fun m_ => own_ef5f m_ h z) ?_
  intro G C
  refine C.iconst (q := 1) (z := (0 : Int32)) df_0 rfl rfl ?_
  refine C.istoreN (q := 2) (ls' := [.val (.ref h), .val (.int z), .val (.int (0 : Int32)), .unset]) df_1 rfl rfl ?_
  refine C.aloadN (q := 3) df_2 rfl rfl rfl ?_
  refine C.alen (q := 4) 1 (z := (Int32.ofNat n)) df_3 rfl (by rw [own_vl_len, hl]) rfl ?_
  refine C.istoreN (q := 5) (ls' := [.val (.ref h), .val (.int z), .val (.int (0 : Int32)), .val (.int (Int32.ofNat n))]) df_4 rfl rfl ?_
  refine own_lpf hw C h z n e0 hn n 0 xs hl (Nat.zero_add _) (fun j => ?_)
  exact C.retV df_20 (by decide) (by decide) ⟨rfl, rfl⟩
theorem own_rp {kc : Nat} (h : kc < 1000) : List.replicate (Int32.ofNat kc).toNatClampNeg (defaultValue .int) = own_vl (List.replicate kc 0) := by
  rw [own_cn h, own_vl, List.map_replicate]; rfl
theorem di_0 : decode prog_11_method_1_code 0 = .ok (.aload_n 0, 1) := by decide +kernel
theorem di_1 : decode prog_11_method_1_code 1 = .ok (.invokespecial 1, 3) := by decide +kernel
theorem di_4 : decode prog_11_method_1_code 4 = .ok (.aload_n 0, 1) := by decide +kernel
theorem di_5 : decode prog_11_method_1_code 5 = .ok (.iload_n 1, 1) := by decide +kernel
theorem di_6 : decode prog_11_method_1_code 6 = .ok (.newarray .int, 2) := by decide +kernel
theorem di_8 : decode prog_11_method_1_code 8 = .ok (.putfield 7, 3) := by decide +kernel
theorem di_11 : decode prog_11_method_1_code 11 = .ok (.aload_n 0, 1) := by decide +kernel
theorem di_12 : decode prog_11_method_1_code 12 = .ok (.getfield 7, 3) := by decide +kernel
theorem di_15 : decode prog_11_method_1_code 15 = .ok (.iconst (-1), 1) := by decide +kernel
theorem di_16 : decode prog_11_method_1_code 16 = .ok (.invokestatic 13, 3) := by decide +kernel
theorem di_19 : decode prog_11_method_1_code 19 = .ok (.aload_n 0, 1) := by decide +kernel
theorem di_20 : decode prog_11_method_1_code 20 = .ok (.iload_n 2, 1) := by decide +kernel
theorem di_21 : decode prog_11_method_1_code 21 = .ok (.newarray .int, 2) := by decide +kernel
theorem di_23 : decode prog_11_method_1_code 23 = .ok (.putfield 19, 3) := by decide +kernel
theorem di_26 : decode prog_11_method_1_code 26 = .ok (.aload_n 0, 1) := by decide +kernel
theorem di_27 : decode prog_11_method_1_code 27 = .ok (.iload_n 1, 1) := by decide +kernel
theorem di_28 : decode prog_11_method_1_code 28 = .ok (.newarray .int, 2) := by decide +kernel
theorem di_30 : decode prog_11_method_1_code 30 = .ok (.putfield 22, 3) := by decide +kernel
theorem di_33 : decode prog_11_method_1_code 33 = .ok (.return_, 1) := by decide +kernel
theorem own_pn5 : plainFor (⟨"com/example/terms_to_transitions/termstotransitions/equivalence/TransitionLists", "<init>", "(II)V"⟩ : MethodName) = true := by first | exact plainFor_of_name (by first | (simp [plainName, overriddenIn]; done) | decide +kernel) | decide +kernel
set_option maxHeartbeats 4000000 in
theorem own_ef5 (m : MethodId) (x0 : Addr) (x1 : Int32) (x2 : Int32) : entryFrame m #[.ref x0, .int x1, .int x2] 3 = mkF m 0 #[.val (.ref x0), .val (.int x1), .val (.int x2)] [] := by first | (simp [entryFrame, mkF, argsToLocals, Value.category, maxLocals]; done) | rfl
set_option maxRecDepth 65536 in
set_option maxHeartbeats 40000000 in
theorem own_c5 (l : Launch) (Z : State) (a0 : Array Value) (n0 : Nat) (hw : ∀ d ∈ tables_1, d.before a0 Z = true) (ws : List Jvm.Cond) (o : Addr) (kc : Nat) (hk : kc ≤ 3) :
    own_Con l Z n0 (⟨"com/example/terms_to_transitions/termstotransitions/equivalence/TransitionLists", "<init>", "(II)V"⟩ : MethodName) prog_11_method_1_code 3 none ws ({ frames := 1, cells := 3, slots := 9, locals := 20 } : Room) #[.ref o, .int (Int32.ofNat kc), .int (3 : Int32)] [(o, .inr ("com/example/terms_to_transitions/termstotransitions/equivalence/TransitionLists", [("heads", "[I", .null), ("nexts", "[I", .null), ("keysMet", "[I", .null), ("keysMetCount", "I", .int (0 : Int32))]))] (fun v H' => v = none ∧ ∃ h x m, H' = [(o, .inr ("com/example/terms_to_transitions/termstotransitions/equivalence/TransitionLists", [("heads", "[I", .ref h), ("nexts", "[I", .ref x), ("keysMet", "[I", .ref m), ("keysMetCount", "I", .int ((own_s0 kc).2.2.2))])), (h, .inl (.int, (own_vl (own_s0 kc).1))), (x, .inl (.int, (own_vl (own_s0 kc).2.1))), (m, .inl (.int, (own_vl (own_s0 kc).2.2.1)))]) := by
  refine own_con own_pn5 (fun m_ => own_ef5 m_ o (Int32.ofNat kc) (3 : Int32)) ?_
  intro G C
  refine C.aloadN (q := 1) di_0 rfl rfl rfl ?_
  refine C.initO (q := 4) 0 di_1 (hw _ (List.mem_of_getElem? (i := 7) rfl)) (hw _ (List.mem_of_getElem? (i := 8) rfl)) (hw _ (List.mem_of_getElem? (i := 9) rfl)) rfl (by decide) (Nat.le_of_eq rfl) (by decide) rfl ?_
  refine C.aloadN (q := 5) di_4 rfl rfl rfl ?_
  refine C.iloadN (q := 6) di_5 rfl rfl ?_
  refine C.newarr (q := 8) 3 (ty := .int) (vs := (own_vl (List.replicate kc 0))) (k' := 1) (n' := 3) di_6 (hw _ (List.mem_of_getElem? (i := 10) rfl)) (own_nn (by omega)) (by rw [own_cn (by omega)]; exact hk) (by decide) (by decide) (by decide) rfl (own_rp (by omega)) rfl rfl rfl (fun a6 => ?_)
  show G 1 3 [(o, .inr ("com/example/terms_to_transitions/termstotransitions/equivalence/TransitionLists", [("heads", "[I", .null), ("nexts", "[I", .null), ("keysMet", "[I", .null), ("keysMetCount", "I", .int (0 : Int32))])), (a6, .inl (.int, (own_vl (List.replicate kc 0))))] 8 [.val (.ref o), .val (.int (Int32.ofNat kc)), .val (.int (3 : Int32))] [.ref a6, .ref o]
  refine C.putf (q := 11) 0 0 (ty := (.array .int)) (H' := [(o, .inr ("com/example/terms_to_transitions/termstotransitions/equivalence/TransitionLists", [("heads", "[I", .ref a6), ("nexts", "[I", .null), ("keysMet", "[I", .null), ("keysMetCount", "I", .int (0 : Int32))])), (a6, .inl (.int, (own_vl (List.replicate kc 0))))]) di_8 (hw _ (List.mem_of_getElem? (i := 11) rfl)) (Or.inr ⟨(hw _ (List.mem_of_getElem? (i := 12) rfl)), rfl, rfl⟩) (hw _ (List.mem_of_getElem? (i := 2) rfl)) rfl rfl (by decide) rfl rfl rfl rfl ?_
  refine C.aloadN (q := 12) di_11 rfl rfl rfl ?_
  refine C.getf (q := 15) 0 0 (v := .ref a6) di_12 (hw _ (List.mem_of_getElem? (i := 11) rfl)) rfl rfl rfl ?_
  refine C.iconst (q := 16) (z := (-1 : Int32)) di_15 rfl rfl ?_
  refine C.callS (q := 19) 0 [.ref a6, .int (-1 : Int32)] [] di_16 (hw _ (List.mem_of_getElem? (i := 13) rfl)) (hw _ (List.mem_of_getElem? (i := 14) rfl)) (hw _ (List.mem_of_getElem? (i := 15) rfl)) (hw _ (List.mem_of_getElem? (i := 16) rfl)) (own_c5f l Z a0 n0 hw [] a6 (-1) kc _ (List.replicate kc 0) (by omega) List.length_replicate) (by decide) (by decide) (by decide) own_pd0 rfl rfl rfl (Nat.le_of_eq rfl) (by decide) (by decide) rfl ?_
  rintro _ _ ⟨rfl, hE⟩
  rw [hE]
  show G 1 3 [(o, .inr ("com/example/terms_to_transitions/termstotransitions/equivalence/TransitionLists", [("heads", "[I", .ref a6), ("nexts", "[I", .null), ("keysMet", "[I", .null), ("keysMetCount", "I", .int (0 : Int32))])), (a6, .inl (.int, (own_vl (own_fl (-1) kc (List.replicate kc 0) 0))))] 19 [.val (.ref o), .val (.int (Int32.ofNat kc)), .val (.int (3 : Int32))] []
  refine C.aloadN (q := 20) di_19 rfl rfl rfl ?_
  refine C.iloadN (q := 21) di_20 rfl rfl ?_
  refine C.newarr (q := 23) 3 (ty := .int) (vs := [.int (0 : Int32), .int (0 : Int32), .int (0 : Int32)]) (k' := 2) (n' := 6) di_21 (hw _ (List.mem_of_getElem? (i := 10) rfl)) (by decide) (by decide) (by decide) (by decide) (by decide) rfl rfl rfl rfl rfl (fun a21 => ?_)
  show G 2 6 [(o, .inr ("com/example/terms_to_transitions/termstotransitions/equivalence/TransitionLists", [("heads", "[I", .ref a6), ("nexts", "[I", .null), ("keysMet", "[I", .null), ("keysMetCount", "I", .int (0 : Int32))])), (a6, .inl (.int, (own_vl (own_fl (-1) kc (List.replicate kc 0) 0)))), (a21, .inl (.int, [.int (0 : Int32), .int (0 : Int32), .int (0 : Int32)]))] 23 [.val (.ref o), .val (.int (Int32.ofNat kc)), .val (.int (3 : Int32))] [.ref a21, .ref o]
  refine C.putf (q := 26) 0 1 (ty := (.array .int)) (H' := [(o, .inr ("com/example/terms_to_transitions/termstotransitions/equivalence/TransitionLists", [("heads", "[I", .ref a6), ("nexts", "[I", .ref a21), ("keysMet", "[I", .null), ("keysMetCount", "I", .int (0 : Int32))])), (a6, .inl (.int, (own_vl (own_fl (-1) kc (List.replicate kc 0) 0)))), (a21, .inl (.int, [.int (0 : Int32), .int (0 : Int32), .int (0 : Int32)]))]) di_23 (hw _ (List.mem_of_getElem? (i := 17) rfl)) (Or.inr ⟨(hw _ (List.mem_of_getElem? (i := 18) rfl)), rfl, rfl⟩) (hw _ (List.mem_of_getElem? (i := 2) rfl)) rfl rfl (by decide) rfl rfl rfl rfl ?_
  refine C.aloadN (q := 27) di_26 rfl rfl rfl ?_
  refine C.iloadN (q := 28) di_27 rfl rfl ?_
  refine C.newarr (q := 30) 3 (ty := .int) (vs := (own_vl (List.replicate kc 0))) (k' := 3) (n' := 9) di_28 (hw _ (List.mem_of_getElem? (i := 10) rfl)) (own_nn (by omega)) (by rw [own_cn (by omega)]; exact hk) (by decide) (by decide) (by decide) rfl (own_rp (by omega)) rfl rfl rfl (fun a28 => ?_)
  show G 3 9 [(o, .inr ("com/example/terms_to_transitions/termstotransitions/equivalence/TransitionLists", [("heads", "[I", .ref a6), ("nexts", "[I", .ref a21), ("keysMet", "[I", .null), ("keysMetCount", "I", .int (0 : Int32))])), (a6, .inl (.int, (own_vl (own_fl (-1) kc (List.replicate kc 0) 0)))), (a21, .inl (.int, [.int (0 : Int32), .int (0 : Int32), .int (0 : Int32)])), (a28, .inl (.int, (own_vl (List.replicate kc 0))))] 30 [.val (.ref o), .val (.int (Int32.ofNat kc)), .val (.int (3 : Int32))] [.ref a28, .ref o]
  refine C.putf (q := 33) 0 2 (ty := (.array .int)) (H' := [(o, .inr ("com/example/terms_to_transitions/termstotransitions/equivalence/TransitionLists", [("heads", "[I", .ref a6), ("nexts", "[I", .ref a21), ("keysMet", "[I", .ref a28), ("keysMetCount", "I", .int (0 : Int32))])), (a6, .inl (.int, (own_vl (own_fl (-1) kc (List.replicate kc 0) 0)))), (a21, .inl (.int, [.int (0 : Int32), .int (0 : Int32), .int (0 : Int32)])), (a28, .inl (.int, (own_vl (List.replicate kc 0))))]) di_30 (hw _ (List.mem_of_getElem? (i := 19) rfl)) (Or.inr ⟨(hw _ (List.mem_of_getElem? (i := 20) rfl)), rfl, rfl⟩) (hw _ (List.mem_of_getElem? (i := 2) rfl)) rfl rfl (by decide) rfl rfl rfl rfl ?_
  exact C.retV di_33 (by decide) (by decide) ⟨rfl, a6, a21, a28, rfl⟩
def own_okB (s : own_TL) (t k : Nat) : Bool := decide (k < s.1.length) && decide (t < s.2.1.length) && (!decide (s.1.getD k 0 = -1) || (!decide (s.2.2.2 < 0) && decide (s.2.2.2.toNatClampNeg < s.2.2.1.length)))
theorem own_okB.ok {s : own_TL} {t k : Nat} (h : own_okB s t k = true) : own_ok s t k := by
  simp only [own_okB, Bool.and_eq_true, Bool.or_eq_true, Bool.not_eq_true', decide_eq_true_eq, decide_eq_false_iff_not] at h
  exact ⟨h.1.1, h.1.2, fun z => h.2.elim (fun q => absurd z q) id⟩
def own_fB (s : own_TL) (i : Nat) : Bool := decide (i < s.2.2.1.length) && !decide (s.2.2.1.getD i 0 < 0) && decide ((s.2.2.1.getD i 0).toNatClampNeg < s.1.length)
theorem own_fB.ok {s : own_TL} {i : Nat} (h : own_fB s i = true) : i < s.2.2.1.length ∧ ¬ s.2.2.1.getD i 0 < 0 ∧ (s.2.2.1.getD i 0).toNatClampNeg < s.1.length := by
  simp only [own_fB, Bool.and_eq_true, Bool.not_eq_true', decide_eq_true_eq, decide_eq_false_iff_not] at h
  exact ⟨h.1.1, h.1.2, h.2⟩
theorem own_ie {i n : Nat} (h : i < 1000) (g : n < 1000) : Int32.ofNat i = Int32.ofNat n ↔ i = n := by rw [← Int32.toInt_inj, own_ti h, own_ti g]; omega
theorem own_nnm (a : Int32) : 0 ≤ (a &&& (2147483647 : Int32)).toInt := by rw [c_mask a 2147483647 31 (by decide) (by decide)]; omega
theorem own_kc (a : Int32) : ∃ n : Nat, (1 ≤ n ∧ n ≤ 3) ∧ (1 : Int32) + (a &&& (2147483647 : Int32)) % (3 : Int32) = Int32.ofNat n := by
  have m := own_nnm a
  have e := (c_irem (a &&& 2147483647) 3 3 rfl).1 m
  generalize (a &&& (2147483647 : Int32)) % (3 : Int32) = u at *
  have d := c_iadd 1 u; have r := rng32 (1 + u)
  simp only [Int32.reduceToInt] at d
  exact ⟨((1 : Int32) + u).toInt.toNat, by omega, own_ofInt (by omega) (by omega)⟩
theorem own_ky (a : Int32) {kc : Nat} (h : 1 ≤ kc ∧ kc ≤ 3) : ∃ n : Nat, n < kc ∧ (a &&& (2147483647 : Int32)) % (Int32.ofNat kc) = Int32.ofNat n := by
  have m := own_nnm a; have e2 := own_ti (n := kc) (by omega)
  have e := (c_iremV (a &&& 2147483647) (Int32.ofNat kc)).1 m (by omega)
  exact ⟨((a &&& (2147483647 : Int32)) % (Int32.ofNat kc)).toInt.toNat, by omega, own_ofInt (by omega) (by omega)⟩
theorem own_k0 {kc : Nat} (h : 1 ≤ kc ∧ kc ≤ 3) : Int32.ofNat kc ≠ 0 := fun z => by
  have e := own_ti (n := kc) (by omega); rw [z] at e; simp only [Int32.reduceToInt] at e; omega
theorem own_sd (a : Int32) : ∃ n : Nat, n < 3 ∧ (a &&& (2147483647 : Int32)) % (3 : Int32) = Int32.ofNat n := own_ky a (kc := 3) (by decide)
theorem own_dd (a : Int32) : ∃ n : Nat, n < 2 ∧ (1 : Int32) + (a &&& (1 : Int32)) = Int32.ofNat (n + 1) := by
  rcases and_one a with e | e
  · exact ⟨0, by decide, by rw [e]; rfl⟩
  · exact ⟨1, by decide, by rw [e]; rfl⟩
theorem own_t1 {s d : Nat} (hs : s < 3) (hd : d < 2) : (Int32.ofNat s + Int32.ofNat (d + 1)) % (3 : Int32) = Int32.ofNat ((s + (d + 1)) % 3) := by
  have : ∀ s : Fin 3, ∀ d : Fin 2, (Int32.ofNat s.val + Int32.ofNat (d.val + 1)) % (3 : Int32) = Int32.ofNat ((s.val + (d.val + 1)) % 3) := by decide +kernel
  exact this ⟨s, hs⟩ ⟨d, hd⟩
theorem own_t2 {s d : Nat} (hs : s < 3) (hd : d < 2) : (Int32.ofNat s + (2 : Int32) * Int32.ofNat (d + 1)) % (3 : Int32) = Int32.ofNat ((s + 2 * (d + 1)) % 3) := by
  have : ∀ s : Fin 3, ∀ d : Fin 2, (Int32.ofNat s.val + (2 : Int32) * Int32.ofNat (d.val + 1)) % (3 : Int32) = Int32.ofNat ((s.val + 2 * (d.val + 1)) % 3) := by decide +kernel
  exact this ⟨s, hs⟩ ⟨d, hd⟩
theorem own_n4 (a : Int32) : (a &&& (2147483647 : Int32)) % (4 : Int32) = 0 ∨ (a &&& (2147483647 : Int32)) % (4 : Int32) = 1 ∨ (a &&& (2147483647 : Int32)) % (4 : Int32) = 2 ∨ (a &&& (2147483647 : Int32)) % (4 : Int32) = 3 := by
  have m := own_nnm a
  have e := (c_irem (a &&& 2147483647) 4 4 rfl).1 m
  have h : ∀ n : Nat, n < 1000 → ((a &&& (2147483647 : Int32)) % (4 : Int32)).toInt = n → (a &&& (2147483647 : Int32)) % (4 : Int32) = Int32.ofNat n := fun n hn q => own_ofInt q hn
  have : ((a &&& (2147483647 : Int32)) % (4 : Int32)).toInt = (0 : Nat) ∨ ((a &&& (2147483647 : Int32)) % (4 : Int32)).toInt = (1 : Nat) ∨ ((a &&& (2147483647 : Int32)) % (4 : Int32)).toInt = (2 : Nat) ∨ ((a &&& (2147483647 : Int32)) % (4 : Int32)).toInt = (3 : Nat) := by omega
  rcases this with q | q | q | q
  · exact Or.inl (h 0 (by decide) q)
  · exact Or.inr (Or.inl (h 1 (by decide) q))
  · exact Or.inr (Or.inr (Or.inl (h 2 (by decide) q)))
  · exact Or.inr (Or.inr (Or.inr (h 3 (by decide) q)))
set_option maxRecDepth 65536 in
set_option maxHeartbeats 40000000 in
theorem own_f0_000 : ∀ kc : Nat, kc < 4 → ∀ s : Nat, s < 3 → ∀ d : Nat, d < 2 → (if 1 ≤ kc then (decide ((own_s0 kc).2.1.length = 3) && (decide ((own_s0 kc).2.2.2 = 0))) else true) = true := by
  have h : ((List.range 4).all fun kc => (List.range 3).all fun s => (List.range 2).all fun d => (if 1 ≤ kc then (decide ((own_s0 kc).2.1.length = 3) && (decide ((own_s0 kc).2.2.2 = 0))) else true)) = true := by decide +kernel
  simpa only [List.all_eq_true, List.mem_range] using h
set_option maxRecDepth 65536 in
set_option maxHeartbeats 40000000 in
theorem own_f1_000 : ∀ kc : Nat, kc < 4 → ∀ k0 : Nat, k0 < 3 → ∀ s : Nat, s < 3 → ∀ d : Nat, d < 2 → (if 1 ≤ kc ∧ k0 < kc then (own_okB (own_s0 kc) s k0 && (decide ((own_add (own_s0 kc) s k0).2.1.length = 3) && (decide ((own_add (own_s0 kc) s k0).2.2.2 = 1) && (decide (((own_add (own_s0 kc) s k0).2.1.getD s 0) = -1) && (own_fB (own_add (own_s0 kc) s k0) 0 && (decide (((own_add (own_s0 kc) s k0).1.getD ((own_add (own_s0 kc) s k0).2.2.1.getD 0 0).toNatClampNeg 0) = Int32.ofNat s))))))) else true) = true := by
  have h : ((List.range 4).all fun kc => (List.range 3).all fun k0 => (List.range 3).all fun s => (List.range 2).all fun d => (if 1 ≤ kc ∧ k0 < kc then (own_okB (own_s0 kc) s k0 && (decide ((own_add (own_s0 kc) s k0).2.1.length = 3) && (decide ((own_add (own_s0 kc) s k0).2.2.2 = 1) && (decide (((own_add (own_s0 kc) s k0).2.1.getD s 0) = -1) && (own_fB (own_add (own_s0 kc) s k0) 0 && (decide (((own_add (own_s0 kc) s k0).1.getD ((own_add (own_s0 kc) s k0).2.2.1.getD 0 0).toNatClampNeg 0) = Int32.ofNat s))))))) else true)) = true := by decide +kernel
  simpa only [List.all_eq_true, List.mem_range] using h
set_option maxRecDepth 65536 in
set_option maxHeartbeats 40000000 in
theorem own_f2_100 : ∀ kc : Nat, kc < 4 → ∀ k0 : Nat, k0 < 3 → ∀ k1 : Nat, k1 < 3 → ∀ s : Nat, s < 3 → ∀ d : Nat, d < 2 → (if 1 ≤ kc ∧ k0 < kc ∧ k1 < kc ∧ k1 = k0 then (own_okB (own_s0 kc) s k0 && (own_okB (own_add (own_s0 kc) s k0) ((s + (d + 1)) % 3) k1 && (decide ((own_add (own_add (own_s0 kc) s k0) ((s + (d + 1)) % 3) k1).2.1.length = 3) && (decide ((own_add (own_add (own_s0 kc) s k0) ((s + (d + 1)) % 3) k1).2.2.2 = 1) && (decide (((own_add (own_add (own_s0 kc) s k0) ((s + (d + 1)) % 3) k1).2.1.getD s 0) = -1) && (decide (((own_add (own_add (own_s0 kc) s k0) ((s + (d + 1)) % 3) k1).2.1.getD ((s + (d + 1)) % 3) 0) = Int32.ofNat s) && (own_fB (own_add (own_add (own_s0 kc) s k0) ((s + (d + 1)) % 3) k1) 0 && (decide (((own_add (own_add (own_s0 kc) s k0) ((s + (d + 1)) % 3) k1).1.getD ((own_add (own_add (own_s0 kc) s k0) ((s + (d + 1)) % 3) k1).2.2.1.getD 0 0).toNatClampNeg 0) = Int32.ofNat ((s + (d + 1)) % 3)))))))))) else true) = true := by
  have h : ((List.range 4).all fun kc => (List.range 3).all fun k0 => (List.range 3).all fun k1 => (List.range 3).all fun s => (List.range 2).all fun d => (if 1 ≤ kc ∧ k0 < kc ∧ k1 < kc ∧ k1 = k0 then (own_okB (own_s0 kc) s k0 && (own_okB (own_add (own_s0 kc) s k0) ((s + (d + 1)) % 3) k1 && (decide ((own_add (own_add (own_s0 kc) s k0) ((s + (d + 1)) % 3) k1).2.1.length = 3) && (decide ((own_add (own_add (own_s0 kc) s k0) ((s + (d + 1)) % 3) k1).2.2.2 = 1) && (decide (((own_add (own_add (own_s0 kc) s k0) ((s + (d + 1)) % 3) k1).2.1.getD s 0) = -1) && (decide (((own_add (own_add (own_s0 kc) s k0) ((s + (d + 1)) % 3) k1).2.1.getD ((s + (d + 1)) % 3) 0) = Int32.ofNat s) && (own_fB (own_add (own_add (own_s0 kc) s k0) ((s + (d + 1)) % 3) k1) 0 && (decide (((own_add (own_add (own_s0 kc) s k0) ((s + (d + 1)) % 3) k1).1.getD ((own_add (own_add (own_s0 kc) s k0) ((s + (d + 1)) % 3) k1).2.2.1.getD 0 0).toNatClampNeg 0) = Int32.ofNat ((s + (d + 1)) % 3)))))))))) else true)) = true := by decide +kernel
  simpa only [List.all_eq_true, List.mem_range] using h
set_option maxRecDepth 65536 in
set_option maxHeartbeats 40000000 in
theorem own_f2_000 : ∀ kc : Nat, kc < 4 → ∀ k0 : Nat, k0 < 3 → ∀ k1 : Nat, k1 < 3 → ∀ s : Nat, s < 3 → ∀ d : Nat, d < 2 → (if 1 ≤ kc ∧ k0 < kc ∧ k1 < kc ∧ ¬ k1 = k0 then (own_okB (own_s0 kc) s k0 && (own_okB (own_add (own_s0 kc) s k0) ((s + (d + 1)) % 3) k1 && (decide ((own_add (own_add (own_s0 kc) s k0) ((s + (d + 1)) % 3) k1).2.1.length = 3) && (decide ((own_add (own_add (own_s0 kc) s k0) ((s + (d + 1)) % 3) k1).2.2.2 = 2) && (decide (((own_add (own_add (own_s0 kc) s k0) ((s + (d + 1)) % 3) k1).2.1.getD s 0) = -1) && (decide (((own_add (own_add (own_s0 kc) s k0) ((s + (d + 1)) % 3) k1).2.1.getD ((s + (d + 1)) % 3) 0) = -1) && (own_fB (own_add (own_add (own_s0 kc) s k0) ((s + (d + 1)) % 3) k1) 0 && (decide (((own_add (own_add (own_s0 kc) s k0) ((s + (d + 1)) % 3) k1).1.getD ((own_add (own_add (own_s0 kc) s k0) ((s + (d + 1)) % 3) k1).2.2.1.getD 0 0).toNatClampNeg 0) = Int32.ofNat s) && (own_fB (own_add (own_add (own_s0 kc) s k0) ((s + (d + 1)) % 3) k1) 1 && (decide (((own_add (own_add (own_s0 kc) s k0) ((s + (d + 1)) % 3) k1).1.getD ((own_add (own_add (own_s0 kc) s k0) ((s + (d + 1)) % 3) k1).2.2.1.getD 1 0).toNatClampNeg 0) = Int32.ofNat ((s + (d + 1)) % 3)))))))))))) else true) = true := by
  have h : ((List.range 4).all fun kc => (List.range 3).all fun k0 => (List.range 3).all fun k1 => (List.range 3).all fun s => (List.range 2).all fun d => (if 1 ≤ kc ∧ k0 < kc ∧ k1 < kc ∧ ¬ k1 = k0 then (own_okB (own_s0 kc) s k0 && (own_okB (own_add (own_s0 kc) s k0) ((s + (d + 1)) % 3) k1 && (decide ((own_add (own_add (own_s0 kc) s k0) ((s + (d + 1)) % 3) k1).2.1.length = 3) && (decide ((own_add (own_add (own_s0 kc) s k0) ((s + (d + 1)) % 3) k1).2.2.2 = 2) && (decide (((own_add (own_add (own_s0 kc) s k0) ((s + (d + 1)) % 3) k1).2.1.getD s 0) = -1) && (decide (((own_add (own_add (own_s0 kc) s k0) ((s + (d + 1)) % 3) k1).2.1.getD ((s + (d + 1)) % 3) 0) = -1) && (own_fB (own_add (own_add (own_s0 kc) s k0) ((s + (d + 1)) % 3) k1) 0 && (decide (((own_add (own_add (own_s0 kc) s k0) ((s + (d + 1)) % 3) k1).1.getD ((own_add (own_add (own_s0 kc) s k0) ((s + (d + 1)) % 3) k1).2.2.1.getD 0 0).toNatClampNeg 0) = Int32.ofNat s) && (own_fB (own_add (own_add (own_s0 kc) s k0) ((s + (d + 1)) % 3) k1) 1 && (decide (((own_add (own_add (own_s0 kc) s k0) ((s + (d + 1)) % 3) k1).1.getD ((own_add (own_add (own_s0 kc) s k0) ((s + (d + 1)) % 3) k1).2.2.1.getD 1 0).toNatClampNeg 0) = Int32.ofNat ((s + (d + 1)) % 3)))))))))))) else true)) = true := by decide +kernel
  simpa only [List.all_eq_true, List.mem_range] using h
set_option maxRecDepth 65536 in
set_option maxHeartbeats 40000000 in
theorem own_f3_111 : ∀ kc : Nat, kc < 4 → ∀ k0 : Nat, k0 < 3 → ∀ k1 : Nat, k1 < 3 → ∀ k2 : Nat, k2 < 3 → ∀ s : Nat, s < 3 → ∀ d : Nat, d < 2 → (if 1 ≤ kc ∧ k0 < kc ∧ k1 < kc ∧ k2 < kc ∧ k1 = k0 ∧ k2 = k0 ∧ k2 = k1 then (own_okB (own_s0 kc) s k0 && (own_okB (own_add (own_s0 kc) s k0) ((s + (d + 1)) % 3) k1 && (own_okB (own_add (own_add (own_s0 kc) s k0) ((s + (d + 1)) % 3) k1) ((s + 2 * (d + 1)) % 3) k2 && (decide ((own_add (own_add (own_add (own_s0 kc) s k0) ((s + (d + 1)) % 3) k1) ((s + 2 * (d + 1)) % 3) k2).2.1.length = 3) && (decide ((own_add (own_add (own_add (own_s0 kc) s k0) ((s + (d + 1)) % 3) k1) ((s + 2 * (d + 1)) % 3) k2).2.2.2 = 1) && (decide (((own_add (own_add (own_add (own_s0 kc) s k0) ((s + (d + 1)) % 3) k1) ((s + 2 * (d + 1)) % 3) k2).2.1.getD s 0) = -1) && (decide (((own_add (own_add (own_add (own_s0 kc) s k0) ((s + (d + 1)) % 3) k1) ((s + 2 * (d + 1)) % 3) k2).2.1.getD ((s + (d + 1)) % 3) 0) = Int32.ofNat s) && (decide (((own_add (own_add (own_add (own_s0 kc) s k0) ((s + (d + 1)) % 3) k1) ((s + 2 * (d + 1)) % 3) k2).2.1.getD ((s + 2 * (d + 1)) % 3) 0) = Int32.ofNat ((s + (d + 1)) % 3)) && (own_fB (own_add (own_add (own_add (own_s0 kc) s k0) ((s + (d + 1)) % 3) k1) ((s + 2 * (d + 1)) % 3) k2) 0 && (decide (((own_add (own_add (own_add (own_s0 kc) s k0) ((s + (d + 1)) % 3) k1) ((s + 2 * (d + 1)) % 3) k2).1.getD ((own_add (own_add (own_add (own_s0 kc) s k0) ((s + (d + 1)) % 3) k1) ((s + 2 * (d + 1)) % 3) k2).2.2.1.getD 0 0).toNatClampNeg 0) = Int32.ofNat ((s + 2 * (d + 1)) % 3)))))))))))) else true) = true := by
  have h : ((List.range 4).all fun kc => (List.range 3).all fun k0 => (List.range 3).all fun k1 => (List.range 3).all fun k2 => (List.range 3).all fun s => (List.range 2).all fun d => (if 1 ≤ kc ∧ k0 < kc ∧ k1 < kc ∧ k2 < kc ∧ k1 = k0 ∧ k2 = k0 ∧ k2 = k1 then (own_okB (own_s0 kc) s k0 && (own_okB (own_add (own_s0 kc) s k0) ((s + (d + 1)) % 3) k1 && (own_okB (own_add (own_add (own_s0 kc) s k0) ((s + (d + 1)) % 3) k1) ((s + 2 * (d + 1)) % 3) k2 && (decide ((own_add (own_add (own_add (own_s0 kc) s k0) ((s + (d + 1)) % 3) k1) ((s + 2 * (d + 1)) % 3) k2).2.1.length = 3) && (decide ((own_add (own_add (own_add (own_s0 kc) s k0) ((s + (d + 1)) % 3) k1) ((s + 2 * (d + 1)) % 3) k2).2.2.2 = 1) && (decide (((own_add (own_add (own_add (own_s0 kc) s k0) ((s + (d + 1)) % 3) k1) ((s + 2 * (d + 1)) % 3) k2).2.1.getD s 0) = -1) && (decide (((own_add (own_add (own_add (own_s0 kc) s k0) ((s + (d + 1)) % 3) k1) ((s + 2 * (d + 1)) % 3) k2).2.1.getD ((s + (d + 1)) % 3) 0) = Int32.ofNat s) && (decide (((own_add (own_add (own_add (own_s0 kc) s k0) ((s + (d + 1)) % 3) k1) ((s + 2 * (d + 1)) % 3) k2).2.1.getD ((s + 2 * (d + 1)) % 3) 0) = Int32.ofNat ((s + (d + 1)) % 3)) && (own_fB (own_add (own_add (own_add (own_s0 kc) s k0) ((s + (d + 1)) % 3) k1) ((s + 2 * (d + 1)) % 3) k2) 0 && (decide (((own_add (own_add (own_add (own_s0 kc) s k0) ((s + (d + 1)) % 3) k1) ((s + 2 * (d + 1)) % 3) k2).1.getD ((own_add (own_add (own_add (own_s0 kc) s k0) ((s + (d + 1)) % 3) k1) ((s + 2 * (d + 1)) % 3) k2).2.2.1.getD 0 0).toNatClampNeg 0) = Int32.ofNat ((s + 2 * (d + 1)) % 3)))))))))))) else true)) = true := by decide +kernel
  simpa only [List.all_eq_true, List.mem_range] using h
set_option maxRecDepth 65536 in
set_option maxHeartbeats 40000000 in
theorem own_f3_100 : ∀ kc : Nat, kc < 4 → ∀ k0 : Nat, k0 < 3 → ∀ k1 : Nat, k1 < 3 → ∀ k2 : Nat, k2 < 3 → ∀ s : Nat, s < 3 → ∀ d : Nat, d < 2 → (if 1 ≤ kc ∧ k0 < kc ∧ k1 < kc ∧ k2 < kc ∧ k1 = k0 ∧ ¬ k2 = k0 ∧ ¬ k2 = k1 then (own_okB (own_s0 kc) s k0 && (own_okB (own_add (own_s0 kc) s k0) ((s + (d + 1)) % 3) k1 && (own_okB (own_add (own_add (own_s0 kc) s k0) ((s + (d + 1)) % 3) k1) ((s + 2 * (d + 1)) % 3) k2 && (decide ((own_add (own_add (own_add (own_s0 kc) s k0) ((s + (d + 1)) % 3) k1) ((s + 2 * (d + 1)) % 3) k2).2.1.length = 3) && (decide ((own_add (own_add (own_add (own_s0 kc) s k0) ((s + (d + 1)) % 3) k1) ((s + 2 * (d + 1)) % 3) k2).2.2.2 = 2) && (decide (((own_add (own_add (own_add (own_s0 kc) s k0) ((s + (d + 1)) % 3) k1) ((s + 2 * (d + 1)) % 3) k2).2.1.getD s 0) = -1) && (decide (((own_add (own_add (own_add (own_s0 kc) s k0) ((s + (d + 1)) % 3) k1) ((s + 2 * (d + 1)) % 3) k2).2.1.getD ((s + (d + 1)) % 3) 0) = Int32.ofNat s) && (decide (((own_add (own_add (own_add (own_s0 kc) s k0) ((s + (d + 1)) % 3) k1) ((s + 2 * (d + 1)) % 3) k2).2.1.getD ((s + 2 * (d + 1)) % 3) 0) = -1) && (own_fB (own_add (own_add (own_add (own_s0 kc) s k0) ((s + (d + 1)) % 3) k1) ((s + 2 * (d + 1)) % 3) k2) 0 && (decide (((own_add (own_add (own_add (own_s0 kc) s k0) ((s + (d + 1)) % 3) k1) ((s + 2 * (d + 1)) % 3) k2).1.getD ((own_add (own_add (own_add (own_s0 kc) s k0) ((s + (d + 1)) % 3) k1) ((s + 2 * (d + 1)) % 3) k2).2.2.1.getD 0 0).toNatClampNeg 0) = Int32.ofNat ((s + (d + 1)) % 3)) && (own_fB (own_add (own_add (own_add (own_s0 kc) s k0) ((s + (d + 1)) % 3) k1) ((s + 2 * (d + 1)) % 3) k2) 1 && (decide (((own_add (own_add (own_add (own_s0 kc) s k0) ((s + (d + 1)) % 3) k1) ((s + 2 * (d + 1)) % 3) k2).1.getD ((own_add (own_add (own_add (own_s0 kc) s k0) ((s + (d + 1)) % 3) k1) ((s + 2 * (d + 1)) % 3) k2).2.2.1.getD 1 0).toNatClampNeg 0) = Int32.ofNat ((s + 2 * (d + 1)) % 3)))))))))))))) else true) = true := by
  have h : ((List.range 4).all fun kc => (List.range 3).all fun k0 => (List.range 3).all fun k1 => (List.range 3).all fun k2 => (List.range 3).all fun s => (List.range 2).all fun d => (if 1 ≤ kc ∧ k0 < kc ∧ k1 < kc ∧ k2 < kc ∧ k1 = k0 ∧ ¬ k2 = k0 ∧ ¬ k2 = k1 then (own_okB (own_s0 kc) s k0 && (own_okB (own_add (own_s0 kc) s k0) ((s + (d + 1)) % 3) k1 && (own_okB (own_add (own_add (own_s0 kc) s k0) ((s + (d + 1)) % 3) k1) ((s + 2 * (d + 1)) % 3) k2 && (decide ((own_add (own_add (own_add (own_s0 kc) s k0) ((s + (d + 1)) % 3) k1) ((s + 2 * (d + 1)) % 3) k2).2.1.length = 3) && (decide ((own_add (own_add (own_add (own_s0 kc) s k0) ((s + (d + 1)) % 3) k1) ((s + 2 * (d + 1)) % 3) k2).2.2.2 = 2) && (decide (((own_add (own_add (own_add (own_s0 kc) s k0) ((s + (d + 1)) % 3) k1) ((s + 2 * (d + 1)) % 3) k2).2.1.getD s 0) = -1) && (decide (((own_add (own_add (own_add (own_s0 kc) s k0) ((s + (d + 1)) % 3) k1) ((s + 2 * (d + 1)) % 3) k2).2.1.getD ((s + (d + 1)) % 3) 0) = Int32.ofNat s) && (decide (((own_add (own_add (own_add (own_s0 kc) s k0) ((s + (d + 1)) % 3) k1) ((s + 2 * (d + 1)) % 3) k2).2.1.getD ((s + 2 * (d + 1)) % 3) 0) = -1) && (own_fB (own_add (own_add (own_add (own_s0 kc) s k0) ((s + (d + 1)) % 3) k1) ((s + 2 * (d + 1)) % 3) k2) 0 && (decide (((own_add (own_add (own_add (own_s0 kc) s k0) ((s + (d + 1)) % 3) k1) ((s + 2 * (d + 1)) % 3) k2).1.getD ((own_add (own_add (own_add (own_s0 kc) s k0) ((s + (d + 1)) % 3) k1) ((s + 2 * (d + 1)) % 3) k2).2.2.1.getD 0 0).toNatClampNeg 0) = Int32.ofNat ((s + (d + 1)) % 3)) && (own_fB (own_add (own_add (own_add (own_s0 kc) s k0) ((s + (d + 1)) % 3) k1) ((s + 2 * (d + 1)) % 3) k2) 1 && (decide (((own_add (own_add (own_add (own_s0 kc) s k0) ((s + (d + 1)) % 3) k1) ((s + 2 * (d + 1)) % 3) k2).1.getD ((own_add (own_add (own_add (own_s0 kc) s k0) ((s + (d + 1)) % 3) k1) ((s + 2 * (d + 1)) % 3) k2).2.2.1.getD 1 0).toNatClampNeg 0) = Int32.ofNat ((s + 2 * (d + 1)) % 3)))))))))))))) else true)) = true := by decide +kernel
  simpa only [List.all_eq_true, List.mem_range] using h
set_option maxRecDepth 65536 in
set_option maxHeartbeats 40000000 in
theorem own_f3_010 : ∀ kc : Nat, kc < 4 → ∀ k0 : Nat, k0 < 3 → ∀ k1 : Nat, k1 < 3 → ∀ k2 : Nat, k2 < 3 → ∀ s : Nat, s < 3 → ∀ d : Nat, d < 2 → (if 1 ≤ kc ∧ k0 < kc ∧ k1 < kc ∧ k2 < kc ∧ ¬ k1 = k0 ∧ k2 = k0 ∧ ¬ k2 = k1 then (own_okB (own_s0 kc) s k0 && (own_okB (own_add (own_s0 kc) s k0) ((s + (d + 1)) % 3) k1 && (own_okB (own_add (own_add (own_s0 kc) s k0) ((s + (d + 1)) % 3) k1) ((s + 2 * (d + 1)) % 3) k2 && (decide ((own_add (own_add (own_add (own_s0 kc) s k0) ((s + (d + 1)) % 3) k1) ((s + 2 * (d + 1)) % 3) k2).2.1.length = 3) && (decide ((own_add (own_add (own_add (own_s0 kc) s k0) ((s + (d + 1)) % 3) k1) ((s + 2 * (d + 1)) % 3) k2).2.2.2 = 2) && (decide (((own_add (own_add (own_add (own_s0 kc) s k0) ((s + (d + 1)) % 3) k1) ((s + 2 * (d + 1)) % 3) k2).2.1.getD s 0) = -1) && (decide (((own_add (own_add (own_add (own_s0 kc) s k0) ((s + (d + 1)) % 3) k1) ((s + 2 * (d + 1)) % 3) k2).2.1.getD ((s + (d + 1)) % 3) 0) = -1) && (decide (((own_add (own_add (own_add (own_s0 kc) s k0) ((s + (d + 1)) % 3) k1) ((s + 2 * (d + 1)) % 3) k2).2.1.getD ((s + 2 * (d + 1)) % 3) 0) = Int32.ofNat s) && (own_fB (own_add (own_add (own_add (own_s0 kc) s k0) ((s + (d + 1)) % 3) k1) ((s + 2 * (d + 1)) % 3) k2) 0 && (decide (((own_add (own_add (own_add (own_s0 kc) s k0) ((s + (d + 1)) % 3) k1) ((s + 2 * (d + 1)) % 3) k2).1.getD ((own_add (own_add (own_add (own_s0 kc) s k0) ((s + (d + 1)) % 3) k1) ((s + 2 * (d + 1)) % 3) k2).2.2.1.getD 0 0).toNatClampNeg 0) = Int32.ofNat ((s + 2 * (d + 1)) % 3)) && (own_fB (own_add (own_add (own_add (own_s0 kc) s k0) ((s + (d + 1)) % 3) k1) ((s + 2 * (d + 1)) % 3) k2) 1 && (decide (((own_add (own_add (own_add (own_s0 kc) s k0) ((s + (d + 1)) % 3) k1) ((s + 2 * (d + 1)) % 3) k2).1.getD ((own_add (own_add (own_add (own_s0 kc) s k0) ((s + (d + 1)) % 3) k1) ((s + 2 * (d + 1)) % 3) k2).2.2.1.getD 1 0).toNatClampNeg 0) = Int32.ofNat ((s + (d + 1)) % 3)))))))))))))) else true) = true := by
  have h : ((List.range 4).all fun kc => (List.range 3).all fun k0 => (List.range 3).all fun k1 => (List.range 3).all fun k2 => (List.range 3).all fun s => (List.range 2).all fun d => (if 1 ≤ kc ∧ k0 < kc ∧ k1 < kc ∧ k2 < kc ∧ ¬ k1 = k0 ∧ k2 = k0 ∧ ¬ k2 = k1 then (own_okB (own_s0 kc) s k0 && (own_okB (own_add (own_s0 kc) s k0) ((s + (d + 1)) % 3) k1 && (own_okB (own_add (own_add (own_s0 kc) s k0) ((s + (d + 1)) % 3) k1) ((s + 2 * (d + 1)) % 3) k2 && (decide ((own_add (own_add (own_add (own_s0 kc) s k0) ((s + (d + 1)) % 3) k1) ((s + 2 * (d + 1)) % 3) k2).2.1.length = 3) && (decide ((own_add (own_add (own_add (own_s0 kc) s k0) ((s + (d + 1)) % 3) k1) ((s + 2 * (d + 1)) % 3) k2).2.2.2 = 2) && (decide (((own_add (own_add (own_add (own_s0 kc) s k0) ((s + (d + 1)) % 3) k1) ((s + 2 * (d + 1)) % 3) k2).2.1.getD s 0) = -1) && (decide (((own_add (own_add (own_add (own_s0 kc) s k0) ((s + (d + 1)) % 3) k1) ((s + 2 * (d + 1)) % 3) k2).2.1.getD ((s + (d + 1)) % 3) 0) = -1) && (decide (((own_add (own_add (own_add (own_s0 kc) s k0) ((s + (d + 1)) % 3) k1) ((s + 2 * (d + 1)) % 3) k2).2.1.getD ((s + 2 * (d + 1)) % 3) 0) = Int32.ofNat s) && (own_fB (own_add (own_add (own_add (own_s0 kc) s k0) ((s + (d + 1)) % 3) k1) ((s + 2 * (d + 1)) % 3) k2) 0 && (decide (((own_add (own_add (own_add (own_s0 kc) s k0) ((s + (d + 1)) % 3) k1) ((s + 2 * (d + 1)) % 3) k2).1.getD ((own_add (own_add (own_add (own_s0 kc) s k0) ((s + (d + 1)) % 3) k1) ((s + 2 * (d + 1)) % 3) k2).2.2.1.getD 0 0).toNatClampNeg 0) = Int32.ofNat ((s + 2 * (d + 1)) % 3)) && (own_fB (own_add (own_add (own_add (own_s0 kc) s k0) ((s + (d + 1)) % 3) k1) ((s + 2 * (d + 1)) % 3) k2) 1 && (decide (((own_add (own_add (own_add (own_s0 kc) s k0) ((s + (d + 1)) % 3) k1) ((s + 2 * (d + 1)) % 3) k2).1.getD ((own_add (own_add (own_add (own_s0 kc) s k0) ((s + (d + 1)) % 3) k1) ((s + 2 * (d + 1)) % 3) k2).2.2.1.getD 1 0).toNatClampNeg 0) = Int32.ofNat ((s + (d + 1)) % 3)))))))))))))) else true)) = true := by decide +kernel
  simpa only [List.all_eq_true, List.mem_range] using h
set_option maxRecDepth 65536 in
set_option maxHeartbeats 40000000 in
theorem own_f3_001 : ∀ kc : Nat, kc < 4 → ∀ k0 : Nat, k0 < 3 → ∀ k1 : Nat, k1 < 3 → ∀ k2 : Nat, k2 < 3 → ∀ s : Nat, s < 3 → ∀ d : Nat, d < 2 → (if 1 ≤ kc ∧ k0 < kc ∧ k1 < kc ∧ k2 < kc ∧ ¬ k1 = k0 ∧ ¬ k2 = k0 ∧ k2 = k1 then (own_okB (own_s0 kc) s k0 && (own_okB (own_add (own_s0 kc) s k0) ((s + (d + 1)) % 3) k1 && (own_okB (own_add (own_add (own_s0 kc) s k0) ((s + (d + 1)) % 3) k1) ((s + 2 * (d + 1)) % 3) k2 && (decide ((own_add (own_add (own_add (own_s0 kc) s k0) ((s + (d + 1)) % 3) k1) ((s + 2 * (d + 1)) % 3) k2).2.1.length = 3) && (decide ((own_add (own_add (own_add (own_s0 kc) s k0) ((s + (d + 1)) % 3) k1) ((s + 2 * (d + 1)) % 3) k2).2.2.2 = 2) && (decide (((own_add (own_add (own_add (own_s0 kc) s k0) ((s + (d + 1)) % 3) k1) ((s + 2 * (d + 1)) % 3) k2).2.1.getD s 0) = -1) && (decide (((own_add (own_add (own_add (own_s0 kc) s k0) ((s + (d + 1)) % 3) k1) ((s + 2 * (d + 1)) % 3) k2).2.1.getD ((s + (d + 1)) % 3) 0) = -1) && (decide (((own_add (own_add (own_add (own_s0 kc) s k0) ((s + (d + 1)) % 3) k1) ((s + 2 * (d + 1)) % 3) k2).2.1.getD ((s + 2 * (d + 1)) % 3) 0) = Int32.ofNat ((s + (d + 1)) % 3)) && (own_fB (own_add (own_add (own_add (own_s0 kc) s k0) ((s + (d + 1)) % 3) k1) ((s + 2 * (d + 1)) % 3) k2) 0 && (decide (((own_add (own_add (own_add (own_s0 kc) s k0) ((s + (d + 1)) % 3) k1) ((s + 2 * (d + 1)) % 3) k2).1.getD ((own_add (own_add (own_add (own_s0 kc) s k0) ((s + (d + 1)) % 3) k1) ((s + 2 * (d + 1)) % 3) k2).2.2.1.getD 0 0).toNatClampNeg 0) = Int32.ofNat s) && (own_fB (own_add (own_add (own_add (own_s0 kc) s k0) ((s + (d + 1)) % 3) k1) ((s + 2 * (d + 1)) % 3) k2) 1 && (decide (((own_add (own_add (own_add (own_s0 kc) s k0) ((s + (d + 1)) % 3) k1) ((s + 2 * (d + 1)) % 3) k2).1.getD ((own_add (own_add (own_add (own_s0 kc) s k0) ((s + (d + 1)) % 3) k1) ((s + 2 * (d + 1)) % 3) k2).2.2.1.getD 1 0).toNatClampNeg 0) = Int32.ofNat ((s + 2 * (d + 1)) % 3)))))))))))))) else true) = true := by
  have h : ((List.range 4).all fun kc => (List.range 3).all fun k0 => (List.range 3).all fun k1 => (List.range 3).all fun k2 => (List.range 3).all fun s => (List.range 2).all fun d => (if 1 ≤ kc ∧ k0 < kc ∧ k1 < kc ∧ k2 < kc ∧ ¬ k1 = k0 ∧ ¬ k2 = k0 ∧ k2 = k1 then (own_okB (own_s0 kc) s k0 && (own_okB (own_add (own_s0 kc) s k0) ((s + (d + 1)) % 3) k1 && (own_okB (own_add (own_add (own_s0 kc) s k0) ((s + (d + 1)) % 3) k1) ((s + 2 * (d + 1)) % 3) k2 && (decide ((own_add (own_add (own_add (own_s0 kc) s k0) ((s + (d + 1)) % 3) k1) ((s + 2 * (d + 1)) % 3) k2).2.1.length = 3) && (decide ((own_add (own_add (own_add (own_s0 kc) s k0) ((s + (d + 1)) % 3) k1) ((s + 2 * (d + 1)) % 3) k2).2.2.2 = 2) && (decide (((own_add (own_add (own_add (own_s0 kc) s k0) ((s + (d + 1)) % 3) k1) ((s + 2 * (d + 1)) % 3) k2).2.1.getD s 0) = -1) && (decide (((own_add (own_add (own_add (own_s0 kc) s k0) ((s + (d + 1)) % 3) k1) ((s + 2 * (d + 1)) % 3) k2).2.1.getD ((s + (d + 1)) % 3) 0) = -1) && (decide (((own_add (own_add (own_add (own_s0 kc) s k0) ((s + (d + 1)) % 3) k1) ((s + 2 * (d + 1)) % 3) k2).2.1.getD ((s + 2 * (d + 1)) % 3) 0) = Int32.ofNat ((s + (d + 1)) % 3)) && (own_fB (own_add (own_add (own_add (own_s0 kc) s k0) ((s + (d + 1)) % 3) k1) ((s + 2 * (d + 1)) % 3) k2) 0 && (decide (((own_add (own_add (own_add (own_s0 kc) s k0) ((s + (d + 1)) % 3) k1) ((s + 2 * (d + 1)) % 3) k2).1.getD ((own_add (own_add (own_add (own_s0 kc) s k0) ((s + (d + 1)) % 3) k1) ((s + 2 * (d + 1)) % 3) k2).2.2.1.getD 0 0).toNatClampNeg 0) = Int32.ofNat s) && (own_fB (own_add (own_add (own_add (own_s0 kc) s k0) ((s + (d + 1)) % 3) k1) ((s + 2 * (d + 1)) % 3) k2) 1 && (decide (((own_add (own_add (own_add (own_s0 kc) s k0) ((s + (d + 1)) % 3) k1) ((s + 2 * (d + 1)) % 3) k2).1.getD ((own_add (own_add (own_add (own_s0 kc) s k0) ((s + (d + 1)) % 3) k1) ((s + 2 * (d + 1)) % 3) k2).2.2.1.getD 1 0).toNatClampNeg 0) = Int32.ofNat ((s + 2 * (d + 1)) % 3)))))))))))))) else true)) = true := by decide +kernel
  simpa only [List.all_eq_true, List.mem_range] using h
set_option maxRecDepth 65536 in
set_option maxHeartbeats 40000000 in
theorem own_f3_000 : ∀ kc : Nat, kc < 4 → ∀ k0 : Nat, k0 < 3 → ∀ k1 : Nat, k1 < 3 → ∀ k2 : Nat, k2 < 3 → ∀ s : Nat, s < 3 → ∀ d : Nat, d < 2 → (if 1 ≤ kc ∧ k0 < kc ∧ k1 < kc ∧ k2 < kc ∧ ¬ k1 = k0 ∧ ¬ k2 = k0 ∧ ¬ k2 = k1 then (own_okB (own_s0 kc) s k0 && (own_okB (own_add (own_s0 kc) s k0) ((s + (d + 1)) % 3) k1 && (own_okB (own_add (own_add (own_s0 kc) s k0) ((s + (d + 1)) % 3) k1) ((s + 2 * (d + 1)) % 3) k2 && (decide ((own_add (own_add (own_add (own_s0 kc) s k0) ((s + (d + 1)) % 3) k1) ((s + 2 * (d + 1)) % 3) k2).2.1.length = 3) && (decide ((own_add (own_add (own_add (own_s0 kc) s k0) ((s + (d + 1)) % 3) k1) ((s + 2 * (d + 1)) % 3) k2).2.2.2 = 3) && (decide (((own_add (own_add (own_add (own_s0 kc) s k0) ((s + (d + 1)) % 3) k1) ((s + 2 * (d + 1)) % 3) k2).2.1.getD s 0) = -1) && (decide (((own_add (own_add (own_add (own_s0 kc) s k0) ((s + (d + 1)) % 3) k1) ((s + 2 * (d + 1)) % 3) k2).2.1.getD ((s + (d + 1)) % 3) 0) = -1) && (decide (((own_add (own_add (own_add (own_s0 kc) s k0) ((s + (d + 1)) % 3) k1) ((s + 2 * (d + 1)) % 3) k2).2.1.getD ((s + 2 * (d + 1)) % 3) 0) = -1) && (own_fB (own_add (own_add (own_add (own_s0 kc) s k0) ((s + (d + 1)) % 3) k1) ((s + 2 * (d + 1)) % 3) k2) 0 && (decide (((own_add (own_add (own_add (own_s0 kc) s k0) ((s + (d + 1)) % 3) k1) ((s + 2 * (d + 1)) % 3) k2).1.getD ((own_add (own_add (own_add (own_s0 kc) s k0) ((s + (d + 1)) % 3) k1) ((s + 2 * (d + 1)) % 3) k2).2.2.1.getD 0 0).toNatClampNeg 0) = Int32.ofNat s) && (own_fB (own_add (own_add (own_add (own_s0 kc) s k0) ((s + (d + 1)) % 3) k1) ((s + 2 * (d + 1)) % 3) k2) 1 && (decide (((own_add (own_add (own_add (own_s0 kc) s k0) ((s + (d + 1)) % 3) k1) ((s + 2 * (d + 1)) % 3) k2).1.getD ((own_add (own_add (own_add (own_s0 kc) s k0) ((s + (d + 1)) % 3) k1) ((s + 2 * (d + 1)) % 3) k2).2.2.1.getD 1 0).toNatClampNeg 0) = Int32.ofNat ((s + (d + 1)) % 3)) && (own_fB (own_add (own_add (own_add (own_s0 kc) s k0) ((s + (d + 1)) % 3) k1) ((s + 2 * (d + 1)) % 3) k2) 2 && (decide (((own_add (own_add (own_add (own_s0 kc) s k0) ((s + (d + 1)) % 3) k1) ((s + 2 * (d + 1)) % 3) k2).1.getD ((own_add (own_add (own_add (own_s0 kc) s k0) ((s + (d + 1)) % 3) k1) ((s + 2 * (d + 1)) % 3) k2).2.2.1.getD 2 0).toNatClampNeg 0) = Int32.ofNat ((s + 2 * (d + 1)) % 3)))))))))))))))) else true) = true := by
  have h : ((List.range 4).all fun kc => (List.range 3).all fun k0 => (List.range 3).all fun k1 => (List.range 3).all fun k2 => (List.range 3).all fun s => (List.range 2).all fun d => (if 1 ≤ kc ∧ k0 < kc ∧ k1 < kc ∧ k2 < kc ∧ ¬ k1 = k0 ∧ ¬ k2 = k0 ∧ ¬ k2 = k1 then (own_okB (own_s0 kc) s k0 && (own_okB (own_add (own_s0 kc) s k0) ((s + (d + 1)) % 3) k1 && (own_okB (own_add (own_add (own_s0 kc) s k0) ((s + (d + 1)) % 3) k1) ((s + 2 * (d + 1)) % 3) k2 && (decide ((own_add (own_add (own_add (own_s0 kc) s k0) ((s + (d + 1)) % 3) k1) ((s + 2 * (d + 1)) % 3) k2).2.1.length = 3) && (decide ((own_add (own_add (own_add (own_s0 kc) s k0) ((s + (d + 1)) % 3) k1) ((s + 2 * (d + 1)) % 3) k2).2.2.2 = 3) && (decide (((own_add (own_add (own_add (own_s0 kc) s k0) ((s + (d + 1)) % 3) k1) ((s + 2 * (d + 1)) % 3) k2).2.1.getD s 0) = -1) && (decide (((own_add (own_add (own_add (own_s0 kc) s k0) ((s + (d + 1)) % 3) k1) ((s + 2 * (d + 1)) % 3) k2).2.1.getD ((s + (d + 1)) % 3) 0) = -1) && (decide (((own_add (own_add (own_add (own_s0 kc) s k0) ((s + (d + 1)) % 3) k1) ((s + 2 * (d + 1)) % 3) k2).2.1.getD ((s + 2 * (d + 1)) % 3) 0) = -1) && (own_fB (own_add (own_add (own_add (own_s0 kc) s k0) ((s + (d + 1)) % 3) k1) ((s + 2 * (d + 1)) % 3) k2) 0 && (decide (((own_add (own_add (own_add (own_s0 kc) s k0) ((s + (d + 1)) % 3) k1) ((s + 2 * (d + 1)) % 3) k2).1.getD ((own_add (own_add (own_add (own_s0 kc) s k0) ((s + (d + 1)) % 3) k1) ((s + 2 * (d + 1)) % 3) k2).2.2.1.getD 0 0).toNatClampNeg 0) = Int32.ofNat s) && (own_fB (own_add (own_add (own_add (own_s0 kc) s k0) ((s + (d + 1)) % 3) k1) ((s + 2 * (d + 1)) % 3) k2) 1 && (decide (((own_add (own_add (own_add (own_s0 kc) s k0) ((s + (d + 1)) % 3) k1) ((s + 2 * (d + 1)) % 3) k2).1.getD ((own_add (own_add (own_add (own_s0 kc) s k0) ((s + (d + 1)) % 3) k1) ((s + 2 * (d + 1)) % 3) k2).2.2.1.getD 1 0).toNatClampNeg 0) = Int32.ofNat ((s + (d + 1)) % 3)) && (own_fB (own_add (own_add (own_add (own_s0 kc) s k0) ((s + (d + 1)) % 3) k1) ((s + 2 * (d + 1)) % 3) k2) 2 && (decide (((own_add (own_add (own_add (own_s0 kc) s k0) ((s + (d + 1)) % 3) k1) ((s + 2 * (d + 1)) % 3) k2).1.getD ((own_add (own_add (own_add (own_s0 kc) s k0) ((s + (d + 1)) % 3) k1) ((s + 2 * (d + 1)) % 3) k2).2.2.1.getD 2 0).toNatClampNeg 0) = Int32.ofNat ((s + 2 * (d + 1)) % 3)))))))))))))))) else true)) = true := by decide +kernel
  simpa only [List.all_eq_true, List.mem_range] using h
set_option maxRecDepth 65536 in
set_option maxHeartbeats 40000000 in
theorem own_oks : ∀ kc : Fin 4, ∀ k0 k1 k2 s : Fin 3, ∀ d : Fin 2, 1 ≤ kc.val → k0.val < kc.val → k1.val < kc.val → k2.val < kc.val → own_okB (own_s0 kc.val) s.val k0.val = true ∧ own_okB (own_add (own_s0 kc.val) s.val k0.val) ((s.val + (d.val + 1)) % 3) k1.val = true ∧ own_okB (own_add (own_add (own_s0 kc.val) s.val k0.val) ((s.val + (d.val + 1)) % 3) k1.val) ((s.val + 2 * (d.val + 1)) % 3) k2.val = true := by decide +kernel
theorem own_pnlaw : plainFor x = true := by first | exact plainFor_of_name (by first | (simp [plainName, overriddenIn]; done) | decide +kernel) | decide +kernel
set_option maxHeartbeats 4000000 in
theorem own_eflaw (m : MethodId) (x0 : Int32) (x1 : Int32) (x2 : Int32) (x3 : Int32) (x4 : Int32) (x5 : Int32) : entryFrame m #[.int x0, .int x1, .int x2, .int x3, .int x4, .int x5] maxLocals = mkF m 0 #[.val (.int x0), .val (.int x1), .val (.int x2), .val (.int x3), .val (.int x4), .val (.int x5), .unset, .unset, .unset, .unset, .unset, .unset, .unset, .unset, .unset, .unset, .unset, .unset, .unset, .unset, .unset, .unset, .unset, .unset] [] := by first | (simp [entryFrame, mkF, argsToLocals, Value.category, maxLocals]; done) | rfl
set_option maxRecDepth 65536 in
set_option maxHeartbeats 40000000 in
theorem own_claw (l : Launch) (Z : State) (a0 : Array Value) (n0 : Nat) (hw : ∀ d ∈ tables_1, d.before a0 Z = true) (ws : List Jvm.Cond) (a b c dd e f : Int32)  :
    own_Con l Z n0 x code maxLocals ret ws room_1 #[.int a, .int b, .int c, .int dd, .int e, .int f] [] (fun v _ => v = some (.int 1)) := by
  refine own_con own_pnlaw (fun m_ => own_eflaw m_ a b c dd e f) ?_
  intro G C
  refine C.iconst (q := 1) (z := (1 : Int32)) at_0 rfl rfl ?_
  refine C.iloadN (q := 2) at_1 rfl rfl ?_
  refine C.ldc (q := 4) (v := (2147483647 : Int32)) at_2 (hw _ (List.mem_of_getElem? (i := 0) rfl)) rfl ?_
  refine C.iand (q := 5) at_4 rfl ?_
  refine C.iconst (q := 6) (z := (3 : Int32)) at_5 rfl rfl ?_
  refine C.irem (q := 7) at_6 (by decide) rfl ?_
  refine C.iadd (q := 8) at_7 rfl ?_
  obtain ⟨kc, hkc, ekc⟩ := own_kc a
  rw [ekc]
  refine C.istore (q := 10) (ls' := [.val (.int a), .val (.int b), .val (.int c), .val (.int dd), .val (.int e), .val (.int f), .val (.int (Int32.ofNat kc)), .unset, .unset, .unset, .unset, .unset, .unset, .unset, .unset, .unset, .unset, .unset, .unset, .unset, .unset, .unset, .unset, .unset]) at_8 rfl rfl ?_
  refine C.iloadN (q := 11) at_10 rfl rfl ?_
  refine C.ldc (q := 13) (v := (2147483647 : Int32)) at_11 (hw _ (List.mem_of_getElem? (i := 0) rfl)) rfl ?_
  refine C.iand (q := 14) at_13 rfl ?_
  refine C.iload (q := 16) at_14 rfl rfl ?_
  refine C.irem (q := 17) at_16 (own_k0 hkc) rfl ?_
  obtain ⟨k0, hk0, ek0⟩ := own_ky b hkc
  rw [ek0]
  refine C.istore (q := 19) (ls' := [.val (.int a), .val (.int b), .val (.int c), .val (.int dd), .val (.int e), .val (.int f), .val (.int (Int32.ofNat kc)), .val (.int (Int32.ofNat k0)), .unset, .unset, .unset, .unset, .unset, .unset, .unset, .unset, .unset, .unset, .unset, .unset, .unset, .unset, .unset, .unset]) at_17 rfl rfl ?_
  refine C.iloadN (q := 20) at_19 rfl rfl ?_
  refine C.ldc (q := 22) (v := (2147483647 : Int32)) at_20 (hw _ (List.mem_of_getElem? (i := 0) rfl)) rfl ?_
  refine C.iand (q := 23) at_22 rfl ?_
  refine C.iload (q := 25) at_23 rfl rfl ?_
  refine C.irem (q := 26) at_25 (own_k0 hkc) rfl ?_
  obtain ⟨k1, hk1, ek1⟩ := own_ky c hkc
  rw [ek1]
  refine C.istore (q := 28) (ls' := [.val (.int a), .val (.int b), .val (.int c), .val (.int dd), .val (.int e), .val (.int f), .val (.int (Int32.ofNat kc)), .val (.int (Int32.ofNat k0)), .val (.int (Int32.ofNat k1)), .unset, .unset, .unset, .unset, .unset, .unset, .unset, .unset, .unset, .unset, .unset, .unset, .unset, .unset, .unset]) at_26 rfl rfl ?_
  refine C.iloadN (q := 29) at_28 rfl rfl ?_
  refine C.ldc (q := 31) (v := (2147483647 : Int32)) at_29 (hw _ (List.mem_of_getElem? (i := 0) rfl)) rfl ?_
  refine C.iand (q := 32) at_31 rfl ?_
  refine C.iload (q := 34) at_32 rfl rfl ?_
  refine C.irem (q := 35) at_34 (own_k0 hkc) rfl ?_
  obtain ⟨k2, hk2, ek2⟩ := own_ky dd hkc
  rw [ek2]
  refine C.istore (q := 37) (ls' := [.val (.int a), .val (.int b), .val (.int c), .val (.int dd), .val (.int e), .val (.int f), .val (.int (Int32.ofNat kc)), .val (.int (Int32.ofNat k0)), .val (.int (Int32.ofNat k1)), .val (.int (Int32.ofNat k2)), .unset, .unset, .unset, .unset, .unset, .unset, .unset, .unset, .unset, .unset, .unset, .unset, .unset, .unset]) at_35 rfl rfl ?_
  refine C.iload (q := 39) at_37 rfl rfl ?_
  refine C.ldc (q := 41) (v := (2147483647 : Int32)) at_39 (hw _ (List.mem_of_getElem? (i := 0) rfl)) rfl ?_
  refine C.iand (q := 42) at_41 rfl ?_
  refine C.iconst (q := 43) (z := (3 : Int32)) at_42 rfl rfl ?_
  refine C.irem (q := 44) at_43 (by decide) rfl ?_
  obtain ⟨s, hs, es⟩ := own_sd e
  rw [es]
  refine C.istore (q := 46) (ls' := [.val (.int a), .val (.int b), .val (.int c), .val (.int dd), .val (.int e), .val (.int f), .val (.int (Int32.ofNat kc)), .val (.int (Int32.ofNat k0)), .val (.int (Int32.ofNat k1)), .val (.int (Int32.ofNat k2)), .val (.int (Int32.ofNat s)), .unset, .unset, .unset, .unset, .unset, .unset, .unset, .unset, .unset, .unset, .unset, .unset, .unset]) at_44 rfl rfl ?_
  refine C.iconst (q := 47) (z := (1 : Int32)) at_46 rfl rfl ?_
  refine C.iload (q := 49) at_47 rfl rfl ?_
  refine C.bipush (q := 51) (z := (30 : Int32)) at_49 rfl rfl ?_
  refine C.iushr (q := 52) at_51 rfl ?_
  refine C.iconst (q := 53) (z := (1 : Int32)) at_52 rfl rfl ?_
  refine C.iand (q := 54) at_53 rfl ?_
  refine C.iadd (q := 55) at_54 rfl ?_
  obtain ⟨d, hd, ed⟩ := own_dd _
  rw [ed]
  refine C.istore (q := 57) (ls' := [.val (.int a), .val (.int b), .val (.int c), .val (.int dd), .val (.int e), .val (.int f), .val (.int (Int32.ofNat kc)), .val (.int (Int32.ofNat k0)), .val (.int (Int32.ofNat k1)), .val (.int (Int32.ofNat k2)), .val (.int (Int32.ofNat s)), .val (.int (Int32.ofNat (d + 1))), .unset, .unset, .unset, .unset, .unset, .unset, .unset, .unset, .unset, .unset, .unset, .unset]) at_55 rfl rfl ?_
  refine C.iload (q := 59) at_57 rfl rfl ?_
  refine C.istore (q := 61) (ls' := [.val (.int a), .val (.int b), .val (.int c), .val (.int dd), .val (.int e), .val (.int f), .val (.int (Int32.ofNat kc)), .val (.int (Int32.ofNat k0)), .val (.int (Int32.ofNat k1)), .val (.int (Int32.ofNat k2)), .val (.int (Int32.ofNat s)), .val (.int (Int32.ofNat (d + 1))), .val (.int (Int32.ofNat s)), .unset, .unset, .unset, .unset, .unset, .unset, .unset, .unset, .unset, .unset, .unset]) at_59 rfl rfl ?_
  refine C.iload (q := 63) at_61 rfl rfl ?_
  refine C.iload (q := 65) at_63 rfl rfl ?_
  refine C.iadd (q := 66) at_65 rfl ?_
  refine C.iconst (q := 67) (z := (3 : Int32)) at_66 rfl rfl ?_
  refine C.irem (q := 68) at_67 (by decide) rfl ?_
  rw [own_t1 hs hd]
  refine C.istore (q := 70) (ls' := [.val (.int a), .val (.int b), .val (.int c), .val (.int dd), .val (.int e), .val (.int f), .val (.int (Int32.ofNat kc)), .val (.int (Int32.ofNat k0)), .val (.int (Int32.ofNat k1)), .val (.int (Int32.ofNat k2)), .val (.int (Int32.ofNat s)), .val (.int (Int32.ofNat (d + 1))), .val (.int (Int32.ofNat s)), .val (.int (Int32.ofNat ((s + (d + 1)) % 3))), .unset, .unset, .unset, .unset, .unset, .unset, .unset, .unset, .unset, .unset]) at_68 rfl rfl ?_
  refine C.iload (q := 72) at_70 rfl rfl ?_
  refine C.iconst (q := 73) (z := (2 : Int32)) at_72 rfl rfl ?_
  refine C.iload (q := 75) at_73 rfl rfl ?_
  refine C.imul (q := 76) at_75 rfl ?_
  refine C.iadd (q := 77) at_76 rfl ?_
  refine C.iconst (q := 78) (z := (3 : Int32)) at_77 rfl rfl ?_
  refine C.irem (q := 79) at_78 (by decide) rfl ?_
  rw [own_t2 hs hd]
  refine C.istore (q := 81) (ls' := [.val (.int a), .val (.int b), .val (.int c), .val (.int dd), .val (.int e), .val (.int f), .val (.int (Int32.ofNat kc)), .val (.int (Int32.ofNat k0)), .val (.int (Int32.ofNat k1)), .val (.int (Int32.ofNat k2)), .val (.int (Int32.ofNat s)), .val (.int (Int32.ofNat (d + 1))), .val (.int (Int32.ofNat s)), .val (.int (Int32.ofNat ((s + (d + 1)) % 3))), .val (.int (Int32.ofNat ((s + 2 * (d + 1)) % 3))), .unset, .unset, .unset, .unset, .unset, .unset, .unset, .unset, .unset]) at_79 rfl rfl ?_
  refine C.iload (q := 83) at_81 rfl rfl ?_
  refine C.ldc (q := 85) (v := (2147483647 : Int32)) at_83 (hw _ (List.mem_of_getElem? (i := 0) rfl)) rfl ?_
  refine C.iand (q := 86) at_85 rfl ?_
  refine C.iconst (q := 87) (z := (4 : Int32)) at_86 rfl rfl ?_
  refine C.irem (q := 88) at_87 (by decide) rfl ?_
  rcases own_n4 f with ec | ec | ec | ec
  · rw [ec]
    show G 0 0 [] 88 [.val (.int a), .val (.int b), .val (.int c), .val (.int dd), .val (.int e), .val (.int f), .val (.int (Int32.ofNat kc)), .val (.int (Int32.ofNat k0)), .val (.int (Int32.ofNat k1)), .val (.int (Int32.ofNat k2)), .val (.int (Int32.ofNat s)), .val (.int (Int32.ofNat (d + 1))), .val (.int (Int32.ofNat s)), .val (.int (Int32.ofNat ((s + (d + 1)) % 3))), .val (.int (Int32.ofNat ((s + 2 * (d + 1)) % 3))), .unset, .unset, .unset, .unset, .unset, .unset, .unset, .unset, .unset] [.int (0 : Int32)]
    refine C.istore (q := 90) (ls' := [.val (.int a), .val (.int b), .val (.int c), .val (.int dd), .val (.int e), .val (.int f), .val (.int (Int32.ofNat kc)), .val (.int (Int32.ofNat k0)), .val (.int (Int32.ofNat k1)), .val (.int (Int32.ofNat k2)), .val (.int (Int32.ofNat s)), .val (.int (Int32.ofNat (d + 1))), .val (.int (Int32.ofNat s)), .val (.int (Int32.ofNat ((s + (d + 1)) % 3))), .val (.int (Int32.ofNat ((s + 2 * (d + 1)) % 3))), .val (.int (0 : Int32)), .unset, .unset, .unset, .unset, .unset, .unset, .unset, .unset]) at_88 rfl rfl ?_
    have oks := own_oks ⟨kc, by omega⟩ ⟨k0, by omega⟩ ⟨k1, by omega⟩ ⟨k2, by omega⟩ ⟨s, hs⟩ ⟨d, hd⟩ hkc.1 hk0 hk1 hk2
    refine C.newobj (q := 93) [("heads", "[I", (.array .int)), ("nexts", "[I", (.array .int)), ("keysMet", "[I", (.array .int)), ("keysMetCount", "I", .int)] (fs := [("heads", "[I", .null), ("nexts", "[I", .null), ("keysMet", "[I", .null), ("keysMetCount", "I", .int (0 : Int32))]) (k' := 1) (n' := 4) at_90 (hw _ (List.mem_of_getElem? (i := 1) rfl)) (hw _ (List.mem_of_getElem? (i := 2) rfl)) (hw _ (List.mem_of_getElem? (i := 3) rfl)) ⟨⟨Or.inr (hw _ (List.mem_of_getElem? (i := 12) rfl)), by decide⟩, ⟨⟨Or.inr (hw _ (List.mem_of_getElem? (i := 18) rfl)), by decide⟩, ⟨⟨Or.inr (hw _ (List.mem_of_getElem? (i := 20) rfl)), by decide⟩, ⟨⟨Or.inl (hw _ (List.mem_of_getElem? (i := 27) rfl)), by decide⟩, trivial⟩⟩⟩⟩ (by decide) (by decide) (by decide) rfl rfl rfl rfl (fun a90 => ?_)
    show G 1 4 [(a90, .inr ("com/example/terms_to_transitions/termstotransitions/equivalence/TransitionLists", [("heads", "[I", .null), ("nexts", "[I", .null), ("keysMet", "[I", .null), ("keysMetCount", "I", .int (0 : Int32))]))] 93 [.val (.int a), .val (.int b), .val (.int c), .val (.int dd), .val (.int e), .val (.int f), .val (.int (Int32.ofNat kc)), .val (.int (Int32.ofNat k0)), .val (.int (Int32.ofNat k1)), .val (.int (Int32.ofNat k2)), .val (.int (Int32.ofNat s)), .val (.int (Int32.ofNat (d + 1))), .val (.int (Int32.ofNat s)), .val (.int (Int32.ofNat ((s + (d + 1)) % 3))), .val (.int (Int32.ofNat ((s + 2 * (d + 1)) % 3))), .val (.int (0 : Int32)), .unset, .unset, .unset, .unset, .unset, .unset, .unset, .unset] [.ref a90]
    refine C.dup (q := 94) at_93 rfl rfl ?_
    refine C.iload (q := 96) at_94 rfl rfl ?_
    refine C.iconst (q := 97) (z := (3 : Int32)) at_96 rfl rfl ?_
    refine C.callI (q := 100) 1 a90 [.int (Int32.ofNat kc), .int (3 : Int32)] [.ref a90] at_97 (hw _ (List.mem_of_getElem? (i := 4) rfl)) (hw _ (List.mem_of_getElem? (i := 5) rfl)) (hw _ (List.mem_of_getElem? (i := 3) rfl)) (hw _ (List.mem_of_getElem? (i := 6) rfl)) (own_c5 l Z a0 n0 hw [] a90 kc hkc.2) rfl (by decide) (by decide) (by decide) own_pd1 rfl rfl rfl (Nat.le_of_eq rfl) (by decide) (by decide) rfl ?_
    rintro _ _ ⟨rfl, h, x, m, rfl⟩
    show G 4 13 [(a90, .inr ("com/example/terms_to_transitions/termstotransitions/equivalence/TransitionLists", [("heads", "[I", .ref h), ("nexts", "[I", .ref x), ("keysMet", "[I", .ref m), ("keysMetCount", "I", .int ((own_s0 kc).2.2.2))])), (h, .inl (.int, (own_vl (own_s0 kc).1))), (x, .inl (.int, (own_vl (own_s0 kc).2.1))), (m, .inl (.int, (own_vl (own_s0 kc).2.2.1)))] 100 [.val (.int a), .val (.int b), .val (.int c), .val (.int dd), .val (.int e), .val (.int f), .val (.int (Int32.ofNat kc)), .val (.int (Int32.ofNat k0)), .val (.int (Int32.ofNat k1)), .val (.int (Int32.ofNat k2)), .val (.int (Int32.ofNat s)), .val (.int (Int32.ofNat (d + 1))), .val (.int (Int32.ofNat s)), .val (.int (Int32.ofNat ((s + (d + 1)) % 3))), .val (.int (Int32.ofNat ((s + 2 * (d + 1)) % 3))), .val (.int (0 : Int32)), .unset, .unset, .unset, .unset, .unset, .unset, .unset, .unset] [.ref a90]
    refine C.astore (q := 102) (ls' := [.val (.int a), .val (.int b), .val (.int c), .val (.int dd), .val (.int e), .val (.int f), .val (.int (Int32.ofNat kc)), .val (.int (Int32.ofNat k0)), .val (.int (Int32.ofNat k1)), .val (.int (Int32.ofNat k2)), .val (.int (Int32.ofNat s)), .val (.int (Int32.ofNat (d + 1))), .val (.int (Int32.ofNat s)), .val (.int (Int32.ofNat ((s + (d + 1)) % 3))), .val (.int (Int32.ofNat ((s + 2 * (d + 1)) % 3))), .val (.int (0 : Int32)), .val (.ref a90), .unset, .unset, .unset, .unset, .unset, .unset, .unset]) at_100 rfl rfl rfl ?_
    refine C.iload (q := 104) at_102 rfl rfl ?_
    refine C.iconst (q := 105) (z := (1 : Int32)) at_104 rfl rfl ?_
    refine C.icmpLt (q := 117) (q' := 108) at_105 (by decide) (by decide) rfl (fun h105 => ?_) (fun h105 => absurd (by decide) h105)
    refine C.iload (q := 119) at_117 rfl rfl ?_
    refine C.iconst (q := 120) (z := (2 : Int32)) at_119 rfl rfl ?_
    refine C.icmpLt (q := 132) (q' := 123) at_120 (by decide) (by decide) rfl (fun h120 => ?_) (fun h120 => absurd (by decide) h120)
    refine C.iload (q := 134) at_132 rfl rfl ?_
    refine C.iconst (q := 135) (z := (3 : Int32)) at_134 rfl rfl ?_
    refine C.icmpLt (q := 147) (q' := 138) at_135 (by decide) (by decide) rfl (fun h135 => ?_) (fun h135 => absurd (by decide) h135)
    refine C.iconst (q := 148) (z := (-1 : Int32)) at_147 rfl rfl ?_
    refine C.istore (q := 150) (ls' := [.val (.int a), .val (.int b), .val (.int c), .val (.int dd), .val (.int e), .val (.int f), .val (.int (Int32.ofNat kc)), .val (.int (Int32.ofNat k0)), .val (.int (Int32.ofNat k1)), .val (.int (Int32.ofNat k2)), .val (.int (Int32.ofNat s)), .val (.int (Int32.ofNat (d + 1))), .val (.int (Int32.ofNat s)), .val (.int (Int32.ofNat ((s + (d + 1)) % 3))), .val (.int (Int32.ofNat ((s + 2 * (d + 1)) % 3))), .val (.int (0 : Int32)), .val (.ref a90), .val (.int (-1 : Int32)), .unset, .unset, .unset, .unset, .unset, .unset]) at_148 rfl rfl ?_
    refine C.iload (q := 152) at_150 rfl rfl ?_
    refine C.iload (q := 154) at_152 rfl rfl ?_
    have J154 : ∀ (z154 : Int32), (True ∨ z154 = 0) → G 4 13 [(a90, .inr ("com/example/terms_to_transitions/termstotransitions/equivalence/TransitionLists", [("heads", "[I", .ref h), ("nexts", "[I", .ref x), ("keysMet", "[I", .ref m), ("keysMetCount", "I", .int ((own_s0 kc).2.2.2))])), (h, .inl (.int, (own_vl (own_s0 kc).1))), (x, .inl (.int, (own_vl (own_s0 kc).2.1))), (m, .inl (.int, (own_vl (own_s0 kc).2.2.1)))] 162 [.val (.int a), .val (.int b), .val (.int c), .val (.int dd), .val (.int e), .val (.int f), .val (.int (Int32.ofNat kc)), .val (.int (Int32.ofNat k0)), .val (.int (Int32.ofNat k1)), .val (.int (Int32.ofNat k2)), .val (.int (Int32.ofNat s)), .val (.int (Int32.ofNat (d + 1))), .val (.int (Int32.ofNat s)), .val (.int (Int32.ofNat ((s + (d + 1)) % 3))), .val (.int (Int32.ofNat ((s + 2 * (d + 1)) % 3))), .val (.int (0 : Int32)), .val (.ref a90), .val (.int (-1 : Int32)), .unset, .unset, .unset, .unset, .unset, .unset] [.int z154] := by
      intro z154 hz154
      refine C.istore (q := 164) (ls' := [.val (.int a), .val (.int b), .val (.int c), .val (.int dd), .val (.int e), .val (.int f), .val (.int (Int32.ofNat kc)), .val (.int (Int32.ofNat k0)), .val (.int (Int32.ofNat k1)), .val (.int (Int32.ofNat k2)), .val (.int (Int32.ofNat s)), .val (.int (Int32.ofNat (d + 1))), .val (.int (Int32.ofNat s)), .val (.int (Int32.ofNat ((s + (d + 1)) % 3))), .val (.int (Int32.ofNat ((s + 2 * (d + 1)) % 3))), .val (.int (0 : Int32)), .val (.ref a90), .val (.int (-1 : Int32)), .val (.int z154), .unset, .unset, .unset, .unset, .unset]) at_162 rfl rfl ?_
      refine C.iload (q := 166) at_164 rfl rfl ?_
      refine C.iload (q := 168) at_166 rfl rfl ?_
      have J168 : ∀ (z168 : Int32), (True ∨ z168 = 0) → G 4 13 [(a90, .inr ("com/example/terms_to_transitions/termstotransitions/equivalence/TransitionLists", [("heads", "[I", .ref h), ("nexts", "[I", .ref x), ("keysMet", "[I", .ref m), ("keysMetCount", "I", .int ((own_s0 kc).2.2.2))])), (h, .inl (.int, (own_vl (own_s0 kc).1))), (x, .inl (.int, (own_vl (own_s0 kc).2.1))), (m, .inl (.int, (own_vl (own_s0 kc).2.2.1)))] 176 [.val (.int a), .val (.int b), .val (.int c), .val (.int dd), .val (.int e), .val (.int f), .val (.int (Int32.ofNat kc)), .val (.int (Int32.ofNat k0)), .val (.int (Int32.ofNat k1)), .val (.int (Int32.ofNat k2)), .val (.int (Int32.ofNat s)), .val (.int (Int32.ofNat (d + 1))), .val (.int (Int32.ofNat s)), .val (.int (Int32.ofNat ((s + (d + 1)) % 3))), .val (.int (Int32.ofNat ((s + 2 * (d + 1)) % 3))), .val (.int (0 : Int32)), .val (.ref a90), .val (.int (-1 : Int32)), .val (.int z154), .unset, .unset, .unset, .unset, .unset] [.int z168] := by
        intro z168 hz168
        refine C.istore (q := 178) (ls' := [.val (.int a), .val (.int b), .val (.int c), .val (.int dd), .val (.int e), .val (.int f), .val (.int (Int32.ofNat kc)), .val (.int (Int32.ofNat k0)), .val (.int (Int32.ofNat k1)), .val (.int (Int32.ofNat k2)), .val (.int (Int32.ofNat s)), .val (.int (Int32.ofNat (d + 1))), .val (.int (Int32.ofNat s)), .val (.int (Int32.ofNat ((s + (d + 1)) % 3))), .val (.int (Int32.ofNat ((s + 2 * (d + 1)) % 3))), .val (.int (0 : Int32)), .val (.ref a90), .val (.int (-1 : Int32)), .val (.int z154), .val (.int z168), .unset, .unset, .unset, .unset]) at_176 rfl rfl ?_
        refine C.iload (q := 180) at_178 rfl rfl ?_
        refine C.iload (q := 182) at_180 rfl rfl ?_
        have J182 : ∀ (z182 : Int32), (True ∨ z182 = 0) → G 4 13 [(a90, .inr ("com/example/terms_to_transitions/termstotransitions/equivalence/TransitionLists", [("heads", "[I", .ref h), ("nexts", "[I", .ref x), ("keysMet", "[I", .ref m), ("keysMetCount", "I", .int ((own_s0 kc).2.2.2))])), (h, .inl (.int, (own_vl (own_s0 kc).1))), (x, .inl (.int, (own_vl (own_s0 kc).2.1))), (m, .inl (.int, (own_vl (own_s0 kc).2.2.1)))] 190 [.val (.int a), .val (.int b), .val (.int c), .val (.int dd), .val (.int e), .val (.int f), .val (.int (Int32.ofNat kc)), .val (.int (Int32.ofNat k0)), .val (.int (Int32.ofNat k1)), .val (.int (Int32.ofNat k2)), .val (.int (Int32.ofNat s)), .val (.int (Int32.ofNat (d + 1))), .val (.int (Int32.ofNat s)), .val (.int (Int32.ofNat ((s + (d + 1)) % 3))), .val (.int (Int32.ofNat ((s + 2 * (d + 1)) % 3))), .val (.int (0 : Int32)), .val (.ref a90), .val (.int (-1 : Int32)), .val (.int z154), .val (.int z168), .unset, .unset, .unset, .unset] [.int z182] := by
          intro z182 hz182
          refine C.istore (q := 192) (ls' := [.val (.int a), .val (.int b), .val (.int c), .val (.int dd), .val (.int e), .val (.int f), .val (.int (Int32.ofNat kc)), .val (.int (Int32.ofNat k0)), .val (.int (Int32.ofNat k1)), .val (.int (Int32.ofNat k2)), .val (.int (Int32.ofNat s)), .val (.int (Int32.ofNat (d + 1))), .val (.int (Int32.ofNat s)), .val (.int (Int32.ofNat ((s + (d + 1)) % 3))), .val (.int (Int32.ofNat ((s + 2 * (d + 1)) % 3))), .val (.int (0 : Int32)), .val (.ref a90), .val (.int (-1 : Int32)), .val (.int z154), .val (.int z168), .val (.int z182), .unset, .unset, .unset]) at_190 rfl rfl ?_
          have FF := own_f0_000 kc (by omega)  s hs d hd
          rw [if_pos hkc.1] at FF
          simp only [Bool.and_eq_true, decide_eq_true_eq] at FF
          obtain ⟨q_ln, q_cnt⟩ := FF
          refine C.iload (q := 194) at_192 rfl rfl ?_
          refine C.ifNe (q := 203) (q' := 197) at_194 (by decide) (by decide) rfl (fun h194 => ?_) (fun h194 => absurd (by decide) h194)
          refine C.iconst (q := 198) (z := (0 : Int32)) at_197 rfl rfl ?_
          refine C.istore (q := 200) (ls' := [.val (.int a), .val (.int b), .val (.int c), .val (.int dd), .val (.int e), .val (.int f), .val (.int (Int32.ofNat kc)), .val (.int (Int32.ofNat k0)), .val (.int (Int32.ofNat k1)), .val (.int (Int32.ofNat k2)), .val (.int (Int32.ofNat s)), .val (.int (Int32.ofNat (d + 1))), .val (.int (Int32.ofNat s)), .val (.int (Int32.ofNat ((s + (d + 1)) % 3))), .val (.int (Int32.ofNat ((s + 2 * (d + 1)) % 3))), .val (.int (0 : Int32)), .val (.ref a90), .val (.int (-1 : Int32)), .val (.int z154), .val (.int z168), .val (.int z182), .val (.int (0 : Int32)), .unset, .unset]) at_198 rfl rfl ?_
          refine C.goto (q := 266) at_200 (by decide) (by decide) ?_
          refine C.aload (q := 268) at_266 rfl rfl rfl ?_
          refine C.callV (q := 271) 0 0 [] [] at_268 (hw _ (List.mem_of_getElem? (i := 28) rfl)) (hw _ (List.mem_of_getElem? (i := 29) rfl)) (hw _ (List.mem_of_getElem? (i := 30) rfl)) (hw _ (List.mem_of_getElem? (i := 31) rfl)) (hw _ (List.mem_of_getElem? (i := 3) rfl)) (hw _ (List.mem_of_getElem? (i := 32) rfl)) (own_c2 l Z a0 n0 hw [] a90 h x m (own_s0 kc)) (by decide) (by decide) (by decide) own_pd2 rfl rfl rfl rfl (Nat.le_of_eq rfl) (by decide) (by decide) rfl ?_
          rintro _ _ ⟨rfl, hE⟩
          rw [hE]
          show G 4 13 [(a90, .inr ("com/example/terms_to_transitions/termstotransitions/equivalence/TransitionLists", [("heads", "[I", .ref h), ("nexts", "[I", .ref x), ("keysMet", "[I", .ref m), ("keysMetCount", "I", .int ((own_s0 kc).2.2.2))])), (h, .inl (.int, (own_vl (own_s0 kc).1))), (x, .inl (.int, (own_vl (own_s0 kc).2.1))), (m, .inl (.int, (own_vl (own_s0 kc).2.2.1)))] 271 [.val (.int a), .val (.int b), .val (.int c), .val (.int dd), .val (.int e), .val (.int f), .val (.int (Int32.ofNat kc)), .val (.int (Int32.ofNat k0)), .val (.int (Int32.ofNat k1)), .val (.int (Int32.ofNat k2)), .val (.int (Int32.ofNat s)), .val (.int (Int32.ofNat (d + 1))), .val (.int (Int32.ofNat s)), .val (.int (Int32.ofNat ((s + (d + 1)) % 3))), .val (.int (Int32.ofNat ((s + 2 * (d + 1)) % 3))), .val (.int (0 : Int32)), .val (.ref a90), .val (.int (-1 : Int32)), .val (.int z154), .val (.int z168), .val (.int z182), .val (.int (0 : Int32)), .unset, .unset] [.int ((own_s0 kc).2.2.2)]
          refine C.iload (q := 273) at_271 rfl rfl ?_
          refine C.icmpNe (q := 280) (q' := 276) at_273 (by decide) (by decide) rfl (fun h273 => ?_) (fun h273 => absurd (q_cnt) h273)
          refine C.iconst (q := 277) (z := (1 : Int32)) at_276 rfl rfl ?_
          refine C.goto (q := 281) at_277 (by decide) (by decide) ?_
          refine C.istore (q := 283) (ls' := [.val (.int a), .val (.int b), .val (.int c), .val (.int dd), .val (.int e), .val (.int f), .val (.int (Int32.ofNat kc)), .val (.int (Int32.ofNat k0)), .val (.int (Int32.ofNat k1)), .val (.int (Int32.ofNat k2)), .val (.int (Int32.ofNat s)), .val (.int (Int32.ofNat (d + 1))), .val (.int (Int32.ofNat s)), .val (.int (Int32.ofNat ((s + (d + 1)) % 3))), .val (.int (Int32.ofNat ((s + 2 * (d + 1)) % 3))), .val (.int (0 : Int32)), .val (.ref a90), .val (.int (-1 : Int32)), .val (.int z154), .val (.int z168), .val (.int z182), .val (.int (0 : Int32)), .val (.int (1 : Int32)), .unset]) at_281 rfl rfl ?_
          refine C.iload (q := 285) at_283 rfl rfl ?_
          refine C.iconst (q := 286) (z := (1 : Int32)) at_285 rfl rfl ?_
          refine C.icmpLt (q := 313) (q' := 289) at_286 (by decide) (by decide) rfl (fun h286 => ?_) (fun h286 => absurd (by decide) h286)
          refine C.iload (q := 315) at_313 rfl rfl ?_
          refine C.iconst (q := 316) (z := (2 : Int32)) at_315 rfl rfl ?_
          refine C.icmpLt (q := 353) (q' := 319) at_316 (by decide) (by decide) rfl (fun h316 => ?_) (fun h316 => absurd (by decide) h316)
          refine C.iload (q := 355) at_353 rfl rfl ?_
          refine C.iconst (q := 356) (z := (3 : Int32)) at_355 rfl rfl ?_
          refine C.icmpLt (q := 403) (q' := 359) at_356 (by decide) (by decide) rfl (fun h356 => ?_) (fun h356 => absurd (by decide) h356)
          refine C.iload (q := 405) at_403 rfl rfl ?_
          refine C.iconst (q := 406) (z := (1 : Int32)) at_405 rfl rfl ?_
          refine C.icmpLt (q := 468) (q' := 409) at_406 (by decide) (by decide) rfl (fun h406 => ?_) (fun h406 => absurd (by decide) h406)
          refine C.iload (q := 470) at_468 rfl rfl ?_
          refine C.iconst (q := 471) (z := (2 : Int32)) at_470 rfl rfl ?_
          refine C.icmpLt (q := 527) (q' := 474) at_471 (by decide) (by decide) rfl (fun h471 => ?_) (fun h471 => absurd (by decide) h471)
          refine C.iload (q := 529) at_527 rfl rfl ?_
          refine C.iconst (q := 530) (z := (3 : Int32)) at_529 rfl rfl ?_
          refine C.icmpLt (q := 556) (q' := 533) at_530 (by decide) (by decide) rfl (fun h530 => ?_) (fun h530 => absurd (by decide) h530)
          refine C.iload (q := 558) at_556 rfl rfl ?_
          exact C.retB (by simp) at_558 (by decide) (by decide) rfl
        refine C.icmpNe (q := 189) (q' := 185) at_182 (by decide) (by decide) rfl (fun h182 => ?_) (fun h182 => ?_)
        · refine C.iconst (q := 186) (z := (1 : Int32)) at_185 rfl rfl ?_
          refine C.goto (q := 190) at_186 (by decide) (by decide) ?_
          exact J182 _ (Or.inl trivial)
        · refine C.iconst (q := 190) (z := (0 : Int32)) at_189 rfl rfl ?_
          exact J182 _ (Or.inl trivial)
      refine C.icmpNe (q := 175) (q' := 171) at_168 (by decide) (by decide) rfl (fun h168 => ?_) (fun h168 => ?_)
      · refine C.iconst (q := 172) (z := (1 : Int32)) at_171 rfl rfl ?_
        refine C.goto (q := 176) at_172 (by decide) (by decide) ?_
        exact J168 _ (Or.inl trivial)
      · refine C.iconst (q := 176) (z := (0 : Int32)) at_175 rfl rfl ?_
        exact J168 _ (Or.inl trivial)
    refine C.icmpNe (q := 161) (q' := 157) at_154 (by decide) (by decide) rfl (fun h154 => ?_) (fun h154 => ?_)
    · refine C.iconst (q := 158) (z := (1 : Int32)) at_157 rfl rfl ?_
      refine C.goto (q := 162) at_158 (by decide) (by decide) ?_
      exact J154 _ (Or.inl trivial)
    · refine C.iconst (q := 162) (z := (0 : Int32)) at_161 rfl rfl ?_
      exact J154 _ (Or.inl trivial)
  · rw [ec]
    show G 0 0 [] 88 [.val (.int a), .val (.int b), .val (.int c), .val (.int dd), .val (.int e), .val (.int f), .val (.int (Int32.ofNat kc)), .val (.int (Int32.ofNat k0)), .val (.int (Int32.ofNat k1)), .val (.int (Int32.ofNat k2)), .val (.int (Int32.ofNat s)), .val (.int (Int32.ofNat (d + 1))), .val (.int (Int32.ofNat s)), .val (.int (Int32.ofNat ((s + (d + 1)) % 3))), .val (.int (Int32.ofNat ((s + 2 * (d + 1)) % 3))), .unset, .unset, .unset, .unset, .unset, .unset, .unset, .unset, .unset] [.int (1 : Int32)]
    refine C.istore (q := 90) (ls' := [.val (.int a), .val (.int b), .val (.int c), .val (.int dd), .val (.int e), .val (.int f), .val (.int (Int32.ofNat kc)), .val (.int (Int32.ofNat k0)), .val (.int (Int32.ofNat k1)), .val (.int (Int32.ofNat k2)), .val (.int (Int32.ofNat s)), .val (.int (Int32.ofNat (d + 1))), .val (.int (Int32.ofNat s)), .val (.int (Int32.ofNat ((s + (d + 1)) % 3))), .val (.int (Int32.ofNat ((s + 2 * (d + 1)) % 3))), .val (.int (1 : Int32)), .unset, .unset, .unset, .unset, .unset, .unset, .unset, .unset]) at_88 rfl rfl ?_
    have oks := own_oks ⟨kc, by omega⟩ ⟨k0, by omega⟩ ⟨k1, by omega⟩ ⟨k2, by omega⟩ ⟨s, hs⟩ ⟨d, hd⟩ hkc.1 hk0 hk1 hk2
    refine C.newobj (q := 93) [("heads", "[I", (.array .int)), ("nexts", "[I", (.array .int)), ("keysMet", "[I", (.array .int)), ("keysMetCount", "I", .int)] (fs := [("heads", "[I", .null), ("nexts", "[I", .null), ("keysMet", "[I", .null), ("keysMetCount", "I", .int (0 : Int32))]) (k' := 1) (n' := 4) at_90 (hw _ (List.mem_of_getElem? (i := 1) rfl)) (hw _ (List.mem_of_getElem? (i := 2) rfl)) (hw _ (List.mem_of_getElem? (i := 3) rfl)) ⟨⟨Or.inr (hw _ (List.mem_of_getElem? (i := 12) rfl)), by decide⟩, ⟨⟨Or.inr (hw _ (List.mem_of_getElem? (i := 18) rfl)), by decide⟩, ⟨⟨Or.inr (hw _ (List.mem_of_getElem? (i := 20) rfl)), by decide⟩, ⟨⟨Or.inl (hw _ (List.mem_of_getElem? (i := 27) rfl)), by decide⟩, trivial⟩⟩⟩⟩ (by decide) (by decide) (by decide) rfl rfl rfl rfl (fun a90 => ?_)
    show G 1 4 [(a90, .inr ("com/example/terms_to_transitions/termstotransitions/equivalence/TransitionLists", [("heads", "[I", .null), ("nexts", "[I", .null), ("keysMet", "[I", .null), ("keysMetCount", "I", .int (0 : Int32))]))] 93 [.val (.int a), .val (.int b), .val (.int c), .val (.int dd), .val (.int e), .val (.int f), .val (.int (Int32.ofNat kc)), .val (.int (Int32.ofNat k0)), .val (.int (Int32.ofNat k1)), .val (.int (Int32.ofNat k2)), .val (.int (Int32.ofNat s)), .val (.int (Int32.ofNat (d + 1))), .val (.int (Int32.ofNat s)), .val (.int (Int32.ofNat ((s + (d + 1)) % 3))), .val (.int (Int32.ofNat ((s + 2 * (d + 1)) % 3))), .val (.int (1 : Int32)), .unset, .unset, .unset, .unset, .unset, .unset, .unset, .unset] [.ref a90]
    refine C.dup (q := 94) at_93 rfl rfl ?_
    refine C.iload (q := 96) at_94 rfl rfl ?_
    refine C.iconst (q := 97) (z := (3 : Int32)) at_96 rfl rfl ?_
    refine C.callI (q := 100) 1 a90 [.int (Int32.ofNat kc), .int (3 : Int32)] [.ref a90] at_97 (hw _ (List.mem_of_getElem? (i := 4) rfl)) (hw _ (List.mem_of_getElem? (i := 5) rfl)) (hw _ (List.mem_of_getElem? (i := 3) rfl)) (hw _ (List.mem_of_getElem? (i := 6) rfl)) (own_c5 l Z a0 n0 hw [] a90 kc hkc.2) rfl (by decide) (by decide) (by decide) own_pd1 rfl rfl rfl (Nat.le_of_eq rfl) (by decide) (by decide) rfl ?_
    rintro _ _ ⟨rfl, h, x, m, rfl⟩
    show G 4 13 [(a90, .inr ("com/example/terms_to_transitions/termstotransitions/equivalence/TransitionLists", [("heads", "[I", .ref h), ("nexts", "[I", .ref x), ("keysMet", "[I", .ref m), ("keysMetCount", "I", .int ((own_s0 kc).2.2.2))])), (h, .inl (.int, (own_vl (own_s0 kc).1))), (x, .inl (.int, (own_vl (own_s0 kc).2.1))), (m, .inl (.int, (own_vl (own_s0 kc).2.2.1)))] 100 [.val (.int a), .val (.int b), .val (.int c), .val (.int dd), .val (.int e), .val (.int f), .val (.int (Int32.ofNat kc)), .val (.int (Int32.ofNat k0)), .val (.int (Int32.ofNat k1)), .val (.int (Int32.ofNat k2)), .val (.int (Int32.ofNat s)), .val (.int (Int32.ofNat (d + 1))), .val (.int (Int32.ofNat s)), .val (.int (Int32.ofNat ((s + (d + 1)) % 3))), .val (.int (Int32.ofNat ((s + 2 * (d + 1)) % 3))), .val (.int (1 : Int32)), .unset, .unset, .unset, .unset, .unset, .unset, .unset, .unset] [.ref a90]
    refine C.astore (q := 102) (ls' := [.val (.int a), .val (.int b), .val (.int c), .val (.int dd), .val (.int e), .val (.int f), .val (.int (Int32.ofNat kc)), .val (.int (Int32.ofNat k0)), .val (.int (Int32.ofNat k1)), .val (.int (Int32.ofNat k2)), .val (.int (Int32.ofNat s)), .val (.int (Int32.ofNat (d + 1))), .val (.int (Int32.ofNat s)), .val (.int (Int32.ofNat ((s + (d + 1)) % 3))), .val (.int (Int32.ofNat ((s + 2 * (d + 1)) % 3))), .val (.int (1 : Int32)), .val (.ref a90), .unset, .unset, .unset, .unset, .unset, .unset, .unset]) at_100 rfl rfl rfl ?_
    refine C.iload (q := 104) at_102 rfl rfl ?_
    refine C.iconst (q := 105) (z := (1 : Int32)) at_104 rfl rfl ?_
    refine C.icmpLt (q := 117) (q' := 108) at_105 (by decide) (by decide) rfl (fun h105 => absurd h105 (by decide)) (fun h105 => ?_)
    refine C.aload (q := 110) at_108 rfl rfl rfl ?_
    refine C.iload (q := 112) at_110 rfl rfl ?_
    refine C.iload (q := 114) at_112 rfl rfl ?_
    refine C.callV (q := 117) 0 0 [.int (Int32.ofNat s), .int (Int32.ofNat k0)] [] at_114 (hw _ (List.mem_of_getElem? (i := 21) rfl)) (hw _ (List.mem_of_getElem? (i := 22) rfl)) (hw _ (List.mem_of_getElem? (i := 23) rfl)) (hw _ (List.mem_of_getElem? (i := 24) rfl)) (hw _ (List.mem_of_getElem? (i := 3) rfl)) (hw _ (List.mem_of_getElem? (i := 25) rfl)) (own_c1 l Z a0 n0 hw [] a90 h x m (own_s0 kc) s k0 (by omega) (by omega) (own_okB.ok oks.1)) (by decide) (by decide) (by decide) own_pd1 rfl rfl rfl rfl (Nat.le_of_eq rfl) (by decide) (by decide) rfl ?_
    rintro _ _ ⟨rfl, hE⟩
    rw [hE]
    show G 4 13 [(a90, .inr ("com/example/terms_to_transitions/termstotransitions/equivalence/TransitionLists", [("heads", "[I", .ref h), ("nexts", "[I", .ref x), ("keysMet", "[I", .ref m), ("keysMetCount", "I", .int ((own_add (own_s0 kc) s k0).2.2.2))])), (h, .inl (.int, (own_vl (own_add (own_s0 kc) s k0).1))), (x, .inl (.int, (own_vl (own_add (own_s0 kc) s k0).2.1))), (m, .inl (.int, (own_vl (own_add (own_s0 kc) s k0).2.2.1)))] 117 [.val (.int a), .val (.int b), .val (.int c), .val (.int dd), .val (.int e), .val (.int f), .val (.int (Int32.ofNat kc)), .val (.int (Int32.ofNat k0)), .val (.int (Int32.ofNat k1)), .val (.int (Int32.ofNat k2)), .val (.int (Int32.ofNat s)), .val (.int (Int32.ofNat (d + 1))), .val (.int (Int32.ofNat s)), .val (.int (Int32.ofNat ((s + (d + 1)) % 3))), .val (.int (Int32.ofNat ((s + 2 * (d + 1)) % 3))), .val (.int (1 : Int32)), .val (.ref a90), .unset, .unset, .unset, .unset, .unset, .unset, .unset] []
    refine C.iload (q := 119) at_117 rfl rfl ?_
    refine C.iconst (q := 120) (z := (2 : Int32)) at_119 rfl rfl ?_
    refine C.icmpLt (q := 132) (q' := 123) at_120 (by decide) (by decide) rfl (fun h120 => ?_) (fun h120 => absurd (by decide) h120)
    refine C.iload (q := 134) at_132 rfl rfl ?_
    refine C.iconst (q := 135) (z := (3 : Int32)) at_134 rfl rfl ?_
    refine C.icmpLt (q := 147) (q' := 138) at_135 (by decide) (by decide) rfl (fun h135 => ?_) (fun h135 => absurd (by decide) h135)
    refine C.iconst (q := 148) (z := (-1 : Int32)) at_147 rfl rfl ?_
    refine C.istore (q := 150) (ls' := [.val (.int a), .val (.int b), .val (.int c), .val (.int dd), .val (.int e), .val (.int f), .val (.int (Int32.ofNat kc)), .val (.int (Int32.ofNat k0)), .val (.int (Int32.ofNat k1)), .val (.int (Int32.ofNat k2)), .val (.int (Int32.ofNat s)), .val (.int (Int32.ofNat (d + 1))), .val (.int (Int32.ofNat s)), .val (.int (Int32.ofNat ((s + (d + 1)) % 3))), .val (.int (Int32.ofNat ((s + 2 * (d + 1)) % 3))), .val (.int (1 : Int32)), .val (.ref a90), .val (.int (-1 : Int32)), .unset, .unset, .unset, .unset, .unset, .unset]) at_148 rfl rfl ?_
    refine C.iload (q := 152) at_150 rfl rfl ?_
    refine C.iload (q := 154) at_152 rfl rfl ?_
    have J154 : ∀ (z154 : Int32), (True ∨ z154 = 0) → G 4 13 [(a90, .inr ("com/example/terms_to_transitions/termstotransitions/equivalence/TransitionLists", [("heads", "[I", .ref h), ("nexts", "[I", .ref x), ("keysMet", "[I", .ref m), ("keysMetCount", "I", .int ((own_add (own_s0 kc) s k0).2.2.2))])), (h, .inl (.int, (own_vl (own_add (own_s0 kc) s k0).1))), (x, .inl (.int, (own_vl (own_add (own_s0 kc) s k0).2.1))), (m, .inl (.int, (own_vl (own_add (own_s0 kc) s k0).2.2.1)))] 162 [.val (.int a), .val (.int b), .val (.int c), .val (.int dd), .val (.int e), .val (.int f), .val (.int (Int32.ofNat kc)), .val (.int (Int32.ofNat k0)), .val (.int (Int32.ofNat k1)), .val (.int (Int32.ofNat k2)), .val (.int (Int32.ofNat s)), .val (.int (Int32.ofNat (d + 1))), .val (.int (Int32.ofNat s)), .val (.int (Int32.ofNat ((s + (d + 1)) % 3))), .val (.int (Int32.ofNat ((s + 2 * (d + 1)) % 3))), .val (.int (1 : Int32)), .val (.ref a90), .val (.int (-1 : Int32)), .unset, .unset, .unset, .unset, .unset, .unset] [.int z154] := by
      intro z154 hz154
      refine C.istore (q := 164) (ls' := [.val (.int a), .val (.int b), .val (.int c), .val (.int dd), .val (.int e), .val (.int f), .val (.int (Int32.ofNat kc)), .val (.int (Int32.ofNat k0)), .val (.int (Int32.ofNat k1)), .val (.int (Int32.ofNat k2)), .val (.int (Int32.ofNat s)), .val (.int (Int32.ofNat (d + 1))), .val (.int (Int32.ofNat s)), .val (.int (Int32.ofNat ((s + (d + 1)) % 3))), .val (.int (Int32.ofNat ((s + 2 * (d + 1)) % 3))), .val (.int (1 : Int32)), .val (.ref a90), .val (.int (-1 : Int32)), .val (.int z154), .unset, .unset, .unset, .unset, .unset]) at_162 rfl rfl ?_
      refine C.iload (q := 166) at_164 rfl rfl ?_
      refine C.iload (q := 168) at_166 rfl rfl ?_
      have J168 : ∀ (z168 : Int32), (True ∨ z168 = 0) → G 4 13 [(a90, .inr ("com/example/terms_to_transitions/termstotransitions/equivalence/TransitionLists", [("heads", "[I", .ref h), ("nexts", "[I", .ref x), ("keysMet", "[I", .ref m), ("keysMetCount", "I", .int ((own_add (own_s0 kc) s k0).2.2.2))])), (h, .inl (.int, (own_vl (own_add (own_s0 kc) s k0).1))), (x, .inl (.int, (own_vl (own_add (own_s0 kc) s k0).2.1))), (m, .inl (.int, (own_vl (own_add (own_s0 kc) s k0).2.2.1)))] 176 [.val (.int a), .val (.int b), .val (.int c), .val (.int dd), .val (.int e), .val (.int f), .val (.int (Int32.ofNat kc)), .val (.int (Int32.ofNat k0)), .val (.int (Int32.ofNat k1)), .val (.int (Int32.ofNat k2)), .val (.int (Int32.ofNat s)), .val (.int (Int32.ofNat (d + 1))), .val (.int (Int32.ofNat s)), .val (.int (Int32.ofNat ((s + (d + 1)) % 3))), .val (.int (Int32.ofNat ((s + 2 * (d + 1)) % 3))), .val (.int (1 : Int32)), .val (.ref a90), .val (.int (-1 : Int32)), .val (.int z154), .unset, .unset, .unset, .unset, .unset] [.int z168] := by
        intro z168 hz168
        refine C.istore (q := 178) (ls' := [.val (.int a), .val (.int b), .val (.int c), .val (.int dd), .val (.int e), .val (.int f), .val (.int (Int32.ofNat kc)), .val (.int (Int32.ofNat k0)), .val (.int (Int32.ofNat k1)), .val (.int (Int32.ofNat k2)), .val (.int (Int32.ofNat s)), .val (.int (Int32.ofNat (d + 1))), .val (.int (Int32.ofNat s)), .val (.int (Int32.ofNat ((s + (d + 1)) % 3))), .val (.int (Int32.ofNat ((s + 2 * (d + 1)) % 3))), .val (.int (1 : Int32)), .val (.ref a90), .val (.int (-1 : Int32)), .val (.int z154), .val (.int z168), .unset, .unset, .unset, .unset]) at_176 rfl rfl ?_
        refine C.iload (q := 180) at_178 rfl rfl ?_
        refine C.iload (q := 182) at_180 rfl rfl ?_
        have J182 : ∀ (z182 : Int32), (True ∨ z182 = 0) → G 4 13 [(a90, .inr ("com/example/terms_to_transitions/termstotransitions/equivalence/TransitionLists", [("heads", "[I", .ref h), ("nexts", "[I", .ref x), ("keysMet", "[I", .ref m), ("keysMetCount", "I", .int ((own_add (own_s0 kc) s k0).2.2.2))])), (h, .inl (.int, (own_vl (own_add (own_s0 kc) s k0).1))), (x, .inl (.int, (own_vl (own_add (own_s0 kc) s k0).2.1))), (m, .inl (.int, (own_vl (own_add (own_s0 kc) s k0).2.2.1)))] 190 [.val (.int a), .val (.int b), .val (.int c), .val (.int dd), .val (.int e), .val (.int f), .val (.int (Int32.ofNat kc)), .val (.int (Int32.ofNat k0)), .val (.int (Int32.ofNat k1)), .val (.int (Int32.ofNat k2)), .val (.int (Int32.ofNat s)), .val (.int (Int32.ofNat (d + 1))), .val (.int (Int32.ofNat s)), .val (.int (Int32.ofNat ((s + (d + 1)) % 3))), .val (.int (Int32.ofNat ((s + 2 * (d + 1)) % 3))), .val (.int (1 : Int32)), .val (.ref a90), .val (.int (-1 : Int32)), .val (.int z154), .val (.int z168), .unset, .unset, .unset, .unset] [.int z182] := by
          intro z182 hz182
          refine C.istore (q := 192) (ls' := [.val (.int a), .val (.int b), .val (.int c), .val (.int dd), .val (.int e), .val (.int f), .val (.int (Int32.ofNat kc)), .val (.int (Int32.ofNat k0)), .val (.int (Int32.ofNat k1)), .val (.int (Int32.ofNat k2)), .val (.int (Int32.ofNat s)), .val (.int (Int32.ofNat (d + 1))), .val (.int (Int32.ofNat s)), .val (.int (Int32.ofNat ((s + (d + 1)) % 3))), .val (.int (Int32.ofNat ((s + 2 * (d + 1)) % 3))), .val (.int (1 : Int32)), .val (.ref a90), .val (.int (-1 : Int32)), .val (.int z154), .val (.int z168), .val (.int z182), .unset, .unset, .unset]) at_190 rfl rfl ?_
          have FF := own_f1_000 kc (by omega) k0 (by omega) s hs d hd
          rw [if_pos ⟨hkc.1, hk0⟩] at FF
          simp only [Bool.and_eq_true, decide_eq_true_eq] at FF
          obtain ⟨q_ok0, q_ln, q_cnt, q_nx0, q_b0, q_f0⟩ := FF
          refine C.iload (q := 194) at_192 rfl rfl ?_
          refine C.ifNe (q := 203) (q' := 197) at_194 (by decide) (by decide) rfl (fun h194 => absurd h194 (by decide)) (fun h194 => ?_)
          refine C.iload (q := 205) at_203 rfl rfl ?_
          refine C.iconst (q := 206) (z := (1 : Int32)) at_205 rfl rfl ?_
          refine C.icmpNe (q := 215) (q' := 209) at_206 (by decide) (by decide) rfl (fun h206 => ?_) (fun h206 => absurd (by decide) h206)
          refine C.iconst (q := 210) (z := (1 : Int32)) at_209 rfl rfl ?_
          refine C.istore (q := 212) (ls' := [.val (.int a), .val (.int b), .val (.int c), .val (.int dd), .val (.int e), .val (.int f), .val (.int (Int32.ofNat kc)), .val (.int (Int32.ofNat k0)), .val (.int (Int32.ofNat k1)), .val (.int (Int32.ofNat k2)), .val (.int (Int32.ofNat s)), .val (.int (Int32.ofNat (d + 1))), .val (.int (Int32.ofNat s)), .val (.int (Int32.ofNat ((s + (d + 1)) % 3))), .val (.int (Int32.ofNat ((s + 2 * (d + 1)) % 3))), .val (.int (1 : Int32)), .val (.ref a90), .val (.int (-1 : Int32)), .val (.int z154), .val (.int z168), .val (.int z182), .val (.int (1 : Int32)), .unset, .unset]) at_210 rfl rfl ?_
          refine C.goto (q := 266) at_212 (by decide) (by decide) ?_
          refine C.aload (q := 268) at_266 rfl rfl rfl ?_
          refine C.callV (q := 271) 0 0 [] [] at_268 (hw _ (List.mem_of_getElem? (i := 28) rfl)) (hw _ (List.mem_of_getElem? (i := 29) rfl)) (hw _ (List.mem_of_getElem? (i := 30) rfl)) (hw _ (List.mem_of_getElem? (i := 31) rfl)) (hw _ (List.mem_of_getElem? (i := 3) rfl)) (hw _ (List.mem_of_getElem? (i := 32) rfl)) (own_c2 l Z a0 n0 hw [] a90 h x m (own_add (own_s0 kc) s k0)) (by decide) (by decide) (by decide) own_pd2 rfl rfl rfl rfl (Nat.le_of_eq rfl) (by decide) (by decide) rfl ?_
          rintro _ _ ⟨rfl, hE⟩
          rw [hE]
          show G 4 13 [(a90, .inr ("com/example/terms_to_transitions/termstotransitions/equivalence/TransitionLists", [("heads", "[I", .ref h), ("nexts", "[I", .ref x), ("keysMet", "[I", .ref m), ("keysMetCount", "I", .int ((own_add (own_s0 kc) s k0).2.2.2))])), (h, .inl (.int, (own_vl (own_add (own_s0 kc) s k0).1))), (x, .inl (.int, (own_vl (own_add (own_s0 kc) s k0).2.1))), (m, .inl (.int, (own_vl (own_add (own_s0 kc) s k0).2.2.1)))] 271 [.val (.int a), .val (.int b), .val (.int c), .val (.int dd), .val (.int e), .val (.int f), .val (.int (Int32.ofNat kc)), .val (.int (Int32.ofNat k0)), .val (.int (Int32.ofNat k1)), .val (.int (Int32.ofNat k2)), .val (.int (Int32.ofNat s)), .val (.int (Int32.ofNat (d + 1))), .val (.int (Int32.ofNat s)), .val (.int (Int32.ofNat ((s + (d + 1)) % 3))), .val (.int (Int32.ofNat ((s + 2 * (d + 1)) % 3))), .val (.int (1 : Int32)), .val (.ref a90), .val (.int (-1 : Int32)), .val (.int z154), .val (.int z168), .val (.int z182), .val (.int (1 : Int32)), .unset, .unset] [.int ((own_add (own_s0 kc) s k0).2.2.2)]
          refine C.iload (q := 273) at_271 rfl rfl ?_
          refine C.icmpNe (q := 280) (q' := 276) at_273 (by decide) (by decide) rfl (fun h273 => ?_) (fun h273 => absurd (q_cnt) h273)
          refine C.iconst (q := 277) (z := (1 : Int32)) at_276 rfl rfl ?_
          refine C.goto (q := 281) at_277 (by decide) (by decide) ?_
          refine C.istore (q := 283) (ls' := [.val (.int a), .val (.int b), .val (.int c), .val (.int dd), .val (.int e), .val (.int f), .val (.int (Int32.ofNat kc)), .val (.int (Int32.ofNat k0)), .val (.int (Int32.ofNat k1)), .val (.int (Int32.ofNat k2)), .val (.int (Int32.ofNat s)), .val (.int (Int32.ofNat (d + 1))), .val (.int (Int32.ofNat s)), .val (.int (Int32.ofNat ((s + (d + 1)) % 3))), .val (.int (Int32.ofNat ((s + 2 * (d + 1)) % 3))), .val (.int (1 : Int32)), .val (.ref a90), .val (.int (-1 : Int32)), .val (.int z154), .val (.int z168), .val (.int z182), .val (.int (1 : Int32)), .val (.int (1 : Int32)), .unset]) at_281 rfl rfl ?_
          refine C.iload (q := 285) at_283 rfl rfl ?_
          refine C.iconst (q := 286) (z := (1 : Int32)) at_285 rfl rfl ?_
          refine C.icmpLt (q := 313) (q' := 289) at_286 (by decide) (by decide) rfl (fun h286 => absurd h286 (by decide)) (fun h286 => ?_)
          refine C.iload (q := 291) at_289 rfl rfl ?_
          refine C.ifEq (q := 310) (q' := 294) at_291 (by decide) (by decide) rfl (fun h291 => absurd h291 (by decide)) (fun h291 => ?_)
          refine C.aload (q := 296) at_294 rfl rfl rfl ?_
          refine C.iload (q := 298) at_296 rfl rfl ?_
          refine C.callV (q := 301) 0 0 [.int (Int32.ofNat s)] [] at_298 (hw _ (List.mem_of_getElem? (i := 33) rfl)) (hw _ (List.mem_of_getElem? (i := 34) rfl)) (hw _ (List.mem_of_getElem? (i := 35) rfl)) (hw _ (List.mem_of_getElem? (i := 36) rfl)) (hw _ (List.mem_of_getElem? (i := 3) rfl)) (hw _ (List.mem_of_getElem? (i := 37) rfl)) (own_c4 l Z a0 n0 hw [] a90 h x m (own_add (own_s0 kc) s k0) s (by omega) (by rw [q_ln]; omega)) (by decide) (by decide) (by decide) own_pd3 rfl rfl rfl rfl (Nat.le_of_eq rfl) (by decide) (by decide) rfl ?_
          rintro _ _ ⟨rfl, hE⟩
          rw [hE]
          show G 4 13 [(a90, .inr ("com/example/terms_to_transitions/termstotransitions/equivalence/TransitionLists", [("heads", "[I", .ref h), ("nexts", "[I", .ref x), ("keysMet", "[I", .ref m), ("keysMetCount", "I", .int ((own_add (own_s0 kc) s k0).2.2.2))])), (h, .inl (.int, (own_vl (own_add (own_s0 kc) s k0).1))), (x, .inl (.int, (own_vl (own_add (own_s0 kc) s k0).2.1))), (m, .inl (.int, (own_vl (own_add (own_s0 kc) s k0).2.2.1)))] 301 [.val (.int a), .val (.int b), .val (.int c), .val (.int dd), .val (.int e), .val (.int f), .val (.int (Int32.ofNat kc)), .val (.int (Int32.ofNat k0)), .val (.int (Int32.ofNat k1)), .val (.int (Int32.ofNat k2)), .val (.int (Int32.ofNat s)), .val (.int (Int32.ofNat (d + 1))), .val (.int (Int32.ofNat s)), .val (.int (Int32.ofNat ((s + (d + 1)) % 3))), .val (.int (Int32.ofNat ((s + 2 * (d + 1)) % 3))), .val (.int (1 : Int32)), .val (.ref a90), .val (.int (-1 : Int32)), .val (.int z154), .val (.int z168), .val (.int z182), .val (.int (1 : Int32)), .val (.int (1 : Int32)), .unset] [.int ((own_add (own_s0 kc) s k0).2.1.getD s 0)]
          refine C.iload (q := 303) at_301 rfl rfl ?_
          refine C.icmpNe (q := 310) (q' := 306) at_303 (by decide) (by decide) rfl (fun h303 => ?_) (fun h303 => absurd (q_nx0) h303)
          refine C.iconst (q := 307) (z := (1 : Int32)) at_306 rfl rfl ?_
          refine C.goto (q := 311) at_307 (by decide) (by decide) ?_
          refine C.istore (q := 313) (ls' := [.val (.int a), .val (.int b), .val (.int c), .val (.int dd), .val (.int e), .val (.int f), .val (.int (Int32.ofNat kc)), .val (.int (Int32.ofNat k0)), .val (.int (Int32.ofNat k1)), .val (.int (Int32.ofNat k2)), .val (.int (Int32.ofNat s)), .val (.int (Int32.ofNat (d + 1))), .val (.int (Int32.ofNat s)), .val (.int (Int32.ofNat ((s + (d + 1)) % 3))), .val (.int (Int32.ofNat ((s + 2 * (d + 1)) % 3))), .val (.int (1 : Int32)), .val (.ref a90), .val (.int (-1 : Int32)), .val (.int z154), .val (.int z168), .val (.int z182), .val (.int (1 : Int32)), .val (.int (1 : Int32)), .unset]) at_311 rfl rfl ?_
          refine C.iload (q := 315) at_313 rfl rfl ?_
          refine C.iconst (q := 316) (z := (2 : Int32)) at_315 rfl rfl ?_
          refine C.icmpLt (q := 353) (q' := 319) at_316 (by decide) (by decide) rfl (fun h316 => ?_) (fun h316 => absurd (by decide) h316)
          refine C.iload (q := 355) at_353 rfl rfl ?_
          refine C.iconst (q := 356) (z := (3 : Int32)) at_355 rfl rfl ?_
          refine C.icmpLt (q := 403) (q' := 359) at_356 (by decide) (by decide) rfl (fun h356 => ?_) (fun h356 => absurd (by decide) h356)
          refine C.iload (q := 405) at_403 rfl rfl ?_
          refine C.iconst (q := 406) (z := (1 : Int32)) at_405 rfl rfl ?_
          refine C.icmpLt (q := 468) (q' := 409) at_406 (by decide) (by decide) rfl (fun h406 => absurd h406 (by decide)) (fun h406 => ?_)
          refine C.iload (q := 411) at_409 rfl rfl ?_
          refine C.iconst (q := 412) (z := (3 : Int32)) at_411 rfl rfl ?_
          refine C.icmpLt (q := 425) (q' := 415) at_412 (by decide) (by decide) rfl (fun h412 => ?_) (fun h412 => absurd (by decide) h412)
          refine C.iload (q := 427) at_425 rfl rfl ?_
          refine C.iconst (q := 428) (z := (2 : Int32)) at_427 rfl rfl ?_
          refine C.icmpLt (q := 441) (q' := 431) at_428 (by decide) (by decide) rfl (fun h428 => ?_) (fun h428 => absurd (by decide) h428)
          refine C.iload (q := 443) at_441 rfl rfl ?_
          refine C.istore (q := 445) (ls' := [.val (.int a), .val (.int b), .val (.int c), .val (.int dd), .val (.int e), .val (.int f), .val (.int (Int32.ofNat kc)), .val (.int (Int32.ofNat k0)), .val (.int (Int32.ofNat k1)), .val (.int (Int32.ofNat k2)), .val (.int (Int32.ofNat s)), .val (.int (Int32.ofNat (d + 1))), .val (.int (Int32.ofNat s)), .val (.int (Int32.ofNat ((s + (d + 1)) % 3))), .val (.int (Int32.ofNat ((s + 2 * (d + 1)) % 3))), .val (.int (1 : Int32)), .val (.ref a90), .val (.int (-1 : Int32)), .val (.int z154), .val (.int z168), .val (.int z182), .val (.int (1 : Int32)), .val (.int (1 : Int32)), .val (.int (Int32.ofNat s))]) at_443 rfl rfl ?_
          refine C.iload (q := 447) at_445 rfl rfl ?_
          refine C.ifEq (q := 465) (q' := 450) at_447 (by decide) (by decide) rfl (fun h447 => absurd h447 (by decide)) (fun h447 => ?_)
          refine C.aload (q := 452) at_450 rfl rfl rfl ?_
          refine C.iconst (q := 453) (z := (0 : Int32)) at_452 rfl rfl ?_
          refine C.callV (q := 456) 0 0 [.int (0 : Int32)] [] at_453 (hw _ (List.mem_of_getElem? (i := 38) rfl)) (hw _ (List.mem_of_getElem? (i := 39) rfl)) (hw _ (List.mem_of_getElem? (i := 40) rfl)) (hw _ (List.mem_of_getElem? (i := 41) rfl)) (hw _ (List.mem_of_getElem? (i := 3) rfl)) (hw _ (List.mem_of_getElem? (i := 42) rfl)) (own_c3 l Z a0 n0 hw [] a90 h x m (own_add (own_s0 kc) s k0) 0 (by decide) (own_fB.ok q_b0).1 (own_fB.ok q_b0).2.1 (own_fB.ok q_b0).2.2) (by decide) (by decide) (by decide) own_pd3 rfl rfl rfl rfl (Nat.le_of_eq rfl) (by decide) (by decide) rfl ?_
          rintro _ _ ⟨rfl, hE⟩
          rw [hE]
          show G 4 13 [(a90, .inr ("com/example/terms_to_transitions/termstotransitions/equivalence/TransitionLists", [("heads", "[I", .ref h), ("nexts", "[I", .ref x), ("keysMet", "[I", .ref m), ("keysMetCount", "I", .int ((own_add (own_s0 kc) s k0).2.2.2))])), (h, .inl (.int, (own_vl (own_add (own_s0 kc) s k0).1))), (x, .inl (.int, (own_vl (own_add (own_s0 kc) s k0).2.1))), (m, .inl (.int, (own_vl (own_add (own_s0 kc) s k0).2.2.1)))] 456 [.val (.int a), .val (.int b), .val (.int c), .val (.int dd), .val (.int e), .val (.int f), .val (.int (Int32.ofNat kc)), .val (.int (Int32.ofNat k0)), .val (.int (Int32.ofNat k1)), .val (.int (Int32.ofNat k2)), .val (.int (Int32.ofNat s)), .val (.int (Int32.ofNat (d + 1))), .val (.int (Int32.ofNat s)), .val (.int (Int32.ofNat ((s + (d + 1)) % 3))), .val (.int (Int32.ofNat ((s + 2 * (d + 1)) % 3))), .val (.int (1 : Int32)), .val (.ref a90), .val (.int (-1 : Int32)), .val (.int z154), .val (.int z168), .val (.int z182), .val (.int (1 : Int32)), .val (.int (1 : Int32)), .val (.int (Int32.ofNat s))] [.int ((own_add (own_s0 kc) s k0).1.getD ((own_add (own_s0 kc) s k0).2.2.1.getD 0 0).toNatClampNeg 0)]
          refine C.iload (q := 458) at_456 rfl rfl ?_
          refine C.icmpNe (q := 465) (q' := 461) at_458 (by decide) (by decide) rfl (fun h458 => ?_) (fun h458 => absurd (q_f0) h458)
          refine C.iconst (q := 462) (z := (1 : Int32)) at_461 rfl rfl ?_
          refine C.goto (q := 466) at_462 (by decide) (by decide) ?_
          refine C.istore (q := 468) (ls' := [.val (.int a), .val (.int b), .val (.int c), .val (.int dd), .val (.int e), .val (.int f), .val (.int (Int32.ofNat kc)), .val (.int (Int32.ofNat k0)), .val (.int (Int32.ofNat k1)), .val (.int (Int32.ofNat k2)), .val (.int (Int32.ofNat s)), .val (.int (Int32.ofNat (d + 1))), .val (.int (Int32.ofNat s)), .val (.int (Int32.ofNat ((s + (d + 1)) % 3))), .val (.int (Int32.ofNat ((s + 2 * (d + 1)) % 3))), .val (.int (1 : Int32)), .val (.ref a90), .val (.int (-1 : Int32)), .val (.int z154), .val (.int z168), .val (.int z182), .val (.int (1 : Int32)), .val (.int (1 : Int32)), .val (.int (Int32.ofNat s))]) at_466 rfl rfl ?_
          refine C.iload (q := 470) at_468 rfl rfl ?_
          refine C.iconst (q := 471) (z := (2 : Int32)) at_470 rfl rfl ?_
          refine C.icmpLt (q := 527) (q' := 474) at_471 (by decide) (by decide) rfl (fun h471 => ?_) (fun h471 => absurd (by decide) h471)
          refine C.iload (q := 529) at_527 rfl rfl ?_
          refine C.iconst (q := 530) (z := (3 : Int32)) at_529 rfl rfl ?_
          refine C.icmpLt (q := 556) (q' := 533) at_530 (by decide) (by decide) rfl (fun h530 => ?_) (fun h530 => absurd (by decide) h530)
          refine C.iload (q := 558) at_556 rfl rfl ?_
          exact C.retB (by simp) at_558 (by decide) (by decide) rfl
        refine C.icmpNe (q := 189) (q' := 185) at_182 (by decide) (by decide) rfl (fun h182 => ?_) (fun h182 => ?_)
        · refine C.iconst (q := 186) (z := (1 : Int32)) at_185 rfl rfl ?_
          refine C.goto (q := 190) at_186 (by decide) (by decide) ?_
          exact J182 _ (Or.inl trivial)
        · refine C.iconst (q := 190) (z := (0 : Int32)) at_189 rfl rfl ?_
          exact J182 _ (Or.inl trivial)
      refine C.icmpNe (q := 175) (q' := 171) at_168 (by decide) (by decide) rfl (fun h168 => ?_) (fun h168 => ?_)
      · refine C.iconst (q := 172) (z := (1 : Int32)) at_171 rfl rfl ?_
        refine C.goto (q := 176) at_172 (by decide) (by decide) ?_
        exact J168 _ (Or.inl trivial)
      · refine C.iconst (q := 176) (z := (0 : Int32)) at_175 rfl rfl ?_
        exact J168 _ (Or.inl trivial)
    refine C.icmpNe (q := 161) (q' := 157) at_154 (by decide) (by decide) rfl (fun h154 => ?_) (fun h154 => ?_)
    · refine C.iconst (q := 158) (z := (1 : Int32)) at_157 rfl rfl ?_
      refine C.goto (q := 162) at_158 (by decide) (by decide) ?_
      exact J154 _ (Or.inl trivial)
    · refine C.iconst (q := 162) (z := (0 : Int32)) at_161 rfl rfl ?_
      exact J154 _ (Or.inl trivial)
  · rw [ec]
    show G 0 0 [] 88 [.val (.int a), .val (.int b), .val (.int c), .val (.int dd), .val (.int e), .val (.int f), .val (.int (Int32.ofNat kc)), .val (.int (Int32.ofNat k0)), .val (.int (Int32.ofNat k1)), .val (.int (Int32.ofNat k2)), .val (.int (Int32.ofNat s)), .val (.int (Int32.ofNat (d + 1))), .val (.int (Int32.ofNat s)), .val (.int (Int32.ofNat ((s + (d + 1)) % 3))), .val (.int (Int32.ofNat ((s + 2 * (d + 1)) % 3))), .unset, .unset, .unset, .unset, .unset, .unset, .unset, .unset, .unset] [.int (2 : Int32)]
    refine C.istore (q := 90) (ls' := [.val (.int a), .val (.int b), .val (.int c), .val (.int dd), .val (.int e), .val (.int f), .val (.int (Int32.ofNat kc)), .val (.int (Int32.ofNat k0)), .val (.int (Int32.ofNat k1)), .val (.int (Int32.ofNat k2)), .val (.int (Int32.ofNat s)), .val (.int (Int32.ofNat (d + 1))), .val (.int (Int32.ofNat s)), .val (.int (Int32.ofNat ((s + (d + 1)) % 3))), .val (.int (Int32.ofNat ((s + 2 * (d + 1)) % 3))), .val (.int (2 : Int32)), .unset, .unset, .unset, .unset, .unset, .unset, .unset, .unset]) at_88 rfl rfl ?_
    have oks := own_oks ⟨kc, by omega⟩ ⟨k0, by omega⟩ ⟨k1, by omega⟩ ⟨k2, by omega⟩ ⟨s, hs⟩ ⟨d, hd⟩ hkc.1 hk0 hk1 hk2
    refine C.newobj (q := 93) [("heads", "[I", (.array .int)), ("nexts", "[I", (.array .int)), ("keysMet", "[I", (.array .int)), ("keysMetCount", "I", .int)] (fs := [("heads", "[I", .null), ("nexts", "[I", .null), ("keysMet", "[I", .null), ("keysMetCount", "I", .int (0 : Int32))]) (k' := 1) (n' := 4) at_90 (hw _ (List.mem_of_getElem? (i := 1) rfl)) (hw _ (List.mem_of_getElem? (i := 2) rfl)) (hw _ (List.mem_of_getElem? (i := 3) rfl)) ⟨⟨Or.inr (hw _ (List.mem_of_getElem? (i := 12) rfl)), by decide⟩, ⟨⟨Or.inr (hw _ (List.mem_of_getElem? (i := 18) rfl)), by decide⟩, ⟨⟨Or.inr (hw _ (List.mem_of_getElem? (i := 20) rfl)), by decide⟩, ⟨⟨Or.inl (hw _ (List.mem_of_getElem? (i := 27) rfl)), by decide⟩, trivial⟩⟩⟩⟩ (by decide) (by decide) (by decide) rfl rfl rfl rfl (fun a90 => ?_)
    show G 1 4 [(a90, .inr ("com/example/terms_to_transitions/termstotransitions/equivalence/TransitionLists", [("heads", "[I", .null), ("nexts", "[I", .null), ("keysMet", "[I", .null), ("keysMetCount", "I", .int (0 : Int32))]))] 93 [.val (.int a), .val (.int b), .val (.int c), .val (.int dd), .val (.int e), .val (.int f), .val (.int (Int32.ofNat kc)), .val (.int (Int32.ofNat k0)), .val (.int (Int32.ofNat k1)), .val (.int (Int32.ofNat k2)), .val (.int (Int32.ofNat s)), .val (.int (Int32.ofNat (d + 1))), .val (.int (Int32.ofNat s)), .val (.int (Int32.ofNat ((s + (d + 1)) % 3))), .val (.int (Int32.ofNat ((s + 2 * (d + 1)) % 3))), .val (.int (2 : Int32)), .unset, .unset, .unset, .unset, .unset, .unset, .unset, .unset] [.ref a90]
    refine C.dup (q := 94) at_93 rfl rfl ?_
    refine C.iload (q := 96) at_94 rfl rfl ?_
    refine C.iconst (q := 97) (z := (3 : Int32)) at_96 rfl rfl ?_
    refine C.callI (q := 100) 1 a90 [.int (Int32.ofNat kc), .int (3 : Int32)] [.ref a90] at_97 (hw _ (List.mem_of_getElem? (i := 4) rfl)) (hw _ (List.mem_of_getElem? (i := 5) rfl)) (hw _ (List.mem_of_getElem? (i := 3) rfl)) (hw _ (List.mem_of_getElem? (i := 6) rfl)) (own_c5 l Z a0 n0 hw [] a90 kc hkc.2) rfl (by decide) (by decide) (by decide) own_pd1 rfl rfl rfl (Nat.le_of_eq rfl) (by decide) (by decide) rfl ?_
    rintro _ _ ⟨rfl, h, x, m, rfl⟩
    show G 4 13 [(a90, .inr ("com/example/terms_to_transitions/termstotransitions/equivalence/TransitionLists", [("heads", "[I", .ref h), ("nexts", "[I", .ref x), ("keysMet", "[I", .ref m), ("keysMetCount", "I", .int ((own_s0 kc).2.2.2))])), (h, .inl (.int, (own_vl (own_s0 kc).1))), (x, .inl (.int, (own_vl (own_s0 kc).2.1))), (m, .inl (.int, (own_vl (own_s0 kc).2.2.1)))] 100 [.val (.int a), .val (.int b), .val (.int c), .val (.int dd), .val (.int e), .val (.int f), .val (.int (Int32.ofNat kc)), .val (.int (Int32.ofNat k0)), .val (.int (Int32.ofNat k1)), .val (.int (Int32.ofNat k2)), .val (.int (Int32.ofNat s)), .val (.int (Int32.ofNat (d + 1))), .val (.int (Int32.ofNat s)), .val (.int (Int32.ofNat ((s + (d + 1)) % 3))), .val (.int (Int32.ofNat ((s + 2 * (d + 1)) % 3))), .val (.int (2 : Int32)), .unset, .unset, .unset, .unset, .unset, .unset, .unset, .unset] [.ref a90]
    refine C.astore (q := 102) (ls' := [.val (.int a), .val (.int b), .val (.int c), .val (.int dd), .val (.int e), .val (.int f), .val (.int (Int32.ofNat kc)), .val (.int (Int32.ofNat k0)), .val (.int (Int32.ofNat k1)), .val (.int (Int32.ofNat k2)), .val (.int (Int32.ofNat s)), .val (.int (Int32.ofNat (d + 1))), .val (.int (Int32.ofNat s)), .val (.int (Int32.ofNat ((s + (d + 1)) % 3))), .val (.int (Int32.ofNat ((s + 2 * (d + 1)) % 3))), .val (.int (2 : Int32)), .val (.ref a90), .unset, .unset, .unset, .unset, .unset, .unset, .unset]) at_100 rfl rfl rfl ?_
    refine C.iload (q := 104) at_102 rfl rfl ?_
    refine C.iconst (q := 105) (z := (1 : Int32)) at_104 rfl rfl ?_
    refine C.icmpLt (q := 117) (q' := 108) at_105 (by decide) (by decide) rfl (fun h105 => absurd h105 (by decide)) (fun h105 => ?_)
    refine C.aload (q := 110) at_108 rfl rfl rfl ?_
    refine C.iload (q := 112) at_110 rfl rfl ?_
    refine C.iload (q := 114) at_112 rfl rfl ?_
    refine C.callV (q := 117) 0 0 [.int (Int32.ofNat s), .int (Int32.ofNat k0)] [] at_114 (hw _ (List.mem_of_getElem? (i := 21) rfl)) (hw _ (List.mem_of_getElem? (i := 22) rfl)) (hw _ (List.mem_of_getElem? (i := 23) rfl)) (hw _ (List.mem_of_getElem? (i := 24) rfl)) (hw _ (List.mem_of_getElem? (i := 3) rfl)) (hw _ (List.mem_of_getElem? (i := 25) rfl)) (own_c1 l Z a0 n0 hw [] a90 h x m (own_s0 kc) s k0 (by omega) (by omega) (own_okB.ok oks.1)) (by decide) (by decide) (by decide) own_pd1 rfl rfl rfl rfl (Nat.le_of_eq rfl) (by decide) (by decide) rfl ?_
    rintro _ _ ⟨rfl, hE⟩
    rw [hE]
    show G 4 13 [(a90, .inr ("com/example/terms_to_transitions/termstotransitions/equivalence/TransitionLists", [("heads", "[I", .ref h), ("nexts", "[I", .ref x), ("keysMet", "[I", .ref m), ("keysMetCount", "I", .int ((own_add (own_s0 kc) s k0).2.2.2))])), (h, .inl (.int, (own_vl (own_add (own_s0 kc) s k0).1))), (x, .inl (.int, (own_vl (own_add (own_s0 kc) s k0).2.1))), (m, .inl (.int, (own_vl (own_add (own_s0 kc) s k0).2.2.1)))] 117 [.val (.int a), .val (.int b), .val (.int c), .val (.int dd), .val (.int e), .val (.int f), .val (.int (Int32.ofNat kc)), .val (.int (Int32.ofNat k0)), .val (.int (Int32.ofNat k1)), .val (.int (Int32.ofNat k2)), .val (.int (Int32.ofNat s)), .val (.int (Int32.ofNat (d + 1))), .val (.int (Int32.ofNat s)), .val (.int (Int32.ofNat ((s + (d + 1)) % 3))), .val (.int (Int32.ofNat ((s + 2 * (d + 1)) % 3))), .val (.int (2 : Int32)), .val (.ref a90), .unset, .unset, .unset, .unset, .unset, .unset, .unset] []
    refine C.iload (q := 119) at_117 rfl rfl ?_
    refine C.iconst (q := 120) (z := (2 : Int32)) at_119 rfl rfl ?_
    refine C.icmpLt (q := 132) (q' := 123) at_120 (by decide) (by decide) rfl (fun h120 => absurd h120 (by decide)) (fun h120 => ?_)
    refine C.aload (q := 125) at_123 rfl rfl rfl ?_
    refine C.iload (q := 127) at_125 rfl rfl ?_
    refine C.iload (q := 129) at_127 rfl rfl ?_
    refine C.callV (q := 132) 0 0 [.int (Int32.ofNat ((s + (d + 1)) % 3)), .int (Int32.ofNat k1)] [] at_129 (hw _ (List.mem_of_getElem? (i := 21) rfl)) (hw _ (List.mem_of_getElem? (i := 22) rfl)) (hw _ (List.mem_of_getElem? (i := 23) rfl)) (hw _ (List.mem_of_getElem? (i := 24) rfl)) (hw _ (List.mem_of_getElem? (i := 3) rfl)) (hw _ (List.mem_of_getElem? (i := 25) rfl)) (own_c1 l Z a0 n0 hw [] a90 h x m (own_add (own_s0 kc) s k0) ((s + (d + 1)) % 3) k1 (by omega) (by omega) (own_okB.ok oks.2.1)) (by decide) (by decide) (by decide) own_pd1 rfl rfl rfl rfl (Nat.le_of_eq rfl) (by decide) (by decide) rfl ?_
    rintro _ _ ⟨rfl, hE⟩
    rw [hE]
    show G 4 13 [(a90, .inr ("com/example/terms_to_transitions/termstotransitions/equivalence/TransitionLists", [("heads", "[I", .ref h), ("nexts", "[I", .ref x), ("keysMet", "[I", .ref m), ("keysMetCount", "I", .int ((own_add (own_add (own_s0 kc) s k0) ((s + (d + 1)) % 3) k1).2.2.2))])), (h, .inl (.int, (own_vl (own_add (own_add (own_s0 kc) s k0) ((s + (d + 1)) % 3) k1).1))), (x, .inl (.int, (own_vl (own_add (own_add (own_s0 kc) s k0) ((s + (d + 1)) % 3) k1).2.1))), (m, .inl (.int, (own_vl (own_add (own_add (own_s0 kc) s k0) ((s + (d + 1)) % 3) k1).2.2.1)))] 132 [.val (.int a), .val (.int b), .val (.int c), .val (.int dd), .val (.int e), .val (.int f), .val (.int (Int32.ofNat kc)), .val (.int (Int32.ofNat k0)), .val (.int (Int32.ofNat k1)), .val (.int (Int32.ofNat k2)), .val (.int (Int32.ofNat s)), .val (.int (Int32.ofNat (d + 1))), .val (.int (Int32.ofNat s)), .val (.int (Int32.ofNat ((s + (d + 1)) % 3))), .val (.int (Int32.ofNat ((s + 2 * (d + 1)) % 3))), .val (.int (2 : Int32)), .val (.ref a90), .unset, .unset, .unset, .unset, .unset, .unset, .unset] []
    refine C.iload (q := 134) at_132 rfl rfl ?_
    refine C.iconst (q := 135) (z := (3 : Int32)) at_134 rfl rfl ?_
    refine C.icmpLt (q := 147) (q' := 138) at_135 (by decide) (by decide) rfl (fun h135 => ?_) (fun h135 => absurd (by decide) h135)
    refine C.iconst (q := 148) (z := (-1 : Int32)) at_147 rfl rfl ?_
    refine C.istore (q := 150) (ls' := [.val (.int a), .val (.int b), .val (.int c), .val (.int dd), .val (.int e), .val (.int f), .val (.int (Int32.ofNat kc)), .val (.int (Int32.ofNat k0)), .val (.int (Int32.ofNat k1)), .val (.int (Int32.ofNat k2)), .val (.int (Int32.ofNat s)), .val (.int (Int32.ofNat (d + 1))), .val (.int (Int32.ofNat s)), .val (.int (Int32.ofNat ((s + (d + 1)) % 3))), .val (.int (Int32.ofNat ((s + 2 * (d + 1)) % 3))), .val (.int (2 : Int32)), .val (.ref a90), .val (.int (-1 : Int32)), .unset, .unset, .unset, .unset, .unset, .unset]) at_148 rfl rfl ?_
    refine C.iload (q := 152) at_150 rfl rfl ?_
    refine C.iload (q := 154) at_152 rfl rfl ?_
    refine C.icmpNe (q := 161) (q' := 157) at_154 (by decide) (by decide) rfl (fun h154 => ?_) (fun h154 => ?_)
    · refine C.iconst (q := 158) (z := (1 : Int32)) at_157 rfl rfl ?_
      refine C.goto (q := 162) at_158 (by decide) (by decide) ?_
      refine C.istore (q := 164) (ls' := [.val (.int a), .val (.int b), .val (.int c), .val (.int dd), .val (.int e), .val (.int f), .val (.int (Int32.ofNat kc)), .val (.int (Int32.ofNat k0)), .val (.int (Int32.ofNat k1)), .val (.int (Int32.ofNat k2)), .val (.int (Int32.ofNat s)), .val (.int (Int32.ofNat (d + 1))), .val (.int (Int32.ofNat s)), .val (.int (Int32.ofNat ((s + (d + 1)) % 3))), .val (.int (Int32.ofNat ((s + 2 * (d + 1)) % 3))), .val (.int (2 : Int32)), .val (.ref a90), .val (.int (-1 : Int32)), .val (.int (1 : Int32)), .unset, .unset, .unset, .unset, .unset]) at_162 rfl rfl ?_
      refine C.iload (q := 166) at_164 rfl rfl ?_
      refine C.iload (q := 168) at_166 rfl rfl ?_
      have J168 : ∀ (z168 : Int32), (True ∨ z168 = 0) → G 4 13 [(a90, .inr ("com/example/terms_to_transitions/termstotransitions/equivalence/TransitionLists", [("heads", "[I", .ref h), ("nexts", "[I", .ref x), ("keysMet", "[I", .ref m), ("keysMetCount", "I", .int ((own_add (own_add (own_s0 kc) s k0) ((s + (d + 1)) % 3) k1).2.2.2))])), (h, .inl (.int, (own_vl (own_add (own_add (own_s0 kc) s k0) ((s + (d + 1)) % 3) k1).1))), (x, .inl (.int, (own_vl (own_add (own_add (own_s0 kc) s k0) ((s + (d + 1)) % 3) k1).2.1))), (m, .inl (.int, (own_vl (own_add (own_add (own_s0 kc) s k0) ((s + (d + 1)) % 3) k1).2.2.1)))] 176 [.val (.int a), .val (.int b), .val (.int c), .val (.int dd), .val (.int e), .val (.int f), .val (.int (Int32.ofNat kc)), .val (.int (Int32.ofNat k0)), .val (.int (Int32.ofNat k1)), .val (.int (Int32.ofNat k2)), .val (.int (Int32.ofNat s)), .val (.int (Int32.ofNat (d + 1))), .val (.int (Int32.ofNat s)), .val (.int (Int32.ofNat ((s + (d + 1)) % 3))), .val (.int (Int32.ofNat ((s + 2 * (d + 1)) % 3))), .val (.int (2 : Int32)), .val (.ref a90), .val (.int (-1 : Int32)), .val (.int (1 : Int32)), .unset, .unset, .unset, .unset, .unset] [.int z168] := by
        intro z168 hz168
        refine C.istore (q := 178) (ls' := [.val (.int a), .val (.int b), .val (.int c), .val (.int dd), .val (.int e), .val (.int f), .val (.int (Int32.ofNat kc)), .val (.int (Int32.ofNat k0)), .val (.int (Int32.ofNat k1)), .val (.int (Int32.ofNat k2)), .val (.int (Int32.ofNat s)), .val (.int (Int32.ofNat (d + 1))), .val (.int (Int32.ofNat s)), .val (.int (Int32.ofNat ((s + (d + 1)) % 3))), .val (.int (Int32.ofNat ((s + 2 * (d + 1)) % 3))), .val (.int (2 : Int32)), .val (.ref a90), .val (.int (-1 : Int32)), .val (.int (1 : Int32)), .val (.int z168), .unset, .unset, .unset, .unset]) at_176 rfl rfl ?_
        refine C.iload (q := 180) at_178 rfl rfl ?_
        refine C.iload (q := 182) at_180 rfl rfl ?_
        have J182 : ∀ (z182 : Int32), (True ∨ z182 = 0) → G 4 13 [(a90, .inr ("com/example/terms_to_transitions/termstotransitions/equivalence/TransitionLists", [("heads", "[I", .ref h), ("nexts", "[I", .ref x), ("keysMet", "[I", .ref m), ("keysMetCount", "I", .int ((own_add (own_add (own_s0 kc) s k0) ((s + (d + 1)) % 3) k1).2.2.2))])), (h, .inl (.int, (own_vl (own_add (own_add (own_s0 kc) s k0) ((s + (d + 1)) % 3) k1).1))), (x, .inl (.int, (own_vl (own_add (own_add (own_s0 kc) s k0) ((s + (d + 1)) % 3) k1).2.1))), (m, .inl (.int, (own_vl (own_add (own_add (own_s0 kc) s k0) ((s + (d + 1)) % 3) k1).2.2.1)))] 190 [.val (.int a), .val (.int b), .val (.int c), .val (.int dd), .val (.int e), .val (.int f), .val (.int (Int32.ofNat kc)), .val (.int (Int32.ofNat k0)), .val (.int (Int32.ofNat k1)), .val (.int (Int32.ofNat k2)), .val (.int (Int32.ofNat s)), .val (.int (Int32.ofNat (d + 1))), .val (.int (Int32.ofNat s)), .val (.int (Int32.ofNat ((s + (d + 1)) % 3))), .val (.int (Int32.ofNat ((s + 2 * (d + 1)) % 3))), .val (.int (2 : Int32)), .val (.ref a90), .val (.int (-1 : Int32)), .val (.int (1 : Int32)), .val (.int z168), .unset, .unset, .unset, .unset] [.int z182] := by
          intro z182 hz182
          refine C.istore (q := 192) (ls' := [.val (.int a), .val (.int b), .val (.int c), .val (.int dd), .val (.int e), .val (.int f), .val (.int (Int32.ofNat kc)), .val (.int (Int32.ofNat k0)), .val (.int (Int32.ofNat k1)), .val (.int (Int32.ofNat k2)), .val (.int (Int32.ofNat s)), .val (.int (Int32.ofNat (d + 1))), .val (.int (Int32.ofNat s)), .val (.int (Int32.ofNat ((s + (d + 1)) % 3))), .val (.int (Int32.ofNat ((s + 2 * (d + 1)) % 3))), .val (.int (2 : Int32)), .val (.ref a90), .val (.int (-1 : Int32)), .val (.int (1 : Int32)), .val (.int z168), .val (.int z182), .unset, .unset, .unset]) at_190 rfl rfl ?_
          have FF := own_f2_100 kc (by omega) k0 (by omega) k1 (by omega) s hs d hd
          rw [if_pos ⟨hkc.1, hk0, hk1, ((own_ie (by omega) (by omega)).mp h154)⟩] at FF
          simp only [Bool.and_eq_true, decide_eq_true_eq] at FF
          obtain ⟨q_ok0, q_ok1, q_ln, q_cnt, q_nx0, q_nx1, q_b0, q_f0⟩ := FF
          refine C.iload (q := 194) at_192 rfl rfl ?_
          refine C.ifNe (q := 203) (q' := 197) at_194 (by decide) (by decide) rfl (fun h194 => absurd h194 (by decide)) (fun h194 => ?_)
          refine C.iload (q := 205) at_203 rfl rfl ?_
          refine C.iconst (q := 206) (z := (1 : Int32)) at_205 rfl rfl ?_
          refine C.icmpNe (q := 215) (q' := 209) at_206 (by decide) (by decide) rfl (fun h206 => absurd h206 (by decide)) (fun h206 => ?_)
          refine C.iload (q := 217) at_215 rfl rfl ?_
          refine C.iconst (q := 218) (z := (2 : Int32)) at_217 rfl rfl ?_
          refine C.icmpNe (q := 236) (q' := 221) at_218 (by decide) (by decide) rfl (fun h218 => ?_) (fun h218 => absurd (by decide) h218)
          refine C.iload (q := 223) at_221 rfl rfl ?_
          refine C.ifEq (q := 230) (q' := 226) at_223 (by decide) (by decide) rfl (fun h223 => absurd h223 (by decide)) (fun h223 => ?_)
          refine C.iconst (q := 227) (z := (1 : Int32)) at_226 rfl rfl ?_
          refine C.goto (q := 231) at_227 (by decide) (by decide) ?_
          refine C.istore (q := 233) (ls' := [.val (.int a), .val (.int b), .val (.int c), .val (.int dd), .val (.int e), .val (.int f), .val (.int (Int32.ofNat kc)), .val (.int (Int32.ofNat k0)), .val (.int (Int32.ofNat k1)), .val (.int (Int32.ofNat k2)), .val (.int (Int32.ofNat s)), .val (.int (Int32.ofNat (d + 1))), .val (.int (Int32.ofNat s)), .val (.int (Int32.ofNat ((s + (d + 1)) % 3))), .val (.int (Int32.ofNat ((s + 2 * (d + 1)) % 3))), .val (.int (2 : Int32)), .val (.ref a90), .val (.int (-1 : Int32)), .val (.int (1 : Int32)), .val (.int z168), .val (.int z182), .val (.int (1 : Int32)), .unset, .unset]) at_231 rfl rfl ?_
          refine C.goto (q := 266) at_233 (by decide) (by decide) ?_
          refine C.aload (q := 268) at_266 rfl rfl rfl ?_
          refine C.callV (q := 271) 0 0 [] [] at_268 (hw _ (List.mem_of_getElem? (i := 28) rfl)) (hw _ (List.mem_of_getElem? (i := 29) rfl)) (hw _ (List.mem_of_getElem? (i := 30) rfl)) (hw _ (List.mem_of_getElem? (i := 31) rfl)) (hw _ (List.mem_of_getElem? (i := 3) rfl)) (hw _ (List.mem_of_getElem? (i := 32) rfl)) (own_c2 l Z a0 n0 hw [] a90 h x m (own_add (own_add (own_s0 kc) s k0) ((s + (d + 1)) % 3) k1)) (by decide) (by decide) (by decide) own_pd2 rfl rfl rfl rfl (Nat.le_of_eq rfl) (by decide) (by decide) rfl ?_
          rintro _ _ ⟨rfl, hE⟩
          rw [hE]
          show G 4 13 [(a90, .inr ("com/example/terms_to_transitions/termstotransitions/equivalence/TransitionLists", [("heads", "[I", .ref h), ("nexts", "[I", .ref x), ("keysMet", "[I", .ref m), ("keysMetCount", "I", .int ((own_add (own_add (own_s0 kc) s k0) ((s + (d + 1)) % 3) k1).2.2.2))])), (h, .inl (.int, (own_vl (own_add (own_add (own_s0 kc) s k0) ((s + (d + 1)) % 3) k1).1))), (x, .inl (.int, (own_vl (own_add (own_add (own_s0 kc) s k0) ((s + (d + 1)) % 3) k1).2.1))), (m, .inl (.int, (own_vl (own_add (own_add (own_s0 kc) s k0) ((s + (d + 1)) % 3) k1).2.2.1)))] 271 [.val (.int a), .val (.int b), .val (.int c), .val (.int dd), .val (.int e), .val (.int f), .val (.int (Int32.ofNat kc)), .val (.int (Int32.ofNat k0)), .val (.int (Int32.ofNat k1)), .val (.int (Int32.ofNat k2)), .val (.int (Int32.ofNat s)), .val (.int (Int32.ofNat (d + 1))), .val (.int (Int32.ofNat s)), .val (.int (Int32.ofNat ((s + (d + 1)) % 3))), .val (.int (Int32.ofNat ((s + 2 * (d + 1)) % 3))), .val (.int (2 : Int32)), .val (.ref a90), .val (.int (-1 : Int32)), .val (.int (1 : Int32)), .val (.int z168), .val (.int z182), .val (.int (1 : Int32)), .unset, .unset] [.int ((own_add (own_add (own_s0 kc) s k0) ((s + (d + 1)) % 3) k1).2.2.2)]
          refine C.iload (q := 273) at_271 rfl rfl ?_
          refine C.icmpNe (q := 280) (q' := 276) at_273 (by decide) (by decide) rfl (fun h273 => ?_) (fun h273 => absurd (q_cnt) h273)
          refine C.iconst (q := 277) (z := (1 : Int32)) at_276 rfl rfl ?_
          refine C.goto (q := 281) at_277 (by decide) (by decide) ?_
          refine C.istore (q := 283) (ls' := [.val (.int a), .val (.int b), .val (.int c), .val (.int dd), .val (.int e), .val (.int f), .val (.int (Int32.ofNat kc)), .val (.int (Int32.ofNat k0)), .val (.int (Int32.ofNat k1)), .val (.int (Int32.ofNat k2)), .val (.int (Int32.ofNat s)), .val (.int (Int32.ofNat (d + 1))), .val (.int (Int32.ofNat s)), .val (.int (Int32.ofNat ((s + (d + 1)) % 3))), .val (.int (Int32.ofNat ((s + 2 * (d + 1)) % 3))), .val (.int (2 : Int32)), .val (.ref a90), .val (.int (-1 : Int32)), .val (.int (1 : Int32)), .val (.int z168), .val (.int z182), .val (.int (1 : Int32)), .val (.int (1 : Int32)), .unset]) at_281 rfl rfl ?_
          refine C.iload (q := 285) at_283 rfl rfl ?_
          refine C.iconst (q := 286) (z := (1 : Int32)) at_285 rfl rfl ?_
          refine C.icmpLt (q := 313) (q' := 289) at_286 (by decide) (by decide) rfl (fun h286 => absurd h286 (by decide)) (fun h286 => ?_)
          refine C.iload (q := 291) at_289 rfl rfl ?_
          refine C.ifEq (q := 310) (q' := 294) at_291 (by decide) (by decide) rfl (fun h291 => absurd h291 (by decide)) (fun h291 => ?_)
          refine C.aload (q := 296) at_294 rfl rfl rfl ?_
          refine C.iload (q := 298) at_296 rfl rfl ?_
          refine C.callV (q := 301) 0 0 [.int (Int32.ofNat s)] [] at_298 (hw _ (List.mem_of_getElem? (i := 33) rfl)) (hw _ (List.mem_of_getElem? (i := 34) rfl)) (hw _ (List.mem_of_getElem? (i := 35) rfl)) (hw _ (List.mem_of_getElem? (i := 36) rfl)) (hw _ (List.mem_of_getElem? (i := 3) rfl)) (hw _ (List.mem_of_getElem? (i := 37) rfl)) (own_c4 l Z a0 n0 hw [] a90 h x m (own_add (own_add (own_s0 kc) s k0) ((s + (d + 1)) % 3) k1) s (by omega) (by rw [q_ln]; omega)) (by decide) (by decide) (by decide) own_pd3 rfl rfl rfl rfl (Nat.le_of_eq rfl) (by decide) (by decide) rfl ?_
          rintro _ _ ⟨rfl, hE⟩
          rw [hE]
          show G 4 13 [(a90, .inr ("com/example/terms_to_transitions/termstotransitions/equivalence/TransitionLists", [("heads", "[I", .ref h), ("nexts", "[I", .ref x), ("keysMet", "[I", .ref m), ("keysMetCount", "I", .int ((own_add (own_add (own_s0 kc) s k0) ((s + (d + 1)) % 3) k1).2.2.2))])), (h, .inl (.int, (own_vl (own_add (own_add (own_s0 kc) s k0) ((s + (d + 1)) % 3) k1).1))), (x, .inl (.int, (own_vl (own_add (own_add (own_s0 kc) s k0) ((s + (d + 1)) % 3) k1).2.1))), (m, .inl (.int, (own_vl (own_add (own_add (own_s0 kc) s k0) ((s + (d + 1)) % 3) k1).2.2.1)))] 301 [.val (.int a), .val (.int b), .val (.int c), .val (.int dd), .val (.int e), .val (.int f), .val (.int (Int32.ofNat kc)), .val (.int (Int32.ofNat k0)), .val (.int (Int32.ofNat k1)), .val (.int (Int32.ofNat k2)), .val (.int (Int32.ofNat s)), .val (.int (Int32.ofNat (d + 1))), .val (.int (Int32.ofNat s)), .val (.int (Int32.ofNat ((s + (d + 1)) % 3))), .val (.int (Int32.ofNat ((s + 2 * (d + 1)) % 3))), .val (.int (2 : Int32)), .val (.ref a90), .val (.int (-1 : Int32)), .val (.int (1 : Int32)), .val (.int z168), .val (.int z182), .val (.int (1 : Int32)), .val (.int (1 : Int32)), .unset] [.int ((own_add (own_add (own_s0 kc) s k0) ((s + (d + 1)) % 3) k1).2.1.getD s 0)]
          refine C.iload (q := 303) at_301 rfl rfl ?_
          refine C.icmpNe (q := 310) (q' := 306) at_303 (by decide) (by decide) rfl (fun h303 => ?_) (fun h303 => absurd (q_nx0) h303)
          refine C.iconst (q := 307) (z := (1 : Int32)) at_306 rfl rfl ?_
          refine C.goto (q := 311) at_307 (by decide) (by decide) ?_
          refine C.istore (q := 313) (ls' := [.val (.int a), .val (.int b), .val (.int c), .val (.int dd), .val (.int e), .val (.int f), .val (.int (Int32.ofNat kc)), .val (.int (Int32.ofNat k0)), .val (.int (Int32.ofNat k1)), .val (.int (Int32.ofNat k2)), .val (.int (Int32.ofNat s)), .val (.int (Int32.ofNat (d + 1))), .val (.int (Int32.ofNat s)), .val (.int (Int32.ofNat ((s + (d + 1)) % 3))), .val (.int (Int32.ofNat ((s + 2 * (d + 1)) % 3))), .val (.int (2 : Int32)), .val (.ref a90), .val (.int (-1 : Int32)), .val (.int (1 : Int32)), .val (.int z168), .val (.int z182), .val (.int (1 : Int32)), .val (.int (1 : Int32)), .unset]) at_311 rfl rfl ?_
          refine C.iload (q := 315) at_313 rfl rfl ?_
          refine C.iconst (q := 316) (z := (2 : Int32)) at_315 rfl rfl ?_
          refine C.icmpLt (q := 353) (q' := 319) at_316 (by decide) (by decide) rfl (fun h316 => absurd h316 (by decide)) (fun h316 => ?_)
          refine C.iload (q := 321) at_319 rfl rfl ?_
          refine C.ifEq (q := 350) (q' := 324) at_321 (by decide) (by decide) rfl (fun h321 => absurd h321 (by decide)) (fun h321 => ?_)
          refine C.aload (q := 326) at_324 rfl rfl rfl ?_
          refine C.iload (q := 328) at_326 rfl rfl ?_
          refine C.callV (q := 331) 0 0 [.int (Int32.ofNat ((s + (d + 1)) % 3))] [] at_328 (hw _ (List.mem_of_getElem? (i := 33) rfl)) (hw _ (List.mem_of_getElem? (i := 34) rfl)) (hw _ (List.mem_of_getElem? (i := 35) rfl)) (hw _ (List.mem_of_getElem? (i := 36) rfl)) (hw _ (List.mem_of_getElem? (i := 3) rfl)) (hw _ (List.mem_of_getElem? (i := 37) rfl)) (own_c4 l Z a0 n0 hw [] a90 h x m (own_add (own_add (own_s0 kc) s k0) ((s + (d + 1)) % 3) k1) ((s + (d + 1)) % 3) (by omega) (by rw [q_ln]; omega)) (by decide) (by decide) (by decide) own_pd3 rfl rfl rfl rfl (Nat.le_of_eq rfl) (by decide) (by decide) rfl ?_
          rintro _ _ ⟨rfl, hE⟩
          rw [hE]
          show G 4 13 [(a90, .inr ("com/example/terms_to_transitions/termstotransitions/equivalence/TransitionLists", [("heads", "[I", .ref h), ("nexts", "[I", .ref x), ("keysMet", "[I", .ref m), ("keysMetCount", "I", .int ((own_add (own_add (own_s0 kc) s k0) ((s + (d + 1)) % 3) k1).2.2.2))])), (h, .inl (.int, (own_vl (own_add (own_add (own_s0 kc) s k0) ((s + (d + 1)) % 3) k1).1))), (x, .inl (.int, (own_vl (own_add (own_add (own_s0 kc) s k0) ((s + (d + 1)) % 3) k1).2.1))), (m, .inl (.int, (own_vl (own_add (own_add (own_s0 kc) s k0) ((s + (d + 1)) % 3) k1).2.2.1)))] 331 [.val (.int a), .val (.int b), .val (.int c), .val (.int dd), .val (.int e), .val (.int f), .val (.int (Int32.ofNat kc)), .val (.int (Int32.ofNat k0)), .val (.int (Int32.ofNat k1)), .val (.int (Int32.ofNat k2)), .val (.int (Int32.ofNat s)), .val (.int (Int32.ofNat (d + 1))), .val (.int (Int32.ofNat s)), .val (.int (Int32.ofNat ((s + (d + 1)) % 3))), .val (.int (Int32.ofNat ((s + 2 * (d + 1)) % 3))), .val (.int (2 : Int32)), .val (.ref a90), .val (.int (-1 : Int32)), .val (.int (1 : Int32)), .val (.int z168), .val (.int z182), .val (.int (1 : Int32)), .val (.int (1 : Int32)), .unset] [.int ((own_add (own_add (own_s0 kc) s k0) ((s + (d + 1)) % 3) k1).2.1.getD ((s + (d + 1)) % 3) 0)]
          refine C.iload (q := 333) at_331 rfl rfl ?_
          refine C.ifEq (q := 341) (q' := 336) at_333 (by decide) (by decide) rfl (fun h333 => absurd h333 (by decide)) (fun h333 => ?_)
          refine C.iload (q := 338) at_336 rfl rfl ?_
          refine C.goto (q := 343) at_338 (by decide) (by decide) ?_
          refine C.icmpNe (q := 350) (q' := 346) at_343 (by decide) (by decide) rfl (fun h343 => ?_) (fun h343 => absurd (q_nx1) h343)
          refine C.iconst (q := 347) (z := (1 : Int32)) at_346 rfl rfl ?_
          refine C.goto (q := 351) at_347 (by decide) (by decide) ?_
          refine C.istore (q := 353) (ls' := [.val (.int a), .val (.int b), .val (.int c), .val (.int dd), .val (.int e), .val (.int f), .val (.int (Int32.ofNat kc)), .val (.int (Int32.ofNat k0)), .val (.int (Int32.ofNat k1)), .val (.int (Int32.ofNat k2)), .val (.int (Int32.ofNat s)), .val (.int (Int32.ofNat (d + 1))), .val (.int (Int32.ofNat s)), .val (.int (Int32.ofNat ((s + (d + 1)) % 3))), .val (.int (Int32.ofNat ((s + 2 * (d + 1)) % 3))), .val (.int (2 : Int32)), .val (.ref a90), .val (.int (-1 : Int32)), .val (.int (1 : Int32)), .val (.int z168), .val (.int z182), .val (.int (1 : Int32)), .val (.int (1 : Int32)), .unset]) at_351 rfl rfl ?_
          refine C.iload (q := 355) at_353 rfl rfl ?_
          refine C.iconst (q := 356) (z := (3 : Int32)) at_355 rfl rfl ?_
          refine C.icmpLt (q := 403) (q' := 359) at_356 (by decide) (by decide) rfl (fun h356 => ?_) (fun h356 => absurd (by decide) h356)
          refine C.iload (q := 405) at_403 rfl rfl ?_
          refine C.iconst (q := 406) (z := (1 : Int32)) at_405 rfl rfl ?_
          refine C.icmpLt (q := 468) (q' := 409) at_406 (by decide) (by decide) rfl (fun h406 => absurd h406 (by decide)) (fun h406 => ?_)
          refine C.iload (q := 411) at_409 rfl rfl ?_
          refine C.iconst (q := 412) (z := (3 : Int32)) at_411 rfl rfl ?_
          refine C.icmpLt (q := 425) (q' := 415) at_412 (by decide) (by decide) rfl (fun h412 => ?_) (fun h412 => absurd (by decide) h412)
          refine C.iload (q := 427) at_425 rfl rfl ?_
          refine C.iconst (q := 428) (z := (2 : Int32)) at_427 rfl rfl ?_
          refine C.icmpLt (q := 441) (q' := 431) at_428 (by decide) (by decide) rfl (fun h428 => absurd h428 (by decide)) (fun h428 => ?_)
          refine C.iload (q := 433) at_431 rfl rfl ?_
          refine C.ifEq (q := 441) (q' := 436) at_433 (by decide) (by decide) rfl (fun h433 => absurd h433 (by decide)) (fun h433 => ?_)
          refine C.iload (q := 438) at_436 rfl rfl ?_
          refine C.goto (q := 443) at_438 (by decide) (by decide) ?_
          refine C.istore (q := 445) (ls' := [.val (.int a), .val (.int b), .val (.int c), .val (.int dd), .val (.int e), .val (.int f), .val (.int (Int32.ofNat kc)), .val (.int (Int32.ofNat k0)), .val (.int (Int32.ofNat k1)), .val (.int (Int32.ofNat k2)), .val (.int (Int32.ofNat s)), .val (.int (Int32.ofNat (d + 1))), .val (.int (Int32.ofNat s)), .val (.int (Int32.ofNat ((s + (d + 1)) % 3))), .val (.int (Int32.ofNat ((s + 2 * (d + 1)) % 3))), .val (.int (2 : Int32)), .val (.ref a90), .val (.int (-1 : Int32)), .val (.int (1 : Int32)), .val (.int z168), .val (.int z182), .val (.int (1 : Int32)), .val (.int (1 : Int32)), .val (.int (Int32.ofNat ((s + (d + 1)) % 3)))]) at_443 rfl rfl ?_
          refine C.iload (q := 447) at_445 rfl rfl ?_
          refine C.ifEq (q := 465) (q' := 450) at_447 (by decide) (by decide) rfl (fun h447 => absurd h447 (by decide)) (fun h447 => ?_)
          refine C.aload (q := 452) at_450 rfl rfl rfl ?_
          refine C.iconst (q := 453) (z := (0 : Int32)) at_452 rfl rfl ?_
          refine C.callV (q := 456) 0 0 [.int (0 : Int32)] [] at_453 (hw _ (List.mem_of_getElem? (i := 38) rfl)) (hw _ (List.mem_of_getElem? (i := 39) rfl)) (hw _ (List.mem_of_getElem? (i := 40) rfl)) (hw _ (List.mem_of_getElem? (i := 41) rfl)) (hw _ (List.mem_of_getElem? (i := 3) rfl)) (hw _ (List.mem_of_getElem? (i := 42) rfl)) (own_c3 l Z a0 n0 hw [] a90 h x m (own_add (own_add (own_s0 kc) s k0) ((s + (d + 1)) % 3) k1) 0 (by decide) (own_fB.ok q_b0).1 (own_fB.ok q_b0).2.1 (own_fB.ok q_b0).2.2) (by decide) (by decide) (by decide) own_pd3 rfl rfl rfl rfl (Nat.le_of_eq rfl) (by decide) (by decide) rfl ?_
          rintro _ _ ⟨rfl, hE⟩
          rw [hE]
          show G 4 13 [(a90, .inr ("com/example/terms_to_transitions/termstotransitions/equivalence/TransitionLists", [("heads", "[I", .ref h), ("nexts", "[I", .ref x), ("keysMet", "[I", .ref m), ("keysMetCount", "I", .int ((own_add (own_add (own_s0 kc) s k0) ((s + (d + 1)) % 3) k1).2.2.2))])), (h, .inl (.int, (own_vl (own_add (own_add (own_s0 kc) s k0) ((s + (d + 1)) % 3) k1).1))), (x, .inl (.int, (own_vl (own_add (own_add (own_s0 kc) s k0) ((s + (d + 1)) % 3) k1).2.1))), (m, .inl (.int, (own_vl (own_add (own_add (own_s0 kc) s k0) ((s + (d + 1)) % 3) k1).2.2.1)))] 456 [.val (.int a), .val (.int b), .val (.int c), .val (.int dd), .val (.int e), .val (.int f), .val (.int (Int32.ofNat kc)), .val (.int (Int32.ofNat k0)), .val (.int (Int32.ofNat k1)), .val (.int (Int32.ofNat k2)), .val (.int (Int32.ofNat s)), .val (.int (Int32.ofNat (d + 1))), .val (.int (Int32.ofNat s)), .val (.int (Int32.ofNat ((s + (d + 1)) % 3))), .val (.int (Int32.ofNat ((s + 2 * (d + 1)) % 3))), .val (.int (2 : Int32)), .val (.ref a90), .val (.int (-1 : Int32)), .val (.int (1 : Int32)), .val (.int z168), .val (.int z182), .val (.int (1 : Int32)), .val (.int (1 : Int32)), .val (.int (Int32.ofNat ((s + (d + 1)) % 3)))] [.int ((own_add (own_add (own_s0 kc) s k0) ((s + (d + 1)) % 3) k1).1.getD ((own_add (own_add (own_s0 kc) s k0) ((s + (d + 1)) % 3) k1).2.2.1.getD 0 0).toNatClampNeg 0)]
          refine C.iload (q := 458) at_456 rfl rfl ?_
          refine C.icmpNe (q := 465) (q' := 461) at_458 (by decide) (by decide) rfl (fun h458 => ?_) (fun h458 => absurd (q_f0) h458)
          refine C.iconst (q := 462) (z := (1 : Int32)) at_461 rfl rfl ?_
          refine C.goto (q := 466) at_462 (by decide) (by decide) ?_
          refine C.istore (q := 468) (ls' := [.val (.int a), .val (.int b), .val (.int c), .val (.int dd), .val (.int e), .val (.int f), .val (.int (Int32.ofNat kc)), .val (.int (Int32.ofNat k0)), .val (.int (Int32.ofNat k1)), .val (.int (Int32.ofNat k2)), .val (.int (Int32.ofNat s)), .val (.int (Int32.ofNat (d + 1))), .val (.int (Int32.ofNat s)), .val (.int (Int32.ofNat ((s + (d + 1)) % 3))), .val (.int (Int32.ofNat ((s + 2 * (d + 1)) % 3))), .val (.int (2 : Int32)), .val (.ref a90), .val (.int (-1 : Int32)), .val (.int (1 : Int32)), .val (.int z168), .val (.int z182), .val (.int (1 : Int32)), .val (.int (1 : Int32)), .val (.int (Int32.ofNat ((s + (d + 1)) % 3)))]) at_466 rfl rfl ?_
          refine C.iload (q := 470) at_468 rfl rfl ?_
          refine C.iconst (q := 471) (z := (2 : Int32)) at_470 rfl rfl ?_
          refine C.icmpLt (q := 527) (q' := 474) at_471 (by decide) (by decide) rfl (fun h471 => ?_) (fun h471 => absurd (by decide) h471)
          refine C.iload (q := 529) at_527 rfl rfl ?_
          refine C.iconst (q := 530) (z := (3 : Int32)) at_529 rfl rfl ?_
          refine C.icmpLt (q := 556) (q' := 533) at_530 (by decide) (by decide) rfl (fun h530 => ?_) (fun h530 => absurd (by decide) h530)
          refine C.iload (q := 558) at_556 rfl rfl ?_
          exact C.retB (by simp) at_558 (by decide) (by decide) rfl
        refine C.icmpNe (q := 189) (q' := 185) at_182 (by decide) (by decide) rfl (fun h182 => ?_) (fun h182 => ?_)
        · refine C.iconst (q := 186) (z := (1 : Int32)) at_185 rfl rfl ?_
          refine C.goto (q := 190) at_186 (by decide) (by decide) ?_
          exact J182 _ (Or.inl trivial)
        · refine C.iconst (q := 190) (z := (0 : Int32)) at_189 rfl rfl ?_
          exact J182 _ (Or.inl trivial)
      refine C.icmpNe (q := 175) (q' := 171) at_168 (by decide) (by decide) rfl (fun h168 => ?_) (fun h168 => ?_)
      · refine C.iconst (q := 172) (z := (1 : Int32)) at_171 rfl rfl ?_
        refine C.goto (q := 176) at_172 (by decide) (by decide) ?_
        exact J168 _ (Or.inl trivial)
      · refine C.iconst (q := 176) (z := (0 : Int32)) at_175 rfl rfl ?_
        exact J168 _ (Or.inl trivial)
    · refine C.iconst (q := 162) (z := (0 : Int32)) at_161 rfl rfl ?_
      refine C.istore (q := 164) (ls' := [.val (.int a), .val (.int b), .val (.int c), .val (.int dd), .val (.int e), .val (.int f), .val (.int (Int32.ofNat kc)), .val (.int (Int32.ofNat k0)), .val (.int (Int32.ofNat k1)), .val (.int (Int32.ofNat k2)), .val (.int (Int32.ofNat s)), .val (.int (Int32.ofNat (d + 1))), .val (.int (Int32.ofNat s)), .val (.int (Int32.ofNat ((s + (d + 1)) % 3))), .val (.int (Int32.ofNat ((s + 2 * (d + 1)) % 3))), .val (.int (2 : Int32)), .val (.ref a90), .val (.int (-1 : Int32)), .val (.int (0 : Int32)), .unset, .unset, .unset, .unset, .unset]) at_162 rfl rfl ?_
      refine C.iload (q := 166) at_164 rfl rfl ?_
      refine C.iload (q := 168) at_166 rfl rfl ?_
      have J168 : ∀ (z168 : Int32), (True ∨ z168 = 0) → G 4 13 [(a90, .inr ("com/example/terms_to_transitions/termstotransitions/equivalence/TransitionLists", [("heads", "[I", .ref h), ("nexts", "[I", .ref x), ("keysMet", "[I", .ref m), ("keysMetCount", "I", .int ((own_add (own_add (own_s0 kc) s k0) ((s + (d + 1)) % 3) k1).2.2.2))])), (h, .inl (.int, (own_vl (own_add (own_add (own_s0 kc) s k0) ((s + (d + 1)) % 3) k1).1))), (x, .inl (.int, (own_vl (own_add (own_add (own_s0 kc) s k0) ((s + (d + 1)) % 3) k1).2.1))), (m, .inl (.int, (own_vl (own_add (own_add (own_s0 kc) s k0) ((s + (d + 1)) % 3) k1).2.2.1)))] 176 [.val (.int a), .val (.int b), .val (.int c), .val (.int dd), .val (.int e), .val (.int f), .val (.int (Int32.ofNat kc)), .val (.int (Int32.ofNat k0)), .val (.int (Int32.ofNat k1)), .val (.int (Int32.ofNat k2)), .val (.int (Int32.ofNat s)), .val (.int (Int32.ofNat (d + 1))), .val (.int (Int32.ofNat s)), .val (.int (Int32.ofNat ((s + (d + 1)) % 3))), .val (.int (Int32.ofNat ((s + 2 * (d + 1)) % 3))), .val (.int (2 : Int32)), .val (.ref a90), .val (.int (-1 : Int32)), .val (.int (0 : Int32)), .unset, .unset, .unset, .unset, .unset] [.int z168] := by
        intro z168 hz168
        refine C.istore (q := 178) (ls' := [.val (.int a), .val (.int b), .val (.int c), .val (.int dd), .val (.int e), .val (.int f), .val (.int (Int32.ofNat kc)), .val (.int (Int32.ofNat k0)), .val (.int (Int32.ofNat k1)), .val (.int (Int32.ofNat k2)), .val (.int (Int32.ofNat s)), .val (.int (Int32.ofNat (d + 1))), .val (.int (Int32.ofNat s)), .val (.int (Int32.ofNat ((s + (d + 1)) % 3))), .val (.int (Int32.ofNat ((s + 2 * (d + 1)) % 3))), .val (.int (2 : Int32)), .val (.ref a90), .val (.int (-1 : Int32)), .val (.int (0 : Int32)), .val (.int z168), .unset, .unset, .unset, .unset]) at_176 rfl rfl ?_
        refine C.iload (q := 180) at_178 rfl rfl ?_
        refine C.iload (q := 182) at_180 rfl rfl ?_
        have J182 : ∀ (z182 : Int32), (True ∨ z182 = 0) → G 4 13 [(a90, .inr ("com/example/terms_to_transitions/termstotransitions/equivalence/TransitionLists", [("heads", "[I", .ref h), ("nexts", "[I", .ref x), ("keysMet", "[I", .ref m), ("keysMetCount", "I", .int ((own_add (own_add (own_s0 kc) s k0) ((s + (d + 1)) % 3) k1).2.2.2))])), (h, .inl (.int, (own_vl (own_add (own_add (own_s0 kc) s k0) ((s + (d + 1)) % 3) k1).1))), (x, .inl (.int, (own_vl (own_add (own_add (own_s0 kc) s k0) ((s + (d + 1)) % 3) k1).2.1))), (m, .inl (.int, (own_vl (own_add (own_add (own_s0 kc) s k0) ((s + (d + 1)) % 3) k1).2.2.1)))] 190 [.val (.int a), .val (.int b), .val (.int c), .val (.int dd), .val (.int e), .val (.int f), .val (.int (Int32.ofNat kc)), .val (.int (Int32.ofNat k0)), .val (.int (Int32.ofNat k1)), .val (.int (Int32.ofNat k2)), .val (.int (Int32.ofNat s)), .val (.int (Int32.ofNat (d + 1))), .val (.int (Int32.ofNat s)), .val (.int (Int32.ofNat ((s + (d + 1)) % 3))), .val (.int (Int32.ofNat ((s + 2 * (d + 1)) % 3))), .val (.int (2 : Int32)), .val (.ref a90), .val (.int (-1 : Int32)), .val (.int (0 : Int32)), .val (.int z168), .unset, .unset, .unset, .unset] [.int z182] := by
          intro z182 hz182
          refine C.istore (q := 192) (ls' := [.val (.int a), .val (.int b), .val (.int c), .val (.int dd), .val (.int e), .val (.int f), .val (.int (Int32.ofNat kc)), .val (.int (Int32.ofNat k0)), .val (.int (Int32.ofNat k1)), .val (.int (Int32.ofNat k2)), .val (.int (Int32.ofNat s)), .val (.int (Int32.ofNat (d + 1))), .val (.int (Int32.ofNat s)), .val (.int (Int32.ofNat ((s + (d + 1)) % 3))), .val (.int (Int32.ofNat ((s + 2 * (d + 1)) % 3))), .val (.int (2 : Int32)), .val (.ref a90), .val (.int (-1 : Int32)), .val (.int (0 : Int32)), .val (.int z168), .val (.int z182), .unset, .unset, .unset]) at_190 rfl rfl ?_
          have FF := own_f2_000 kc (by omega) k0 (by omega) k1 (by omega) s hs d hd
          rw [if_pos ⟨hkc.1, hk0, hk1, (fun z => h154 (congrArg Int32.ofNat z))⟩] at FF
          simp only [Bool.and_eq_true, decide_eq_true_eq] at FF
          obtain ⟨q_ok0, q_ok1, q_ln, q_cnt, q_nx0, q_nx1, q_b0, q_f0, q_b1, q_f1⟩ := FF
          refine C.iload (q := 194) at_192 rfl rfl ?_
          refine C.ifNe (q := 203) (q' := 197) at_194 (by decide) (by decide) rfl (fun h194 => absurd h194 (by decide)) (fun h194 => ?_)
          refine C.iload (q := 205) at_203 rfl rfl ?_
          refine C.iconst (q := 206) (z := (1 : Int32)) at_205 rfl rfl ?_
          refine C.icmpNe (q := 215) (q' := 209) at_206 (by decide) (by decide) rfl (fun h206 => absurd h206 (by decide)) (fun h206 => ?_)
          refine C.iload (q := 217) at_215 rfl rfl ?_
          refine C.iconst (q := 218) (z := (2 : Int32)) at_217 rfl rfl ?_
          refine C.icmpNe (q := 236) (q' := 221) at_218 (by decide) (by decide) rfl (fun h218 => ?_) (fun h218 => absurd (by decide) h218)
          refine C.iload (q := 223) at_221 rfl rfl ?_
          refine C.ifEq (q := 230) (q' := 226) at_223 (by decide) (by decide) rfl (fun h223 => ?_) (fun h223 => absurd (by decide) h223)
          refine C.iconst (q := 231) (z := (2 : Int32)) at_230 rfl rfl ?_
          refine C.istore (q := 233) (ls' := [.val (.int a), .val (.int b), .val (.int c), .val (.int dd), .val (.int e), .val (.int f), .val (.int (Int32.ofNat kc)), .val (.int (Int32.ofNat k0)), .val (.int (Int32.ofNat k1)), .val (.int (Int32.ofNat k2)), .val (.int (Int32.ofNat s)), .val (.int (Int32.ofNat (d + 1))), .val (.int (Int32.ofNat s)), .val (.int (Int32.ofNat ((s + (d + 1)) % 3))), .val (.int (Int32.ofNat ((s + 2 * (d + 1)) % 3))), .val (.int (2 : Int32)), .val (.ref a90), .val (.int (-1 : Int32)), .val (.int (0 : Int32)), .val (.int z168), .val (.int z182), .val (.int (2 : Int32)), .unset, .unset]) at_231 rfl rfl ?_
          refine C.goto (q := 266) at_233 (by decide) (by decide) ?_
          refine C.aload (q := 268) at_266 rfl rfl rfl ?_
          refine C.callV (q := 271) 0 0 [] [] at_268 (hw _ (List.mem_of_getElem? (i := 28) rfl)) (hw _ (List.mem_of_getElem? (i := 29) rfl)) (hw _ (List.mem_of_getElem? (i := 30) rfl)) (hw _ (List.mem_of_getElem? (i := 31) rfl)) (hw _ (List.mem_of_getElem? (i := 3) rfl)) (hw _ (List.mem_of_getElem? (i := 32) rfl)) (own_c2 l Z a0 n0 hw [] a90 h x m (own_add (own_add (own_s0 kc) s k0) ((s + (d + 1)) % 3) k1)) (by decide) (by decide) (by decide) own_pd2 rfl rfl rfl rfl (Nat.le_of_eq rfl) (by decide) (by decide) rfl ?_
          rintro _ _ ⟨rfl, hE⟩
          rw [hE]
          show G 4 13 [(a90, .inr ("com/example/terms_to_transitions/termstotransitions/equivalence/TransitionLists", [("heads", "[I", .ref h), ("nexts", "[I", .ref x), ("keysMet", "[I", .ref m), ("keysMetCount", "I", .int ((own_add (own_add (own_s0 kc) s k0) ((s + (d + 1)) % 3) k1).2.2.2))])), (h, .inl (.int, (own_vl (own_add (own_add (own_s0 kc) s k0) ((s + (d + 1)) % 3) k1).1))), (x, .inl (.int, (own_vl (own_add (own_add (own_s0 kc) s k0) ((s + (d + 1)) % 3) k1).2.1))), (m, .inl (.int, (own_vl (own_add (own_add (own_s0 kc) s k0) ((s + (d + 1)) % 3) k1).2.2.1)))] 271 [.val (.int a), .val (.int b), .val (.int c), .val (.int dd), .val (.int e), .val (.int f), .val (.int (Int32.ofNat kc)), .val (.int (Int32.ofNat k0)), .val (.int (Int32.ofNat k1)), .val (.int (Int32.ofNat k2)), .val (.int (Int32.ofNat s)), .val (.int (Int32.ofNat (d + 1))), .val (.int (Int32.ofNat s)), .val (.int (Int32.ofNat ((s + (d + 1)) % 3))), .val (.int (Int32.ofNat ((s + 2 * (d + 1)) % 3))), .val (.int (2 : Int32)), .val (.ref a90), .val (.int (-1 : Int32)), .val (.int (0 : Int32)), .val (.int z168), .val (.int z182), .val (.int (2 : Int32)), .unset, .unset] [.int ((own_add (own_add (own_s0 kc) s k0) ((s + (d + 1)) % 3) k1).2.2.2)]
          refine C.iload (q := 273) at_271 rfl rfl ?_
          refine C.icmpNe (q := 280) (q' := 276) at_273 (by decide) (by decide) rfl (fun h273 => ?_) (fun h273 => absurd (q_cnt) h273)
          refine C.iconst (q := 277) (z := (1 : Int32)) at_276 rfl rfl ?_
          refine C.goto (q := 281) at_277 (by decide) (by decide) ?_
          refine C.istore (q := 283) (ls' := [.val (.int a), .val (.int b), .val (.int c), .val (.int dd), .val (.int e), .val (.int f), .val (.int (Int32.ofNat kc)), .val (.int (Int32.ofNat k0)), .val (.int (Int32.ofNat k1)), .val (.int (Int32.ofNat k2)), .val (.int (Int32.ofNat s)), .val (.int (Int32.ofNat (d + 1))), .val (.int (Int32.ofNat s)), .val (.int (Int32.ofNat ((s + (d + 1)) % 3))), .val (.int (Int32.ofNat ((s + 2 * (d + 1)) % 3))), .val (.int (2 : Int32)), .val (.ref a90), .val (.int (-1 : Int32)), .val (.int (0 : Int32)), .val (.int z168), .val (.int z182), .val (.int (2 : Int32)), .val (.int (1 : Int32)), .unset]) at_281 rfl rfl ?_
          refine C.iload (q := 285) at_283 rfl rfl ?_
          refine C.iconst (q := 286) (z := (1 : Int32)) at_285 rfl rfl ?_
          refine C.icmpLt (q := 313) (q' := 289) at_286 (by decide) (by decide) rfl (fun h286 => absurd h286 (by decide)) (fun h286 => ?_)
          refine C.iload (q := 291) at_289 rfl rfl ?_
          refine C.ifEq (q := 310) (q' := 294) at_291 (by decide) (by decide) rfl (fun h291 => absurd h291 (by decide)) (fun h291 => ?_)
          refine C.aload (q := 296) at_294 rfl rfl rfl ?_
          refine C.iload (q := 298) at_296 rfl rfl ?_
          refine C.callV (q := 301) 0 0 [.int (Int32.ofNat s)] [] at_298 (hw _ (List.mem_of_getElem? (i := 33) rfl)) (hw _ (List.mem_of_getElem? (i := 34) rfl)) (hw _ (List.mem_of_getElem? (i := 35) rfl)) (hw _ (List.mem_of_getElem? (i := 36) rfl)) (hw _ (List.mem_of_getElem? (i := 3) rfl)) (hw _ (List.mem_of_getElem? (i := 37) rfl)) (own_c4 l Z a0 n0 hw [] a90 h x m (own_add (own_add (own_s0 kc) s k0) ((s + (d + 1)) % 3) k1) s (by omega) (by rw [q_ln]; omega)) (by decide) (by decide) (by decide) own_pd3 rfl rfl rfl rfl (Nat.le_of_eq rfl) (by decide) (by decide) rfl ?_
          rintro _ _ ⟨rfl, hE⟩
          rw [hE]
          show G 4 13 [(a90, .inr ("com/example/terms_to_transitions/termstotransitions/equivalence/TransitionLists", [("heads", "[I", .ref h), ("nexts", "[I", .ref x), ("keysMet", "[I", .ref m), ("keysMetCount", "I", .int ((own_add (own_add (own_s0 kc) s k0) ((s + (d + 1)) % 3) k1).2.2.2))])), (h, .inl (.int, (own_vl (own_add (own_add (own_s0 kc) s k0) ((s + (d + 1)) % 3) k1).1))), (x, .inl (.int, (own_vl (own_add (own_add (own_s0 kc) s k0) ((s + (d + 1)) % 3) k1).2.1))), (m, .inl (.int, (own_vl (own_add (own_add (own_s0 kc) s k0) ((s + (d + 1)) % 3) k1).2.2.1)))] 301 [.val (.int a), .val (.int b), .val (.int c), .val (.int dd), .val (.int e), .val (.int f), .val (.int (Int32.ofNat kc)), .val (.int (Int32.ofNat k0)), .val (.int (Int32.ofNat k1)), .val (.int (Int32.ofNat k2)), .val (.int (Int32.ofNat s)), .val (.int (Int32.ofNat (d + 1))), .val (.int (Int32.ofNat s)), .val (.int (Int32.ofNat ((s + (d + 1)) % 3))), .val (.int (Int32.ofNat ((s + 2 * (d + 1)) % 3))), .val (.int (2 : Int32)), .val (.ref a90), .val (.int (-1 : Int32)), .val (.int (0 : Int32)), .val (.int z168), .val (.int z182), .val (.int (2 : Int32)), .val (.int (1 : Int32)), .unset] [.int ((own_add (own_add (own_s0 kc) s k0) ((s + (d + 1)) % 3) k1).2.1.getD s 0)]
          refine C.iload (q := 303) at_301 rfl rfl ?_
          refine C.icmpNe (q := 310) (q' := 306) at_303 (by decide) (by decide) rfl (fun h303 => ?_) (fun h303 => absurd (q_nx0) h303)
          refine C.iconst (q := 307) (z := (1 : Int32)) at_306 rfl rfl ?_
          refine C.goto (q := 311) at_307 (by decide) (by decide) ?_
          refine C.istore (q := 313) (ls' := [.val (.int a), .val (.int b), .val (.int c), .val (.int dd), .val (.int e), .val (.int f), .val (.int (Int32.ofNat kc)), .val (.int (Int32.ofNat k0)), .val (.int (Int32.ofNat k1)), .val (.int (Int32.ofNat k2)), .val (.int (Int32.ofNat s)), .val (.int (Int32.ofNat (d + 1))), .val (.int (Int32.ofNat s)), .val (.int (Int32.ofNat ((s + (d + 1)) % 3))), .val (.int (Int32.ofNat ((s + 2 * (d + 1)) % 3))), .val (.int (2 : Int32)), .val (.ref a90), .val (.int (-1 : Int32)), .val (.int (0 : Int32)), .val (.int z168), .val (.int z182), .val (.int (2 : Int32)), .val (.int (1 : Int32)), .unset]) at_311 rfl rfl ?_
          refine C.iload (q := 315) at_313 rfl rfl ?_
          refine C.iconst (q := 316) (z := (2 : Int32)) at_315 rfl rfl ?_
          refine C.icmpLt (q := 353) (q' := 319) at_316 (by decide) (by decide) rfl (fun h316 => absurd h316 (by decide)) (fun h316 => ?_)
          refine C.iload (q := 321) at_319 rfl rfl ?_
          refine C.ifEq (q := 350) (q' := 324) at_321 (by decide) (by decide) rfl (fun h321 => absurd h321 (by decide)) (fun h321 => ?_)
          refine C.aload (q := 326) at_324 rfl rfl rfl ?_
          refine C.iload (q := 328) at_326 rfl rfl ?_
          refine C.callV (q := 331) 0 0 [.int (Int32.ofNat ((s + (d + 1)) % 3))] [] at_328 (hw _ (List.mem_of_getElem? (i := 33) rfl)) (hw _ (List.mem_of_getElem? (i := 34) rfl)) (hw _ (List.mem_of_getElem? (i := 35) rfl)) (hw _ (List.mem_of_getElem? (i := 36) rfl)) (hw _ (List.mem_of_getElem? (i := 3) rfl)) (hw _ (List.mem_of_getElem? (i := 37) rfl)) (own_c4 l Z a0 n0 hw [] a90 h x m (own_add (own_add (own_s0 kc) s k0) ((s + (d + 1)) % 3) k1) ((s + (d + 1)) % 3) (by omega) (by rw [q_ln]; omega)) (by decide) (by decide) (by decide) own_pd3 rfl rfl rfl rfl (Nat.le_of_eq rfl) (by decide) (by decide) rfl ?_
          rintro _ _ ⟨rfl, hE⟩
          rw [hE]
          show G 4 13 [(a90, .inr ("com/example/terms_to_transitions/termstotransitions/equivalence/TransitionLists", [("heads", "[I", .ref h), ("nexts", "[I", .ref x), ("keysMet", "[I", .ref m), ("keysMetCount", "I", .int ((own_add (own_add (own_s0 kc) s k0) ((s + (d + 1)) % 3) k1).2.2.2))])), (h, .inl (.int, (own_vl (own_add (own_add (own_s0 kc) s k0) ((s + (d + 1)) % 3) k1).1))), (x, .inl (.int, (own_vl (own_add (own_add (own_s0 kc) s k0) ((s + (d + 1)) % 3) k1).2.1))), (m, .inl (.int, (own_vl (own_add (own_add (own_s0 kc) s k0) ((s + (d + 1)) % 3) k1).2.2.1)))] 331 [.val (.int a), .val (.int b), .val (.int c), .val (.int dd), .val (.int e), .val (.int f), .val (.int (Int32.ofNat kc)), .val (.int (Int32.ofNat k0)), .val (.int (Int32.ofNat k1)), .val (.int (Int32.ofNat k2)), .val (.int (Int32.ofNat s)), .val (.int (Int32.ofNat (d + 1))), .val (.int (Int32.ofNat s)), .val (.int (Int32.ofNat ((s + (d + 1)) % 3))), .val (.int (Int32.ofNat ((s + 2 * (d + 1)) % 3))), .val (.int (2 : Int32)), .val (.ref a90), .val (.int (-1 : Int32)), .val (.int (0 : Int32)), .val (.int z168), .val (.int z182), .val (.int (2 : Int32)), .val (.int (1 : Int32)), .unset] [.int ((own_add (own_add (own_s0 kc) s k0) ((s + (d + 1)) % 3) k1).2.1.getD ((s + (d + 1)) % 3) 0)]
          refine C.iload (q := 333) at_331 rfl rfl ?_
          refine C.ifEq (q := 341) (q' := 336) at_333 (by decide) (by decide) rfl (fun h333 => ?_) (fun h333 => absurd (by decide) h333)
          refine C.iload (q := 343) at_341 rfl rfl ?_
          refine C.icmpNe (q := 350) (q' := 346) at_343 (by decide) (by decide) rfl (fun h343 => ?_) (fun h343 => absurd (q_nx1) h343)
          refine C.iconst (q := 347) (z := (1 : Int32)) at_346 rfl rfl ?_
          refine C.goto (q := 351) at_347 (by decide) (by decide) ?_
          refine C.istore (q := 353) (ls' := [.val (.int a), .val (.int b), .val (.int c), .val (.int dd), .val (.int e), .val (.int f), .val (.int (Int32.ofNat kc)), .val (.int (Int32.ofNat k0)), .val (.int (Int32.ofNat k1)), .val (.int (Int32.ofNat k2)), .val (.int (Int32.ofNat s)), .val (.int (Int32.ofNat (d + 1))), .val (.int (Int32.ofNat s)), .val (.int (Int32.ofNat ((s + (d + 1)) % 3))), .val (.int (Int32.ofNat ((s + 2 * (d + 1)) % 3))), .val (.int (2 : Int32)), .val (.ref a90), .val (.int (-1 : Int32)), .val (.int (0 : Int32)), .val (.int z168), .val (.int z182), .val (.int (2 : Int32)), .val (.int (1 : Int32)), .unset]) at_351 rfl rfl ?_
          refine C.iload (q := 355) at_353 rfl rfl ?_
          refine C.iconst (q := 356) (z := (3 : Int32)) at_355 rfl rfl ?_
          refine C.icmpLt (q := 403) (q' := 359) at_356 (by decide) (by decide) rfl (fun h356 => ?_) (fun h356 => absurd (by decide) h356)
          refine C.iload (q := 405) at_403 rfl rfl ?_
          refine C.iconst (q := 406) (z := (1 : Int32)) at_405 rfl rfl ?_
          refine C.icmpLt (q := 468) (q' := 409) at_406 (by decide) (by decide) rfl (fun h406 => absurd h406 (by decide)) (fun h406 => ?_)
          refine C.iload (q := 411) at_409 rfl rfl ?_
          refine C.iconst (q := 412) (z := (3 : Int32)) at_411 rfl rfl ?_
          refine C.icmpLt (q := 425) (q' := 415) at_412 (by decide) (by decide) rfl (fun h412 => ?_) (fun h412 => absurd (by decide) h412)
          refine C.iload (q := 427) at_425 rfl rfl ?_
          refine C.iconst (q := 428) (z := (2 : Int32)) at_427 rfl rfl ?_
          refine C.icmpLt (q := 441) (q' := 431) at_428 (by decide) (by decide) rfl (fun h428 => absurd h428 (by decide)) (fun h428 => ?_)
          refine C.iload (q := 433) at_431 rfl rfl ?_
          refine C.ifEq (q := 441) (q' := 436) at_433 (by decide) (by decide) rfl (fun h433 => ?_) (fun h433 => absurd (by decide) h433)
          refine C.iload (q := 443) at_441 rfl rfl ?_
          refine C.istore (q := 445) (ls' := [.val (.int a), .val (.int b), .val (.int c), .val (.int dd), .val (.int e), .val (.int f), .val (.int (Int32.ofNat kc)), .val (.int (Int32.ofNat k0)), .val (.int (Int32.ofNat k1)), .val (.int (Int32.ofNat k2)), .val (.int (Int32.ofNat s)), .val (.int (Int32.ofNat (d + 1))), .val (.int (Int32.ofNat s)), .val (.int (Int32.ofNat ((s + (d + 1)) % 3))), .val (.int (Int32.ofNat ((s + 2 * (d + 1)) % 3))), .val (.int (2 : Int32)), .val (.ref a90), .val (.int (-1 : Int32)), .val (.int (0 : Int32)), .val (.int z168), .val (.int z182), .val (.int (2 : Int32)), .val (.int (1 : Int32)), .val (.int (Int32.ofNat s))]) at_443 rfl rfl ?_
          refine C.iload (q := 447) at_445 rfl rfl ?_
          refine C.ifEq (q := 465) (q' := 450) at_447 (by decide) (by decide) rfl (fun h447 => absurd h447 (by decide)) (fun h447 => ?_)
          refine C.aload (q := 452) at_450 rfl rfl rfl ?_
          refine C.iconst (q := 453) (z := (0 : Int32)) at_452 rfl rfl ?_
          refine C.callV (q := 456) 0 0 [.int (0 : Int32)] [] at_453 (hw _ (List.mem_of_getElem? (i := 38) rfl)) (hw _ (List.mem_of_getElem? (i := 39) rfl)) (hw _ (List.mem_of_getElem? (i := 40) rfl)) (hw _ (List.mem_of_getElem? (i := 41) rfl)) (hw _ (List.mem_of_getElem? (i := 3) rfl)) (hw _ (List.mem_of_getElem? (i := 42) rfl)) (own_c3 l Z a0 n0 hw [] a90 h x m (own_add (own_add (own_s0 kc) s k0) ((s + (d + 1)) % 3) k1) 0 (by decide) (own_fB.ok q_b0).1 (own_fB.ok q_b0).2.1 (own_fB.ok q_b0).2.2) (by decide) (by decide) (by decide) own_pd3 rfl rfl rfl rfl (Nat.le_of_eq rfl) (by decide) (by decide) rfl ?_
          rintro _ _ ⟨rfl, hE⟩
          rw [hE]
          show G 4 13 [(a90, .inr ("com/example/terms_to_transitions/termstotransitions/equivalence/TransitionLists", [("heads", "[I", .ref h), ("nexts", "[I", .ref x), ("keysMet", "[I", .ref m), ("keysMetCount", "I", .int ((own_add (own_add (own_s0 kc) s k0) ((s + (d + 1)) % 3) k1).2.2.2))])), (h, .inl (.int, (own_vl (own_add (own_add (own_s0 kc) s k0) ((s + (d + 1)) % 3) k1).1))), (x, .inl (.int, (own_vl (own_add (own_add (own_s0 kc) s k0) ((s + (d + 1)) % 3) k1).2.1))), (m, .inl (.int, (own_vl (own_add (own_add (own_s0 kc) s k0) ((s + (d + 1)) % 3) k1).2.2.1)))] 456 [.val (.int a), .val (.int b), .val (.int c), .val (.int dd), .val (.int e), .val (.int f), .val (.int (Int32.ofNat kc)), .val (.int (Int32.ofNat k0)), .val (.int (Int32.ofNat k1)), .val (.int (Int32.ofNat k2)), .val (.int (Int32.ofNat s)), .val (.int (Int32.ofNat (d + 1))), .val (.int (Int32.ofNat s)), .val (.int (Int32.ofNat ((s + (d + 1)) % 3))), .val (.int (Int32.ofNat ((s + 2 * (d + 1)) % 3))), .val (.int (2 : Int32)), .val (.ref a90), .val (.int (-1 : Int32)), .val (.int (0 : Int32)), .val (.int z168), .val (.int z182), .val (.int (2 : Int32)), .val (.int (1 : Int32)), .val (.int (Int32.ofNat s))] [.int ((own_add (own_add (own_s0 kc) s k0) ((s + (d + 1)) % 3) k1).1.getD ((own_add (own_add (own_s0 kc) s k0) ((s + (d + 1)) % 3) k1).2.2.1.getD 0 0).toNatClampNeg 0)]
          refine C.iload (q := 458) at_456 rfl rfl ?_
          refine C.icmpNe (q := 465) (q' := 461) at_458 (by decide) (by decide) rfl (fun h458 => ?_) (fun h458 => absurd (q_f0) h458)
          refine C.iconst (q := 462) (z := (1 : Int32)) at_461 rfl rfl ?_
          refine C.goto (q := 466) at_462 (by decide) (by decide) ?_
          refine C.istore (q := 468) (ls' := [.val (.int a), .val (.int b), .val (.int c), .val (.int dd), .val (.int e), .val (.int f), .val (.int (Int32.ofNat kc)), .val (.int (Int32.ofNat k0)), .val (.int (Int32.ofNat k1)), .val (.int (Int32.ofNat k2)), .val (.int (Int32.ofNat s)), .val (.int (Int32.ofNat (d + 1))), .val (.int (Int32.ofNat s)), .val (.int (Int32.ofNat ((s + (d + 1)) % 3))), .val (.int (Int32.ofNat ((s + 2 * (d + 1)) % 3))), .val (.int (2 : Int32)), .val (.ref a90), .val (.int (-1 : Int32)), .val (.int (0 : Int32)), .val (.int z168), .val (.int z182), .val (.int (2 : Int32)), .val (.int (1 : Int32)), .val (.int (Int32.ofNat s))]) at_466 rfl rfl ?_
          refine C.iload (q := 470) at_468 rfl rfl ?_
          refine C.iconst (q := 471) (z := (2 : Int32)) at_470 rfl rfl ?_
          refine C.icmpLt (q := 527) (q' := 474) at_471 (by decide) (by decide) rfl (fun h471 => absurd h471 (by decide)) (fun h471 => ?_)
          refine C.iload (q := 476) at_474 rfl rfl ?_
          refine C.ifNe (q := 500) (q' := 479) at_476 (by decide) (by decide) rfl (fun h476 => ?_) (fun h476 => absurd (by decide) h476)
          refine C.iload (q := 481) at_479 rfl rfl ?_
          refine C.iconst (q := 482) (z := (3 : Int32)) at_481 rfl rfl ?_
          refine C.icmpLt (q := 495) (q' := 485) at_482 (by decide) (by decide) rfl (fun h482 => ?_) (fun h482 => absurd (by decide) h482)
          refine C.iload (q := 497) at_495 rfl rfl ?_
          refine C.goto (q := 502) at_497 (by decide) (by decide) ?_
          refine C.istore (q := 504) (ls' := [.val (.int a), .val (.int b), .val (.int c), .val (.int dd), .val (.int e), .val (.int f), .val (.int (Int32.ofNat kc)), .val (.int (Int32.ofNat k0)), .val (.int (Int32.ofNat k1)), .val (.int (Int32.ofNat k2)), .val (.int (Int32.ofNat s)), .val (.int (Int32.ofNat (d + 1))), .val (.int (Int32.ofNat s)), .val (.int (Int32.ofNat ((s + (d + 1)) % 3))), .val (.int (Int32.ofNat ((s + 2 * (d + 1)) % 3))), .val (.int (2 : Int32)), .val (.ref a90), .val (.int (-1 : Int32)), .val (.int (0 : Int32)), .val (.int z168), .val (.int z182), .val (.int (2 : Int32)), .val (.int (1 : Int32)), .val (.int (Int32.ofNat ((s + (d + 1)) % 3)))]) at_502 rfl rfl ?_
          refine C.iload (q := 506) at_504 rfl rfl ?_
          refine C.ifEq (q := 524) (q' := 509) at_506 (by decide) (by decide) rfl (fun h506 => absurd h506 (by decide)) (fun h506 => ?_)
          refine C.aload (q := 511) at_509 rfl rfl rfl ?_
          refine C.iconst (q := 512) (z := (1 : Int32)) at_511 rfl rfl ?_
          refine C.callV (q := 515) 0 0 [.int (1 : Int32)] [] at_512 (hw _ (List.mem_of_getElem? (i := 38) rfl)) (hw _ (List.mem_of_getElem? (i := 39) rfl)) (hw _ (List.mem_of_getElem? (i := 40) rfl)) (hw _ (List.mem_of_getElem? (i := 41) rfl)) (hw _ (List.mem_of_getElem? (i := 3) rfl)) (hw _ (List.mem_of_getElem? (i := 42) rfl)) (own_c3 l Z a0 n0 hw [] a90 h x m (own_add (own_add (own_s0 kc) s k0) ((s + (d + 1)) % 3) k1) 1 (by decide) (own_fB.ok q_b1).1 (own_fB.ok q_b1).2.1 (own_fB.ok q_b1).2.2) (by decide) (by decide) (by decide) own_pd3 rfl rfl rfl rfl (Nat.le_of_eq rfl) (by decide) (by decide) rfl ?_
          rintro _ _ ⟨rfl, hE⟩
          rw [hE]
          show G 4 13 [(a90, .inr ("com/example/terms_to_transitions/termstotransitions/equivalence/TransitionLists", [("heads", "[I", .ref h), ("nexts", "[I", .ref x), ("keysMet", "[I", .ref m), ("keysMetCount", "I", .int ((own_add (own_add (own_s0 kc) s k0) ((s + (d + 1)) % 3) k1).2.2.2))])), (h, .inl (.int, (own_vl (own_add (own_add (own_s0 kc) s k0) ((s + (d + 1)) % 3) k1).1))), (x, .inl (.int, (own_vl (own_add (own_add (own_s0 kc) s k0) ((s + (d + 1)) % 3) k1).2.1))), (m, .inl (.int, (own_vl (own_add (own_add (own_s0 kc) s k0) ((s + (d + 1)) % 3) k1).2.2.1)))] 515 [.val (.int a), .val (.int b), .val (.int c), .val (.int dd), .val (.int e), .val (.int f), .val (.int (Int32.ofNat kc)), .val (.int (Int32.ofNat k0)), .val (.int (Int32.ofNat k1)), .val (.int (Int32.ofNat k2)), .val (.int (Int32.ofNat s)), .val (.int (Int32.ofNat (d + 1))), .val (.int (Int32.ofNat s)), .val (.int (Int32.ofNat ((s + (d + 1)) % 3))), .val (.int (Int32.ofNat ((s + 2 * (d + 1)) % 3))), .val (.int (2 : Int32)), .val (.ref a90), .val (.int (-1 : Int32)), .val (.int (0 : Int32)), .val (.int z168), .val (.int z182), .val (.int (2 : Int32)), .val (.int (1 : Int32)), .val (.int (Int32.ofNat ((s + (d + 1)) % 3)))] [.int ((own_add (own_add (own_s0 kc) s k0) ((s + (d + 1)) % 3) k1).1.getD ((own_add (own_add (own_s0 kc) s k0) ((s + (d + 1)) % 3) k1).2.2.1.getD 1 0).toNatClampNeg 0)]
          refine C.iload (q := 517) at_515 rfl rfl ?_
          refine C.icmpNe (q := 524) (q' := 520) at_517 (by decide) (by decide) rfl (fun h517 => ?_) (fun h517 => absurd (q_f1) h517)
          refine C.iconst (q := 521) (z := (1 : Int32)) at_520 rfl rfl ?_
          refine C.goto (q := 525) at_521 (by decide) (by decide) ?_
          refine C.istore (q := 527) (ls' := [.val (.int a), .val (.int b), .val (.int c), .val (.int dd), .val (.int e), .val (.int f), .val (.int (Int32.ofNat kc)), .val (.int (Int32.ofNat k0)), .val (.int (Int32.ofNat k1)), .val (.int (Int32.ofNat k2)), .val (.int (Int32.ofNat s)), .val (.int (Int32.ofNat (d + 1))), .val (.int (Int32.ofNat s)), .val (.int (Int32.ofNat ((s + (d + 1)) % 3))), .val (.int (Int32.ofNat ((s + 2 * (d + 1)) % 3))), .val (.int (2 : Int32)), .val (.ref a90), .val (.int (-1 : Int32)), .val (.int (0 : Int32)), .val (.int z168), .val (.int z182), .val (.int (2 : Int32)), .val (.int (1 : Int32)), .val (.int (Int32.ofNat ((s + (d + 1)) % 3)))]) at_525 rfl rfl ?_
          refine C.iload (q := 529) at_527 rfl rfl ?_
          refine C.iconst (q := 530) (z := (3 : Int32)) at_529 rfl rfl ?_
          refine C.icmpLt (q := 556) (q' := 533) at_530 (by decide) (by decide) rfl (fun h530 => ?_) (fun h530 => absurd (by decide) h530)
          refine C.iload (q := 558) at_556 rfl rfl ?_
          exact C.retB (by simp) at_558 (by decide) (by decide) rfl
        refine C.icmpNe (q := 189) (q' := 185) at_182 (by decide) (by decide) rfl (fun h182 => ?_) (fun h182 => ?_)
        · refine C.iconst (q := 186) (z := (1 : Int32)) at_185 rfl rfl ?_
          refine C.goto (q := 190) at_186 (by decide) (by decide) ?_
          exact J182 _ (Or.inl trivial)
        · refine C.iconst (q := 190) (z := (0 : Int32)) at_189 rfl rfl ?_
          exact J182 _ (Or.inl trivial)
      refine C.icmpNe (q := 175) (q' := 171) at_168 (by decide) (by decide) rfl (fun h168 => ?_) (fun h168 => ?_)
      · refine C.iconst (q := 172) (z := (1 : Int32)) at_171 rfl rfl ?_
        refine C.goto (q := 176) at_172 (by decide) (by decide) ?_
        exact J168 _ (Or.inl trivial)
      · refine C.iconst (q := 176) (z := (0 : Int32)) at_175 rfl rfl ?_
        exact J168 _ (Or.inl trivial)
  · rw [ec]
    show G 0 0 [] 88 [.val (.int a), .val (.int b), .val (.int c), .val (.int dd), .val (.int e), .val (.int f), .val (.int (Int32.ofNat kc)), .val (.int (Int32.ofNat k0)), .val (.int (Int32.ofNat k1)), .val (.int (Int32.ofNat k2)), .val (.int (Int32.ofNat s)), .val (.int (Int32.ofNat (d + 1))), .val (.int (Int32.ofNat s)), .val (.int (Int32.ofNat ((s + (d + 1)) % 3))), .val (.int (Int32.ofNat ((s + 2 * (d + 1)) % 3))), .unset, .unset, .unset, .unset, .unset, .unset, .unset, .unset, .unset] [.int (3 : Int32)]
    refine C.istore (q := 90) (ls' := [.val (.int a), .val (.int b), .val (.int c), .val (.int dd), .val (.int e), .val (.int f), .val (.int (Int32.ofNat kc)), .val (.int (Int32.ofNat k0)), .val (.int (Int32.ofNat k1)), .val (.int (Int32.ofNat k2)), .val (.int (Int32.ofNat s)), .val (.int (Int32.ofNat (d + 1))), .val (.int (Int32.ofNat s)), .val (.int (Int32.ofNat ((s + (d + 1)) % 3))), .val (.int (Int32.ofNat ((s + 2 * (d + 1)) % 3))), .val (.int (3 : Int32)), .unset, .unset, .unset, .unset, .unset, .unset, .unset, .unset]) at_88 rfl rfl ?_
    have oks := own_oks ⟨kc, by omega⟩ ⟨k0, by omega⟩ ⟨k1, by omega⟩ ⟨k2, by omega⟩ ⟨s, hs⟩ ⟨d, hd⟩ hkc.1 hk0 hk1 hk2
    refine C.newobj (q := 93) [("heads", "[I", (.array .int)), ("nexts", "[I", (.array .int)), ("keysMet", "[I", (.array .int)), ("keysMetCount", "I", .int)] (fs := [("heads", "[I", .null), ("nexts", "[I", .null), ("keysMet", "[I", .null), ("keysMetCount", "I", .int (0 : Int32))]) (k' := 1) (n' := 4) at_90 (hw _ (List.mem_of_getElem? (i := 1) rfl)) (hw _ (List.mem_of_getElem? (i := 2) rfl)) (hw _ (List.mem_of_getElem? (i := 3) rfl)) ⟨⟨Or.inr (hw _ (List.mem_of_getElem? (i := 12) rfl)), by decide⟩, ⟨⟨Or.inr (hw _ (List.mem_of_getElem? (i := 18) rfl)), by decide⟩, ⟨⟨Or.inr (hw _ (List.mem_of_getElem? (i := 20) rfl)), by decide⟩, ⟨⟨Or.inl (hw _ (List.mem_of_getElem? (i := 27) rfl)), by decide⟩, trivial⟩⟩⟩⟩ (by decide) (by decide) (by decide) rfl rfl rfl rfl (fun a90 => ?_)
    show G 1 4 [(a90, .inr ("com/example/terms_to_transitions/termstotransitions/equivalence/TransitionLists", [("heads", "[I", .null), ("nexts", "[I", .null), ("keysMet", "[I", .null), ("keysMetCount", "I", .int (0 : Int32))]))] 93 [.val (.int a), .val (.int b), .val (.int c), .val (.int dd), .val (.int e), .val (.int f), .val (.int (Int32.ofNat kc)), .val (.int (Int32.ofNat k0)), .val (.int (Int32.ofNat k1)), .val (.int (Int32.ofNat k2)), .val (.int (Int32.ofNat s)), .val (.int (Int32.ofNat (d + 1))), .val (.int (Int32.ofNat s)), .val (.int (Int32.ofNat ((s + (d + 1)) % 3))), .val (.int (Int32.ofNat ((s + 2 * (d + 1)) % 3))), .val (.int (3 : Int32)), .unset, .unset, .unset, .unset, .unset, .unset, .unset, .unset] [.ref a90]
    refine C.dup (q := 94) at_93 rfl rfl ?_
    refine C.iload (q := 96) at_94 rfl rfl ?_
    refine C.iconst (q := 97) (z := (3 : Int32)) at_96 rfl rfl ?_
    refine C.callI (q := 100) 1 a90 [.int (Int32.ofNat kc), .int (3 : Int32)] [.ref a90] at_97 (hw _ (List.mem_of_getElem? (i := 4) rfl)) (hw _ (List.mem_of_getElem? (i := 5) rfl)) (hw _ (List.mem_of_getElem? (i := 3) rfl)) (hw _ (List.mem_of_getElem? (i := 6) rfl)) (own_c5 l Z a0 n0 hw [] a90 kc hkc.2) rfl (by decide) (by decide) (by decide) own_pd1 rfl rfl rfl (Nat.le_of_eq rfl) (by decide) (by decide) rfl ?_
    rintro _ _ ⟨rfl, h, x, m, rfl⟩
    show G 4 13 [(a90, .inr ("com/example/terms_to_transitions/termstotransitions/equivalence/TransitionLists", [("heads", "[I", .ref h), ("nexts", "[I", .ref x), ("keysMet", "[I", .ref m), ("keysMetCount", "I", .int ((own_s0 kc).2.2.2))])), (h, .inl (.int, (own_vl (own_s0 kc).1))), (x, .inl (.int, (own_vl (own_s0 kc).2.1))), (m, .inl (.int, (own_vl (own_s0 kc).2.2.1)))] 100 [.val (.int a), .val (.int b), .val (.int c), .val (.int dd), .val (.int e), .val (.int f), .val (.int (Int32.ofNat kc)), .val (.int (Int32.ofNat k0)), .val (.int (Int32.ofNat k1)), .val (.int (Int32.ofNat k2)), .val (.int (Int32.ofNat s)), .val (.int (Int32.ofNat (d + 1))), .val (.int (Int32.ofNat s)), .val (.int (Int32.ofNat ((s + (d + 1)) % 3))), .val (.int (Int32.ofNat ((s + 2 * (d + 1)) % 3))), .val (.int (3 : Int32)), .unset, .unset, .unset, .unset, .unset, .unset, .unset, .unset] [.ref a90]
    refine C.astore (q := 102) (ls' := [.val (.int a), .val (.int b), .val (.int c), .val (.int dd), .val (.int e), .val (.int f), .val (.int (Int32.ofNat kc)), .val (.int (Int32.ofNat k0)), .val (.int (Int32.ofNat k1)), .val (.int (Int32.ofNat k2)), .val (.int (Int32.ofNat s)), .val (.int (Int32.ofNat (d + 1))), .val (.int (Int32.ofNat s)), .val (.int (Int32.ofNat ((s + (d + 1)) % 3))), .val (.int (Int32.ofNat ((s + 2 * (d + 1)) % 3))), .val (.int (3 : Int32)), .val (.ref a90), .unset, .unset, .unset, .unset, .unset, .unset, .unset]) at_100 rfl rfl rfl ?_
    refine C.iload (q := 104) at_102 rfl rfl ?_
    refine C.iconst (q := 105) (z := (1 : Int32)) at_104 rfl rfl ?_
    refine C.icmpLt (q := 117) (q' := 108) at_105 (by decide) (by decide) rfl (fun h105 => absurd h105 (by decide)) (fun h105 => ?_)
    refine C.aload (q := 110) at_108 rfl rfl rfl ?_
    refine C.iload (q := 112) at_110 rfl rfl ?_
    refine C.iload (q := 114) at_112 rfl rfl ?_
    refine C.callV (q := 117) 0 0 [.int (Int32.ofNat s), .int (Int32.ofNat k0)] [] at_114 (hw _ (List.mem_of_getElem? (i := 21) rfl)) (hw _ (List.mem_of_getElem? (i := 22) rfl)) (hw _ (List.mem_of_getElem? (i := 23) rfl)) (hw _ (List.mem_of_getElem? (i := 24) rfl)) (hw _ (List.mem_of_getElem? (i := 3) rfl)) (hw _ (List.mem_of_getElem? (i := 25) rfl)) (own_c1 l Z a0 n0 hw [] a90 h x m (own_s0 kc) s k0 (by omega) (by omega) (own_okB.ok oks.1)) (by decide) (by decide) (by decide) own_pd1 rfl rfl rfl rfl (Nat.le_of_eq rfl) (by decide) (by decide) rfl ?_
    rintro _ _ ⟨rfl, hE⟩
    rw [hE]
    show G 4 13 [(a90, .inr ("com/example/terms_to_transitions/termstotransitions/equivalence/TransitionLists", [("heads", "[I", .ref h), ("nexts", "[I", .ref x), ("keysMet", "[I", .ref m), ("keysMetCount", "I", .int ((own_add (own_s0 kc) s k0).2.2.2))])), (h, .inl (.int, (own_vl (own_add (own_s0 kc) s k0).1))), (x, .inl (.int, (own_vl (own_add (own_s0 kc) s k0).2.1))), (m, .inl (.int, (own_vl (own_add (own_s0 kc) s k0).2.2.1)))] 117 [.val (.int a), .val (.int b), .val (.int c), .val (.int dd), .val (.int e), .val (.int f), .val (.int (Int32.ofNat kc)), .val (.int (Int32.ofNat k0)), .val (.int (Int32.ofNat k1)), .val (.int (Int32.ofNat k2)), .val (.int (Int32.ofNat s)), .val (.int (Int32.ofNat (d + 1))), .val (.int (Int32.ofNat s)), .val (.int (Int32.ofNat ((s + (d + 1)) % 3))), .val (.int (Int32.ofNat ((s + 2 * (d + 1)) % 3))), .val (.int (3 : Int32)), .val (.ref a90), .unset, .unset, .unset, .unset, .unset, .unset, .unset] []
    refine C.iload (q := 119) at_117 rfl rfl ?_
    refine C.iconst (q := 120) (z := (2 : Int32)) at_119 rfl rfl ?_
    refine C.icmpLt (q := 132) (q' := 123) at_120 (by decide) (by decide) rfl (fun h120 => absurd h120 (by decide)) (fun h120 => ?_)
    refine C.aload (q := 125) at_123 rfl rfl rfl ?_
    refine C.iload (q := 127) at_125 rfl rfl ?_
    refine C.iload (q := 129) at_127 rfl rfl ?_
    refine C.callV (q := 132) 0 0 [.int (Int32.ofNat ((s + (d + 1)) % 3)), .int (Int32.ofNat k1)] [] at_129 (hw _ (List.mem_of_getElem? (i := 21) rfl)) (hw _ (List.mem_of_getElem? (i := 22) rfl)) (hw _ (List.mem_of_getElem? (i := 23) rfl)) (hw _ (List.mem_of_getElem? (i := 24) rfl)) (hw _ (List.mem_of_getElem? (i := 3) rfl)) (hw _ (List.mem_of_getElem? (i := 25) rfl)) (own_c1 l Z a0 n0 hw [] a90 h x m (own_add (own_s0 kc) s k0) ((s + (d + 1)) % 3) k1 (by omega) (by omega) (own_okB.ok oks.2.1)) (by decide) (by decide) (by decide) own_pd1 rfl rfl rfl rfl (Nat.le_of_eq rfl) (by decide) (by decide) rfl ?_
    rintro _ _ ⟨rfl, hE⟩
    rw [hE]
    show G 4 13 [(a90, .inr ("com/example/terms_to_transitions/termstotransitions/equivalence/TransitionLists", [("heads", "[I", .ref h), ("nexts", "[I", .ref x), ("keysMet", "[I", .ref m), ("keysMetCount", "I", .int ((own_add (own_add (own_s0 kc) s k0) ((s + (d + 1)) % 3) k1).2.2.2))])), (h, .inl (.int, (own_vl (own_add (own_add (own_s0 kc) s k0) ((s + (d + 1)) % 3) k1).1))), (x, .inl (.int, (own_vl (own_add (own_add (own_s0 kc) s k0) ((s + (d + 1)) % 3) k1).2.1))), (m, .inl (.int, (own_vl (own_add (own_add (own_s0 kc) s k0) ((s + (d + 1)) % 3) k1).2.2.1)))] 132 [.val (.int a), .val (.int b), .val (.int c), .val (.int dd), .val (.int e), .val (.int f), .val (.int (Int32.ofNat kc)), .val (.int (Int32.ofNat k0)), .val (.int (Int32.ofNat k1)), .val (.int (Int32.ofNat k2)), .val (.int (Int32.ofNat s)), .val (.int (Int32.ofNat (d + 1))), .val (.int (Int32.ofNat s)), .val (.int (Int32.ofNat ((s + (d + 1)) % 3))), .val (.int (Int32.ofNat ((s + 2 * (d + 1)) % 3))), .val (.int (3 : Int32)), .val (.ref a90), .unset, .unset, .unset, .unset, .unset, .unset, .unset] []
    refine C.iload (q := 134) at_132 rfl rfl ?_
    refine C.iconst (q := 135) (z := (3 : Int32)) at_134 rfl rfl ?_
    refine C.icmpLt (q := 147) (q' := 138) at_135 (by decide) (by decide) rfl (fun h135 => absurd h135 (by decide)) (fun h135 => ?_)
    refine C.aload (q := 140) at_138 rfl rfl rfl ?_
    refine C.iload (q := 142) at_140 rfl rfl ?_
    refine C.iload (q := 144) at_142 rfl rfl ?_
    refine C.callV (q := 147) 0 0 [.int (Int32.ofNat ((s + 2 * (d + 1)) % 3)), .int (Int32.ofNat k2)] [] at_144 (hw _ (List.mem_of_getElem? (i := 21) rfl)) (hw _ (List.mem_of_getElem? (i := 22) rfl)) (hw _ (List.mem_of_getElem? (i := 23) rfl)) (hw _ (List.mem_of_getElem? (i := 24) rfl)) (hw _ (List.mem_of_getElem? (i := 3) rfl)) (hw _ (List.mem_of_getElem? (i := 25) rfl)) (own_c1 l Z a0 n0 hw [] a90 h x m (own_add (own_add (own_s0 kc) s k0) ((s + (d + 1)) % 3) k1) ((s + 2 * (d + 1)) % 3) k2 (by omega) (by omega) (own_okB.ok oks.2.2)) (by decide) (by decide) (by decide) own_pd1 rfl rfl rfl rfl (Nat.le_of_eq rfl) (by decide) (by decide) rfl ?_
    rintro _ _ ⟨rfl, hE⟩
    rw [hE]
    show G 4 13 [(a90, .inr ("com/example/terms_to_transitions/termstotransitions/equivalence/TransitionLists", [("heads", "[I", .ref h), ("nexts", "[I", .ref x), ("keysMet", "[I", .ref m), ("keysMetCount", "I", .int ((own_add (own_add (own_add (own_s0 kc) s k0) ((s + (d + 1)) % 3) k1) ((s + 2 * (d + 1)) % 3) k2).2.2.2))])), (h, .inl (.int, (own_vl (own_add (own_add (own_add (own_s0 kc) s k0) ((s + (d + 1)) % 3) k1) ((s + 2 * (d + 1)) % 3) k2).1))), (x, .inl (.int, (own_vl (own_add (own_add (own_add (own_s0 kc) s k0) ((s + (d + 1)) % 3) k1) ((s + 2 * (d + 1)) % 3) k2).2.1))), (m, .inl (.int, (own_vl (own_add (own_add (own_add (own_s0 kc) s k0) ((s + (d + 1)) % 3) k1) ((s + 2 * (d + 1)) % 3) k2).2.2.1)))] 147 [.val (.int a), .val (.int b), .val (.int c), .val (.int dd), .val (.int e), .val (.int f), .val (.int (Int32.ofNat kc)), .val (.int (Int32.ofNat k0)), .val (.int (Int32.ofNat k1)), .val (.int (Int32.ofNat k2)), .val (.int (Int32.ofNat s)), .val (.int (Int32.ofNat (d + 1))), .val (.int (Int32.ofNat s)), .val (.int (Int32.ofNat ((s + (d + 1)) % 3))), .val (.int (Int32.ofNat ((s + 2 * (d + 1)) % 3))), .val (.int (3 : Int32)), .val (.ref a90), .unset, .unset, .unset, .unset, .unset, .unset, .unset] []
    refine C.iconst (q := 148) (z := (-1 : Int32)) at_147 rfl rfl ?_
    refine C.istore (q := 150) (ls' := [.val (.int a), .val (.int b), .val (.int c), .val (.int dd), .val (.int e), .val (.int f), .val (.int (Int32.ofNat kc)), .val (.int (Int32.ofNat k0)), .val (.int (Int32.ofNat k1)), .val (.int (Int32.ofNat k2)), .val (.int (Int32.ofNat s)), .val (.int (Int32.ofNat (d + 1))), .val (.int (Int32.ofNat s)), .val (.int (Int32.ofNat ((s + (d + 1)) % 3))), .val (.int (Int32.ofNat ((s + 2 * (d + 1)) % 3))), .val (.int (3 : Int32)), .val (.ref a90), .val (.int (-1 : Int32)), .unset, .unset, .unset, .unset, .unset, .unset]) at_148 rfl rfl ?_
    refine C.iload (q := 152) at_150 rfl rfl ?_
    refine C.iload (q := 154) at_152 rfl rfl ?_
    refine C.icmpNe (q := 161) (q' := 157) at_154 (by decide) (by decide) rfl (fun h154 => ?_) (fun h154 => ?_)
    · refine C.iconst (q := 158) (z := (1 : Int32)) at_157 rfl rfl ?_
      refine C.goto (q := 162) at_158 (by decide) (by decide) ?_
      refine C.istore (q := 164) (ls' := [.val (.int a), .val (.int b), .val (.int c), .val (.int dd), .val (.int e), .val (.int f), .val (.int (Int32.ofNat kc)), .val (.int (Int32.ofNat k0)), .val (.int (Int32.ofNat k1)), .val (.int (Int32.ofNat k2)), .val (.int (Int32.ofNat s)), .val (.int (Int32.ofNat (d + 1))), .val (.int (Int32.ofNat s)), .val (.int (Int32.ofNat ((s + (d + 1)) % 3))), .val (.int (Int32.ofNat ((s + 2 * (d + 1)) % 3))), .val (.int (3 : Int32)), .val (.ref a90), .val (.int (-1 : Int32)), .val (.int (1 : Int32)), .unset, .unset, .unset, .unset, .unset]) at_162 rfl rfl ?_
      refine C.iload (q := 166) at_164 rfl rfl ?_
      refine C.iload (q := 168) at_166 rfl rfl ?_
      refine C.icmpNe (q := 175) (q' := 171) at_168 (by decide) (by decide) rfl (fun h168 => ?_) (fun h168 => ?_)
      · refine C.iconst (q := 172) (z := (1 : Int32)) at_171 rfl rfl ?_
        refine C.goto (q := 176) at_172 (by decide) (by decide) ?_
        refine C.istore (q := 178) (ls' := [.val (.int a), .val (.int b), .val (.int c), .val (.int dd), .val (.int e), .val (.int f), .val (.int (Int32.ofNat kc)), .val (.int (Int32.ofNat k0)), .val (.int (Int32.ofNat k1)), .val (.int (Int32.ofNat k2)), .val (.int (Int32.ofNat s)), .val (.int (Int32.ofNat (d + 1))), .val (.int (Int32.ofNat s)), .val (.int (Int32.ofNat ((s + (d + 1)) % 3))), .val (.int (Int32.ofNat ((s + 2 * (d + 1)) % 3))), .val (.int (3 : Int32)), .val (.ref a90), .val (.int (-1 : Int32)), .val (.int (1 : Int32)), .val (.int (1 : Int32)), .unset, .unset, .unset, .unset]) at_176 rfl rfl ?_
        refine C.iload (q := 180) at_178 rfl rfl ?_
        refine C.iload (q := 182) at_180 rfl rfl ?_
        refine C.icmpNe (q := 189) (q' := 185) at_182 (by decide) (by decide) rfl (fun h182 => ?_) (fun h182 => ?_)
        · refine C.iconst (q := 186) (z := (1 : Int32)) at_185 rfl rfl ?_
          refine C.goto (q := 190) at_186 (by decide) (by decide) ?_
          refine C.istore (q := 192) (ls' := [.val (.int a), .val (.int b), .val (.int c), .val (.int dd), .val (.int e), .val (.int f), .val (.int (Int32.ofNat kc)), .val (.int (Int32.ofNat k0)), .val (.int (Int32.ofNat k1)), .val (.int (Int32.ofNat k2)), .val (.int (Int32.ofNat s)), .val (.int (Int32.ofNat (d + 1))), .val (.int (Int32.ofNat s)), .val (.int (Int32.ofNat ((s + (d + 1)) % 3))), .val (.int (Int32.ofNat ((s + 2 * (d + 1)) % 3))), .val (.int (3 : Int32)), .val (.ref a90), .val (.int (-1 : Int32)), .val (.int (1 : Int32)), .val (.int (1 : Int32)), .val (.int (1 : Int32)), .unset, .unset, .unset]) at_190 rfl rfl ?_
          have FF := own_f3_111 kc (by omega) k0 (by omega) k1 (by omega) k2 (by omega) s hs d hd
          rw [if_pos ⟨hkc.1, hk0, hk1, hk2, ((own_ie (by omega) (by omega)).mp h154), ((own_ie (by omega) (by omega)).mp h168), ((own_ie (by omega) (by omega)).mp h182)⟩] at FF
          simp only [Bool.and_eq_true, decide_eq_true_eq] at FF
          obtain ⟨q_ok0, q_ok1, q_ok2, q_ln, q_cnt, q_nx0, q_nx1, q_nx2, q_b0, q_f0⟩ := FF
          refine C.iload (q := 194) at_192 rfl rfl ?_
          refine C.ifNe (q := 203) (q' := 197) at_194 (by decide) (by decide) rfl (fun h194 => absurd h194 (by decide)) (fun h194 => ?_)
          refine C.iload (q := 205) at_203 rfl rfl ?_
          refine C.iconst (q := 206) (z := (1 : Int32)) at_205 rfl rfl ?_
          refine C.icmpNe (q := 215) (q' := 209) at_206 (by decide) (by decide) rfl (fun h206 => absurd h206 (by decide)) (fun h206 => ?_)
          refine C.iload (q := 217) at_215 rfl rfl ?_
          refine C.iconst (q := 218) (z := (2 : Int32)) at_217 rfl rfl ?_
          refine C.icmpNe (q := 236) (q' := 221) at_218 (by decide) (by decide) rfl (fun h218 => absurd h218 (by decide)) (fun h218 => ?_)
          refine C.iconst (q := 237) (z := (1 : Int32)) at_236 rfl rfl ?_
          refine C.iload (q := 239) at_237 rfl rfl ?_
          refine C.ifEq (q := 246) (q' := 242) at_239 (by decide) (by decide) rfl (fun h239 => absurd h239 (by decide)) (fun h239 => ?_)
          refine C.iconst (q := 243) (z := (0 : Int32)) at_242 rfl rfl ?_
          refine C.goto (q := 247) at_243 (by decide) (by decide) ?_
          refine C.iadd (q := 248) at_247 rfl ?_
          show G 4 13 [(a90, .inr ("com/example/terms_to_transitions/termstotransitions/equivalence/TransitionLists", [("heads", "[I", .ref h), ("nexts", "[I", .ref x), ("keysMet", "[I", .ref m), ("keysMetCount", "I", .int ((own_add (own_add (own_add (own_s0 kc) s k0) ((s + (d + 1)) % 3) k1) ((s + 2 * (d + 1)) % 3) k2).2.2.2))])), (h, .inl (.int, (own_vl (own_add (own_add (own_add (own_s0 kc) s k0) ((s + (d + 1)) % 3) k1) ((s + 2 * (d + 1)) % 3) k2).1))), (x, .inl (.int, (own_vl (own_add (own_add (own_add (own_s0 kc) s k0) ((s + (d + 1)) % 3) k1) ((s + 2 * (d + 1)) % 3) k2).2.1))), (m, .inl (.int, (own_vl (own_add (own_add (own_add (own_s0 kc) s k0) ((s + (d + 1)) % 3) k1) ((s + 2 * (d + 1)) % 3) k2).2.2.1)))] 248 [.val (.int a), .val (.int b), .val (.int c), .val (.int dd), .val (.int e), .val (.int f), .val (.int (Int32.ofNat kc)), .val (.int (Int32.ofNat k0)), .val (.int (Int32.ofNat k1)), .val (.int (Int32.ofNat k2)), .val (.int (Int32.ofNat s)), .val (.int (Int32.ofNat (d + 1))), .val (.int (Int32.ofNat s)), .val (.int (Int32.ofNat ((s + (d + 1)) % 3))), .val (.int (Int32.ofNat ((s + 2 * (d + 1)) % 3))), .val (.int (3 : Int32)), .val (.ref a90), .val (.int (-1 : Int32)), .val (.int (1 : Int32)), .val (.int (1 : Int32)), .val (.int (1 : Int32)), .unset, .unset, .unset] [.int (1 : Int32)]
          refine C.iload (q := 250) at_248 rfl rfl ?_
          refine C.ifNe (q := 258) (q' := 253) at_250 (by decide) (by decide) rfl (fun h250 => absurd h250 (by decide)) (fun h250 => ?_)
          refine C.iconst (q := 259) (z := (0 : Int32)) at_258 rfl rfl ?_
          refine C.goto (q := 263) at_259 (by decide) (by decide) ?_
          refine C.iadd (q := 264) at_263 rfl ?_
          show G 4 13 [(a90, .inr ("com/example/terms_to_transitions/termstotransitions/equivalence/TransitionLists", [("heads", "[I", .ref h), ("nexts", "[I", .ref x), ("keysMet", "[I", .ref m), ("keysMetCount", "I", .int ((own_add (own_add (own_add (own_s0 kc) s k0) ((s + (d + 1)) % 3) k1) ((s + 2 * (d + 1)) % 3) k2).2.2.2))])), (h, .inl (.int, (own_vl (own_add (own_add (own_add (own_s0 kc) s k0) ((s + (d + 1)) % 3) k1) ((s + 2 * (d + 1)) % 3) k2).1))), (x, .inl (.int, (own_vl (own_add (own_add (own_add (own_s0 kc) s k0) ((s + (d + 1)) % 3) k1) ((s + 2 * (d + 1)) % 3) k2).2.1))), (m, .inl (.int, (own_vl (own_add (own_add (own_add (own_s0 kc) s k0) ((s + (d + 1)) % 3) k1) ((s + 2 * (d + 1)) % 3) k2).2.2.1)))] 264 [.val (.int a), .val (.int b), .val (.int c), .val (.int dd), .val (.int e), .val (.int f), .val (.int (Int32.ofNat kc)), .val (.int (Int32.ofNat k0)), .val (.int (Int32.ofNat k1)), .val (.int (Int32.ofNat k2)), .val (.int (Int32.ofNat s)), .val (.int (Int32.ofNat (d + 1))), .val (.int (Int32.ofNat s)), .val (.int (Int32.ofNat ((s + (d + 1)) % 3))), .val (.int (Int32.ofNat ((s + 2 * (d + 1)) % 3))), .val (.int (3 : Int32)), .val (.ref a90), .val (.int (-1 : Int32)), .val (.int (1 : Int32)), .val (.int (1 : Int32)), .val (.int (1 : Int32)), .unset, .unset, .unset] [.int (1 : Int32)]
          refine C.istore (q := 266) (ls' := [.val (.int a), .val (.int b), .val (.int c), .val (.int dd), .val (.int e), .val (.int f), .val (.int (Int32.ofNat kc)), .val (.int (Int32.ofNat k0)), .val (.int (Int32.ofNat k1)), .val (.int (Int32.ofNat k2)), .val (.int (Int32.ofNat s)), .val (.int (Int32.ofNat (d + 1))), .val (.int (Int32.ofNat s)), .val (.int (Int32.ofNat ((s + (d + 1)) % 3))), .val (.int (Int32.ofNat ((s + 2 * (d + 1)) % 3))), .val (.int (3 : Int32)), .val (.ref a90), .val (.int (-1 : Int32)), .val (.int (1 : Int32)), .val (.int (1 : Int32)), .val (.int (1 : Int32)), .val (.int (1 : Int32)), .unset, .unset]) at_264 rfl rfl ?_
          refine C.aload (q := 268) at_266 rfl rfl rfl ?_
          refine C.callV (q := 271) 0 0 [] [] at_268 (hw _ (List.mem_of_getElem? (i := 28) rfl)) (hw _ (List.mem_of_getElem? (i := 29) rfl)) (hw _ (List.mem_of_getElem? (i := 30) rfl)) (hw _ (List.mem_of_getElem? (i := 31) rfl)) (hw _ (List.mem_of_getElem? (i := 3) rfl)) (hw _ (List.mem_of_getElem? (i := 32) rfl)) (own_c2 l Z a0 n0 hw [] a90 h x m (own_add (own_add (own_add (own_s0 kc) s k0) ((s + (d + 1)) % 3) k1) ((s + 2 * (d + 1)) % 3) k2)) (by decide) (by decide) (by decide) own_pd2 rfl rfl rfl rfl (Nat.le_of_eq rfl) (by decide) (by decide) rfl ?_
          rintro _ _ ⟨rfl, hE⟩
          rw [hE]
          show G 4 13 [(a90, .inr ("com/example/terms_to_transitions/termstotransitions/equivalence/TransitionLists", [("heads", "[I", .ref h), ("nexts", "[I", .ref x), ("keysMet", "[I", .ref m), ("keysMetCount", "I", .int ((own_add (own_add (own_add (own_s0 kc) s k0) ((s + (d + 1)) % 3) k1) ((s + 2 * (d + 1)) % 3) k2).2.2.2))])), (h, .inl (.int, (own_vl (own_add (own_add (own_add (own_s0 kc) s k0) ((s + (d + 1)) % 3) k1) ((s + 2 * (d + 1)) % 3) k2).1))), (x, .inl (.int, (own_vl (own_add (own_add (own_add (own_s0 kc) s k0) ((s + (d + 1)) % 3) k1) ((s + 2 * (d + 1)) % 3) k2).2.1))), (m, .inl (.int, (own_vl (own_add (own_add (own_add (own_s0 kc) s k0) ((s + (d + 1)) % 3) k1) ((s + 2 * (d + 1)) % 3) k2).2.2.1)))] 271 [.val (.int a), .val (.int b), .val (.int c), .val (.int dd), .val (.int e), .val (.int f), .val (.int (Int32.ofNat kc)), .val (.int (Int32.ofNat k0)), .val (.int (Int32.ofNat k1)), .val (.int (Int32.ofNat k2)), .val (.int (Int32.ofNat s)), .val (.int (Int32.ofNat (d + 1))), .val (.int (Int32.ofNat s)), .val (.int (Int32.ofNat ((s + (d + 1)) % 3))), .val (.int (Int32.ofNat ((s + 2 * (d + 1)) % 3))), .val (.int (3 : Int32)), .val (.ref a90), .val (.int (-1 : Int32)), .val (.int (1 : Int32)), .val (.int (1 : Int32)), .val (.int (1 : Int32)), .val (.int (1 : Int32)), .unset, .unset] [.int ((own_add (own_add (own_add (own_s0 kc) s k0) ((s + (d + 1)) % 3) k1) ((s + 2 * (d + 1)) % 3) k2).2.2.2)]
          refine C.iload (q := 273) at_271 rfl rfl ?_
          refine C.icmpNe (q := 280) (q' := 276) at_273 (by decide) (by decide) rfl (fun h273 => ?_) (fun h273 => absurd (q_cnt) h273)
          refine C.iconst (q := 277) (z := (1 : Int32)) at_276 rfl rfl ?_
          refine C.goto (q := 281) at_277 (by decide) (by decide) ?_
          refine C.istore (q := 283) (ls' := [.val (.int a), .val (.int b), .val (.int c), .val (.int dd), .val (.int e), .val (.int f), .val (.int (Int32.ofNat kc)), .val (.int (Int32.ofNat k0)), .val (.int (Int32.ofNat k1)), .val (.int (Int32.ofNat k2)), .val (.int (Int32.ofNat s)), .val (.int (Int32.ofNat (d + 1))), .val (.int (Int32.ofNat s)), .val (.int (Int32.ofNat ((s + (d + 1)) % 3))), .val (.int (Int32.ofNat ((s + 2 * (d + 1)) % 3))), .val (.int (3 : Int32)), .val (.ref a90), .val (.int (-1 : Int32)), .val (.int (1 : Int32)), .val (.int (1 : Int32)), .val (.int (1 : Int32)), .val (.int (1 : Int32)), .val (.int (1 : Int32)), .unset]) at_281 rfl rfl ?_
          refine C.iload (q := 285) at_283 rfl rfl ?_
          refine C.iconst (q := 286) (z := (1 : Int32)) at_285 rfl rfl ?_
          refine C.icmpLt (q := 313) (q' := 289) at_286 (by decide) (by decide) rfl (fun h286 => absurd h286 (by decide)) (fun h286 => ?_)
          refine C.iload (q := 291) at_289 rfl rfl ?_
          refine C.ifEq (q := 310) (q' := 294) at_291 (by decide) (by decide) rfl (fun h291 => absurd h291 (by decide)) (fun h291 => ?_)
          refine C.aload (q := 296) at_294 rfl rfl rfl ?_
          refine C.iload (q := 298) at_296 rfl rfl ?_
          refine C.callV (q := 301) 0 0 [.int (Int32.ofNat s)] [] at_298 (hw _ (List.mem_of_getElem? (i := 33) rfl)) (hw _ (List.mem_of_getElem? (i := 34) rfl)) (hw _ (List.mem_of_getElem? (i := 35) rfl)) (hw _ (List.mem_of_getElem? (i := 36) rfl)) (hw _ (List.mem_of_getElem? (i := 3) rfl)) (hw _ (List.mem_of_getElem? (i := 37) rfl)) (own_c4 l Z a0 n0 hw [] a90 h x m (own_add (own_add (own_add (own_s0 kc) s k0) ((s + (d + 1)) % 3) k1) ((s + 2 * (d + 1)) % 3) k2) s (by omega) (by rw [q_ln]; omega)) (by decide) (by decide) (by decide) own_pd3 rfl rfl rfl rfl (Nat.le_of_eq rfl) (by decide) (by decide) rfl ?_
          rintro _ _ ⟨rfl, hE⟩
          rw [hE]
          show G 4 13 [(a90, .inr ("com/example/terms_to_transitions/termstotransitions/equivalence/TransitionLists", [("heads", "[I", .ref h), ("nexts", "[I", .ref x), ("keysMet", "[I", .ref m), ("keysMetCount", "I", .int ((own_add (own_add (own_add (own_s0 kc) s k0) ((s + (d + 1)) % 3) k1) ((s + 2 * (d + 1)) % 3) k2).2.2.2))])), (h, .inl (.int, (own_vl (own_add (own_add (own_add (own_s0 kc) s k0) ((s + (d + 1)) % 3) k1) ((s + 2 * (d + 1)) % 3) k2).1))), (x, .inl (.int, (own_vl (own_add (own_add (own_add (own_s0 kc) s k0) ((s + (d + 1)) % 3) k1) ((s + 2 * (d + 1)) % 3) k2).2.1))), (m, .inl (.int, (own_vl (own_add (own_add (own_add (own_s0 kc) s k0) ((s + (d + 1)) % 3) k1) ((s + 2 * (d + 1)) % 3) k2).2.2.1)))] 301 [.val (.int a), .val (.int b), .val (.int c), .val (.int dd), .val (.int e), .val (.int f), .val (.int (Int32.ofNat kc)), .val (.int (Int32.ofNat k0)), .val (.int (Int32.ofNat k1)), .val (.int (Int32.ofNat k2)), .val (.int (Int32.ofNat s)), .val (.int (Int32.ofNat (d + 1))), .val (.int (Int32.ofNat s)), .val (.int (Int32.ofNat ((s + (d + 1)) % 3))), .val (.int (Int32.ofNat ((s + 2 * (d + 1)) % 3))), .val (.int (3 : Int32)), .val (.ref a90), .val (.int (-1 : Int32)), .val (.int (1 : Int32)), .val (.int (1 : Int32)), .val (.int (1 : Int32)), .val (.int (1 : Int32)), .val (.int (1 : Int32)), .unset] [.int ((own_add (own_add (own_add (own_s0 kc) s k0) ((s + (d + 1)) % 3) k1) ((s + 2 * (d + 1)) % 3) k2).2.1.getD s 0)]
          refine C.iload (q := 303) at_301 rfl rfl ?_
          refine C.icmpNe (q := 310) (q' := 306) at_303 (by decide) (by decide) rfl (fun h303 => ?_) (fun h303 => absurd (q_nx0) h303)
          refine C.iconst (q := 307) (z := (1 : Int32)) at_306 rfl rfl ?_
          refine C.goto (q := 311) at_307 (by decide) (by decide) ?_
          refine C.istore (q := 313) (ls' := [.val (.int a), .val (.int b), .val (.int c), .val (.int dd), .val (.int e), .val (.int f), .val (.int (Int32.ofNat kc)), .val (.int (Int32.ofNat k0)), .val (.int (Int32.ofNat k1)), .val (.int (Int32.ofNat k2)), .val (.int (Int32.ofNat s)), .val (.int (Int32.ofNat (d + 1))), .val (.int (Int32.ofNat s)), .val (.int (Int32.ofNat ((s + (d + 1)) % 3))), .val (.int (Int32.ofNat ((s + 2 * (d + 1)) % 3))), .val (.int (3 : Int32)), .val (.ref a90), .val (.int (-1 : Int32)), .val (.int (1 : Int32)), .val (.int (1 : Int32)), .val (.int (1 : Int32)), .val (.int (1 : Int32)), .val (.int (1 : Int32)), .unset]) at_311 rfl rfl ?_
          refine C.iload (q := 315) at_313 rfl rfl ?_
          refine C.iconst (q := 316) (z := (2 : Int32)) at_315 rfl rfl ?_
          refine C.icmpLt (q := 353) (q' := 319) at_316 (by decide) (by decide) rfl (fun h316 => absurd h316 (by decide)) (fun h316 => ?_)
          refine C.iload (q := 321) at_319 rfl rfl ?_
          refine C.ifEq (q := 350) (q' := 324) at_321 (by decide) (by decide) rfl (fun h321 => absurd h321 (by decide)) (fun h321 => ?_)
          refine C.aload (q := 326) at_324 rfl rfl rfl ?_
          refine C.iload (q := 328) at_326 rfl rfl ?_
          refine C.callV (q := 331) 0 0 [.int (Int32.ofNat ((s + (d + 1)) % 3))] [] at_328 (hw _ (List.mem_of_getElem? (i := 33) rfl)) (hw _ (List.mem_of_getElem? (i := 34) rfl)) (hw _ (List.mem_of_getElem? (i := 35) rfl)) (hw _ (List.mem_of_getElem? (i := 36) rfl)) (hw _ (List.mem_of_getElem? (i := 3) rfl)) (hw _ (List.mem_of_getElem? (i := 37) rfl)) (own_c4 l Z a0 n0 hw [] a90 h x m (own_add (own_add (own_add (own_s0 kc) s k0) ((s + (d + 1)) % 3) k1) ((s + 2 * (d + 1)) % 3) k2) ((s + (d + 1)) % 3) (by omega) (by rw [q_ln]; omega)) (by decide) (by decide) (by decide) own_pd3 rfl rfl rfl rfl (Nat.le_of_eq rfl) (by decide) (by decide) rfl ?_
          rintro _ _ ⟨rfl, hE⟩
          rw [hE]
          show G 4 13 [(a90, .inr ("com/example/terms_to_transitions/termstotransitions/equivalence/TransitionLists", [("heads", "[I", .ref h), ("nexts", "[I", .ref x), ("keysMet", "[I", .ref m), ("keysMetCount", "I", .int ((own_add (own_add (own_add (own_s0 kc) s k0) ((s + (d + 1)) % 3) k1) ((s + 2 * (d + 1)) % 3) k2).2.2.2))])), (h, .inl (.int, (own_vl (own_add (own_add (own_add (own_s0 kc) s k0) ((s + (d + 1)) % 3) k1) ((s + 2 * (d + 1)) % 3) k2).1))), (x, .inl (.int, (own_vl (own_add (own_add (own_add (own_s0 kc) s k0) ((s + (d + 1)) % 3) k1) ((s + 2 * (d + 1)) % 3) k2).2.1))), (m, .inl (.int, (own_vl (own_add (own_add (own_add (own_s0 kc) s k0) ((s + (d + 1)) % 3) k1) ((s + 2 * (d + 1)) % 3) k2).2.2.1)))] 331 [.val (.int a), .val (.int b), .val (.int c), .val (.int dd), .val (.int e), .val (.int f), .val (.int (Int32.ofNat kc)), .val (.int (Int32.ofNat k0)), .val (.int (Int32.ofNat k1)), .val (.int (Int32.ofNat k2)), .val (.int (Int32.ofNat s)), .val (.int (Int32.ofNat (d + 1))), .val (.int (Int32.ofNat s)), .val (.int (Int32.ofNat ((s + (d + 1)) % 3))), .val (.int (Int32.ofNat ((s + 2 * (d + 1)) % 3))), .val (.int (3 : Int32)), .val (.ref a90), .val (.int (-1 : Int32)), .val (.int (1 : Int32)), .val (.int (1 : Int32)), .val (.int (1 : Int32)), .val (.int (1 : Int32)), .val (.int (1 : Int32)), .unset] [.int ((own_add (own_add (own_add (own_s0 kc) s k0) ((s + (d + 1)) % 3) k1) ((s + 2 * (d + 1)) % 3) k2).2.1.getD ((s + (d + 1)) % 3) 0)]
          refine C.iload (q := 333) at_331 rfl rfl ?_
          refine C.ifEq (q := 341) (q' := 336) at_333 (by decide) (by decide) rfl (fun h333 => absurd h333 (by decide)) (fun h333 => ?_)
          refine C.iload (q := 338) at_336 rfl rfl ?_
          refine C.goto (q := 343) at_338 (by decide) (by decide) ?_
          refine C.icmpNe (q := 350) (q' := 346) at_343 (by decide) (by decide) rfl (fun h343 => ?_) (fun h343 => absurd (q_nx1) h343)
          refine C.iconst (q := 347) (z := (1 : Int32)) at_346 rfl rfl ?_
          refine C.goto (q := 351) at_347 (by decide) (by decide) ?_
          refine C.istore (q := 353) (ls' := [.val (.int a), .val (.int b), .val (.int c), .val (.int dd), .val (.int e), .val (.int f), .val (.int (Int32.ofNat kc)), .val (.int (Int32.ofNat k0)), .val (.int (Int32.ofNat k1)), .val (.int (Int32.ofNat k2)), .val (.int (Int32.ofNat s)), .val (.int (Int32.ofNat (d + 1))), .val (.int (Int32.ofNat s)), .val (.int (Int32.ofNat ((s + (d + 1)) % 3))), .val (.int (Int32.ofNat ((s + 2 * (d + 1)) % 3))), .val (.int (3 : Int32)), .val (.ref a90), .val (.int (-1 : Int32)), .val (.int (1 : Int32)), .val (.int (1 : Int32)), .val (.int (1 : Int32)), .val (.int (1 : Int32)), .val (.int (1 : Int32)), .unset]) at_351 rfl rfl ?_
          refine C.iload (q := 355) at_353 rfl rfl ?_
          refine C.iconst (q := 356) (z := (3 : Int32)) at_355 rfl rfl ?_
          refine C.icmpLt (q := 403) (q' := 359) at_356 (by decide) (by decide) rfl (fun h356 => absurd h356 (by decide)) (fun h356 => ?_)
          refine C.iload (q := 361) at_359 rfl rfl ?_
          refine C.ifEq (q := 400) (q' := 364) at_361 (by decide) (by decide) rfl (fun h361 => absurd h361 (by decide)) (fun h361 => ?_)
          refine C.aload (q := 366) at_364 rfl rfl rfl ?_
          refine C.iload (q := 368) at_366 rfl rfl ?_
          refine C.callV (q := 371) 0 0 [.int (Int32.ofNat ((s + 2 * (d + 1)) % 3))] [] at_368 (hw _ (List.mem_of_getElem? (i := 33) rfl)) (hw _ (List.mem_of_getElem? (i := 34) rfl)) (hw _ (List.mem_of_getElem? (i := 35) rfl)) (hw _ (List.mem_of_getElem? (i := 36) rfl)) (hw _ (List.mem_of_getElem? (i := 3) rfl)) (hw _ (List.mem_of_getElem? (i := 37) rfl)) (own_c4 l Z a0 n0 hw [] a90 h x m (own_add (own_add (own_add (own_s0 kc) s k0) ((s + (d + 1)) % 3) k1) ((s + 2 * (d + 1)) % 3) k2) ((s + 2 * (d + 1)) % 3) (by omega) (by rw [q_ln]; omega)) (by decide) (by decide) (by decide) own_pd3 rfl rfl rfl rfl (Nat.le_of_eq rfl) (by decide) (by decide) rfl ?_
          rintro _ _ ⟨rfl, hE⟩
          rw [hE]
          show G 4 13 [(a90, .inr ("com/example/terms_to_transitions/termstotransitions/equivalence/TransitionLists", [("heads", "[I", .ref h), ("nexts", "[I", .ref x), ("keysMet", "[I", .ref m), ("keysMetCount", "I", .int ((own_add (own_add (own_add (own_s0 kc) s k0) ((s + (d + 1)) % 3) k1) ((s + 2 * (d + 1)) % 3) k2).2.2.2))])), (h, .inl (.int, (own_vl (own_add (own_add (own_add (own_s0 kc) s k0) ((s + (d + 1)) % 3) k1) ((s + 2 * (d + 1)) % 3) k2).1))), (x, .inl (.int, (own_vl (own_add (own_add (own_add (own_s0 kc) s k0) ((s + (d + 1)) % 3) k1) ((s + 2 * (d + 1)) % 3) k2).2.1))), (m, .inl (.int, (own_vl (own_add (own_add (own_add (own_s0 kc) s k0) ((s + (d + 1)) % 3) k1) ((s + 2 * (d + 1)) % 3) k2).2.2.1)))] 371 [.val (.int a), .val (.int b), .val (.int c), .val (.int dd), .val (.int e), .val (.int f), .val (.int (Int32.ofNat kc)), .val (.int (Int32.ofNat k0)), .val (.int (Int32.ofNat k1)), .val (.int (Int32.ofNat k2)), .val (.int (Int32.ofNat s)), .val (.int (Int32.ofNat (d + 1))), .val (.int (Int32.ofNat s)), .val (.int (Int32.ofNat ((s + (d + 1)) % 3))), .val (.int (Int32.ofNat ((s + 2 * (d + 1)) % 3))), .val (.int (3 : Int32)), .val (.ref a90), .val (.int (-1 : Int32)), .val (.int (1 : Int32)), .val (.int (1 : Int32)), .val (.int (1 : Int32)), .val (.int (1 : Int32)), .val (.int (1 : Int32)), .unset] [.int ((own_add (own_add (own_add (own_s0 kc) s k0) ((s + (d + 1)) % 3) k1) ((s + 2 * (d + 1)) % 3) k2).2.1.getD ((s + 2 * (d + 1)) % 3) 0)]
          refine C.iload (q := 373) at_371 rfl rfl ?_
          refine C.ifEq (q := 381) (q' := 376) at_373 (by decide) (by decide) rfl (fun h373 => absurd h373 (by decide)) (fun h373 => ?_)
          refine C.iload (q := 378) at_376 rfl rfl ?_
          refine C.goto (q := 393) at_378 (by decide) (by decide) ?_
          refine C.icmpNe (q := 400) (q' := 396) at_393 (by decide) (by decide) rfl (fun h393 => ?_) (fun h393 => absurd (q_nx2) h393)
          refine C.iconst (q := 397) (z := (1 : Int32)) at_396 rfl rfl ?_
          refine C.goto (q := 401) at_397 (by decide) (by decide) ?_
          refine C.istore (q := 403) (ls' := [.val (.int a), .val (.int b), .val (.int c), .val (.int dd), .val (.int e), .val (.int f), .val (.int (Int32.ofNat kc)), .val (.int (Int32.ofNat k0)), .val (.int (Int32.ofNat k1)), .val (.int (Int32.ofNat k2)), .val (.int (Int32.ofNat s)), .val (.int (Int32.ofNat (d + 1))), .val (.int (Int32.ofNat s)), .val (.int (Int32.ofNat ((s + (d + 1)) % 3))), .val (.int (Int32.ofNat ((s + 2 * (d + 1)) % 3))), .val (.int (3 : Int32)), .val (.ref a90), .val (.int (-1 : Int32)), .val (.int (1 : Int32)), .val (.int (1 : Int32)), .val (.int (1 : Int32)), .val (.int (1 : Int32)), .val (.int (1 : Int32)), .unset]) at_401 rfl rfl ?_
          refine C.iload (q := 405) at_403 rfl rfl ?_
          refine C.iconst (q := 406) (z := (1 : Int32)) at_405 rfl rfl ?_
          refine C.icmpLt (q := 468) (q' := 409) at_406 (by decide) (by decide) rfl (fun h406 => absurd h406 (by decide)) (fun h406 => ?_)
          refine C.iload (q := 411) at_409 rfl rfl ?_
          refine C.iconst (q := 412) (z := (3 : Int32)) at_411 rfl rfl ?_
          refine C.icmpLt (q := 425) (q' := 415) at_412 (by decide) (by decide) rfl (fun h412 => absurd h412 (by decide)) (fun h412 => ?_)
          refine C.iload (q := 417) at_415 rfl rfl ?_
          refine C.ifEq (q := 425) (q' := 420) at_417 (by decide) (by decide) rfl (fun h417 => absurd h417 (by decide)) (fun h417 => ?_)
          refine C.iload (q := 422) at_420 rfl rfl ?_
          refine C.goto (q := 443) at_422 (by decide) (by decide) ?_
          refine C.istore (q := 445) (ls' := [.val (.int a), .val (.int b), .val (.int c), .val (.int dd), .val (.int e), .val (.int f), .val (.int (Int32.ofNat kc)), .val (.int (Int32.ofNat k0)), .val (.int (Int32.ofNat k1)), .val (.int (Int32.ofNat k2)), .val (.int (Int32.ofNat s)), .val (.int (Int32.ofNat (d + 1))), .val (.int (Int32.ofNat s)), .val (.int (Int32.ofNat ((s + (d + 1)) % 3))), .val (.int (Int32.ofNat ((s + 2 * (d + 1)) % 3))), .val (.int (3 : Int32)), .val (.ref a90), .val (.int (-1 : Int32)), .val (.int (1 : Int32)), .val (.int (1 : Int32)), .val (.int (1 : Int32)), .val (.int (1 : Int32)), .val (.int (1 : Int32)), .val (.int (Int32.ofNat ((s + 2 * (d + 1)) % 3)))]) at_443 rfl rfl ?_
          refine C.iload (q := 447) at_445 rfl rfl ?_
          refine C.ifEq (q := 465) (q' := 450) at_447 (by decide) (by decide) rfl (fun h447 => absurd h447 (by decide)) (fun h447 => ?_)
          refine C.aload (q := 452) at_450 rfl rfl rfl ?_
          refine C.iconst (q := 453) (z := (0 : Int32)) at_452 rfl rfl ?_
          refine C.callV (q := 456) 0 0 [.int (0 : Int32)] [] at_453 (hw _ (List.mem_of_getElem? (i := 38) rfl)) (hw _ (List.mem_of_getElem? (i := 39) rfl)) (hw _ (List.mem_of_getElem? (i := 40) rfl)) (hw _ (List.mem_of_getElem? (i := 41) rfl)) (hw _ (List.mem_of_getElem? (i := 3) rfl)) (hw _ (List.mem_of_getElem? (i := 42) rfl)) (own_c3 l Z a0 n0 hw [] a90 h x m (own_add (own_add (own_add (own_s0 kc) s k0) ((s + (d + 1)) % 3) k1) ((s + 2 * (d + 1)) % 3) k2) 0 (by decide) (own_fB.ok q_b0).1 (own_fB.ok q_b0).2.1 (own_fB.ok q_b0).2.2) (by decide) (by decide) (by decide) own_pd3 rfl rfl rfl rfl (Nat.le_of_eq rfl) (by decide) (by decide) rfl ?_
          rintro _ _ ⟨rfl, hE⟩
          rw [hE]
          show G 4 13 [(a90, .inr ("com/example/terms_to_transitions/termstotransitions/equivalence/TransitionLists", [("heads", "[I", .ref h), ("nexts", "[I", .ref x), ("keysMet", "[I", .ref m), ("keysMetCount", "I", .int ((own_add (own_add (own_add (own_s0 kc) s k0) ((s + (d + 1)) % 3) k1) ((s + 2 * (d + 1)) % 3) k2).2.2.2))])), (h, .inl (.int, (own_vl (own_add (own_add (own_add (own_s0 kc) s k0) ((s + (d + 1)) % 3) k1) ((s + 2 * (d + 1)) % 3) k2).1))), (x, .inl (.int, (own_vl (own_add (own_add (own_add (own_s0 kc) s k0) ((s + (d + 1)) % 3) k1) ((s + 2 * (d + 1)) % 3) k2).2.1))), (m, .inl (.int, (own_vl (own_add (own_add (own_add (own_s0 kc) s k0) ((s + (d + 1)) % 3) k1) ((s + 2 * (d + 1)) % 3) k2).2.2.1)))] 456 [.val (.int a), .val (.int b), .val (.int c), .val (.int dd), .val (.int e), .val (.int f), .val (.int (Int32.ofNat kc)), .val (.int (Int32.ofNat k0)), .val (.int (Int32.ofNat k1)), .val (.int (Int32.ofNat k2)), .val (.int (Int32.ofNat s)), .val (.int (Int32.ofNat (d + 1))), .val (.int (Int32.ofNat s)), .val (.int (Int32.ofNat ((s + (d + 1)) % 3))), .val (.int (Int32.ofNat ((s + 2 * (d + 1)) % 3))), .val (.int (3 : Int32)), .val (.ref a90), .val (.int (-1 : Int32)), .val (.int (1 : Int32)), .val (.int (1 : Int32)), .val (.int (1 : Int32)), .val (.int (1 : Int32)), .val (.int (1 : Int32)), .val (.int (Int32.ofNat ((s + 2 * (d + 1)) % 3)))] [.int ((own_add (own_add (own_add (own_s0 kc) s k0) ((s + (d + 1)) % 3) k1) ((s + 2 * (d + 1)) % 3) k2).1.getD ((own_add (own_add (own_add (own_s0 kc) s k0) ((s + (d + 1)) % 3) k1) ((s + 2 * (d + 1)) % 3) k2).2.2.1.getD 0 0).toNatClampNeg 0)]
          refine C.iload (q := 458) at_456 rfl rfl ?_
          refine C.icmpNe (q := 465) (q' := 461) at_458 (by decide) (by decide) rfl (fun h458 => ?_) (fun h458 => absurd (q_f0) h458)
          refine C.iconst (q := 462) (z := (1 : Int32)) at_461 rfl rfl ?_
          refine C.goto (q := 466) at_462 (by decide) (by decide) ?_
          refine C.istore (q := 468) (ls' := [.val (.int a), .val (.int b), .val (.int c), .val (.int dd), .val (.int e), .val (.int f), .val (.int (Int32.ofNat kc)), .val (.int (Int32.ofNat k0)), .val (.int (Int32.ofNat k1)), .val (.int (Int32.ofNat k2)), .val (.int (Int32.ofNat s)), .val (.int (Int32.ofNat (d + 1))), .val (.int (Int32.ofNat s)), .val (.int (Int32.ofNat ((s + (d + 1)) % 3))), .val (.int (Int32.ofNat ((s + 2 * (d + 1)) % 3))), .val (.int (3 : Int32)), .val (.ref a90), .val (.int (-1 : Int32)), .val (.int (1 : Int32)), .val (.int (1 : Int32)), .val (.int (1 : Int32)), .val (.int (1 : Int32)), .val (.int (1 : Int32)), .val (.int (Int32.ofNat ((s + 2 * (d + 1)) % 3)))]) at_466 rfl rfl ?_
          refine C.iload (q := 470) at_468 rfl rfl ?_
          refine C.iconst (q := 471) (z := (2 : Int32)) at_470 rfl rfl ?_
          refine C.icmpLt (q := 527) (q' := 474) at_471 (by decide) (by decide) rfl (fun h471 => ?_) (fun h471 => absurd (by decide) h471)
          refine C.iload (q := 529) at_527 rfl rfl ?_
          refine C.iconst (q := 530) (z := (3 : Int32)) at_529 rfl rfl ?_
          refine C.icmpLt (q := 556) (q' := 533) at_530 (by decide) (by decide) rfl (fun h530 => ?_) (fun h530 => absurd (by decide) h530)
          refine C.iload (q := 558) at_556 rfl rfl ?_
          exact C.retB (by simp) at_558 (by decide) (by decide) rfl
        · refine C.iconst (q := 190) (z := (0 : Int32)) at_189 rfl rfl ?_
          refine C.istore (q := 192) (ls' := [.val (.int a), .val (.int b), .val (.int c), .val (.int dd), .val (.int e), .val (.int f), .val (.int (Int32.ofNat kc)), .val (.int (Int32.ofNat k0)), .val (.int (Int32.ofNat k1)), .val (.int (Int32.ofNat k2)), .val (.int (Int32.ofNat s)), .val (.int (Int32.ofNat (d + 1))), .val (.int (Int32.ofNat s)), .val (.int (Int32.ofNat ((s + (d + 1)) % 3))), .val (.int (Int32.ofNat ((s + 2 * (d + 1)) % 3))), .val (.int (3 : Int32)), .val (.ref a90), .val (.int (-1 : Int32)), .val (.int (1 : Int32)), .val (.int (1 : Int32)), .val (.int (0 : Int32)), .unset, .unset, .unset]) at_190 rfl rfl ?_
          exfalso
          have qA := h154
          rw [own_ie (by omega) (by omega)] at qA
          have qB := h168
          rw [own_ie (by omega) (by omega)] at qB
          have qC := h182
          rw [own_ie (by omega) (by omega)] at qC
          omega
      · refine C.iconst (q := 176) (z := (0 : Int32)) at_175 rfl rfl ?_
        refine C.istore (q := 178) (ls' := [.val (.int a), .val (.int b), .val (.int c), .val (.int dd), .val (.int e), .val (.int f), .val (.int (Int32.ofNat kc)), .val (.int (Int32.ofNat k0)), .val (.int (Int32.ofNat k1)), .val (.int (Int32.ofNat k2)), .val (.int (Int32.ofNat s)), .val (.int (Int32.ofNat (d + 1))), .val (.int (Int32.ofNat s)), .val (.int (Int32.ofNat ((s + (d + 1)) % 3))), .val (.int (Int32.ofNat ((s + 2 * (d + 1)) % 3))), .val (.int (3 : Int32)), .val (.ref a90), .val (.int (-1 : Int32)), .val (.int (1 : Int32)), .val (.int (0 : Int32)), .unset, .unset, .unset, .unset]) at_176 rfl rfl ?_
        refine C.iload (q := 180) at_178 rfl rfl ?_
        refine C.iload (q := 182) at_180 rfl rfl ?_
        refine C.icmpNe (q := 189) (q' := 185) at_182 (by decide) (by decide) rfl (fun h182 => ?_) (fun h182 => ?_)
        · refine C.iconst (q := 186) (z := (1 : Int32)) at_185 rfl rfl ?_
          refine C.goto (q := 190) at_186 (by decide) (by decide) ?_
          refine C.istore (q := 192) (ls' := [.val (.int a), .val (.int b), .val (.int c), .val (.int dd), .val (.int e), .val (.int f), .val (.int (Int32.ofNat kc)), .val (.int (Int32.ofNat k0)), .val (.int (Int32.ofNat k1)), .val (.int (Int32.ofNat k2)), .val (.int (Int32.ofNat s)), .val (.int (Int32.ofNat (d + 1))), .val (.int (Int32.ofNat s)), .val (.int (Int32.ofNat ((s + (d + 1)) % 3))), .val (.int (Int32.ofNat ((s + 2 * (d + 1)) % 3))), .val (.int (3 : Int32)), .val (.ref a90), .val (.int (-1 : Int32)), .val (.int (1 : Int32)), .val (.int (0 : Int32)), .val (.int (1 : Int32)), .unset, .unset, .unset]) at_190 rfl rfl ?_
          exfalso
          have qA := h154
          rw [own_ie (by omega) (by omega)] at qA
          have qB := h168
          rw [own_ie (by omega) (by omega)] at qB
          have qC := h182
          rw [own_ie (by omega) (by omega)] at qC
          omega
        · refine C.iconst (q := 190) (z := (0 : Int32)) at_189 rfl rfl ?_
          refine C.istore (q := 192) (ls' := [.val (.int a), .val (.int b), .val (.int c), .val (.int dd), .val (.int e), .val (.int f), .val (.int (Int32.ofNat kc)), .val (.int (Int32.ofNat k0)), .val (.int (Int32.ofNat k1)), .val (.int (Int32.ofNat k2)), .val (.int (Int32.ofNat s)), .val (.int (Int32.ofNat (d + 1))), .val (.int (Int32.ofNat s)), .val (.int (Int32.ofNat ((s + (d + 1)) % 3))), .val (.int (Int32.ofNat ((s + 2 * (d + 1)) % 3))), .val (.int (3 : Int32)), .val (.ref a90), .val (.int (-1 : Int32)), .val (.int (1 : Int32)), .val (.int (0 : Int32)), .val (.int (0 : Int32)), .unset, .unset, .unset]) at_190 rfl rfl ?_
          have FF := own_f3_100 kc (by omega) k0 (by omega) k1 (by omega) k2 (by omega) s hs d hd
          rw [if_pos ⟨hkc.1, hk0, hk1, hk2, ((own_ie (by omega) (by omega)).mp h154), (fun z => h168 (congrArg Int32.ofNat z)), (fun z => h182 (congrArg Int32.ofNat z))⟩] at FF
          simp only [Bool.and_eq_true, decide_eq_true_eq] at FF
          obtain ⟨q_ok0, q_ok1, q_ok2, q_ln, q_cnt, q_nx0, q_nx1, q_nx2, q_b0, q_f0, q_b1, q_f1⟩ := FF
          refine C.iload (q := 194) at_192 rfl rfl ?_
          refine C.ifNe (q := 203) (q' := 197) at_194 (by decide) (by decide) rfl (fun h194 => absurd h194 (by decide)) (fun h194 => ?_)
          refine C.iload (q := 205) at_203 rfl rfl ?_
          refine C.iconst (q := 206) (z := (1 : Int32)) at_205 rfl rfl ?_
          refine C.icmpNe (q := 215) (q' := 209) at_206 (by decide) (by decide) rfl (fun h206 => absurd h206 (by decide)) (fun h206 => ?_)
          refine C.iload (q := 217) at_215 rfl rfl ?_
          refine C.iconst (q := 218) (z := (2 : Int32)) at_217 rfl rfl ?_
          refine C.icmpNe (q := 236) (q' := 221) at_218 (by decide) (by decide) rfl (fun h218 => absurd h218 (by decide)) (fun h218 => ?_)
          refine C.iconst (q := 237) (z := (1 : Int32)) at_236 rfl rfl ?_
          refine C.iload (q := 239) at_237 rfl rfl ?_
          refine C.ifEq (q := 246) (q' := 242) at_239 (by decide) (by decide) rfl (fun h239 => absurd h239 (by decide)) (fun h239 => ?_)
          refine C.iconst (q := 243) (z := (0 : Int32)) at_242 rfl rfl ?_
          refine C.goto (q := 247) at_243 (by decide) (by decide) ?_
          refine C.iadd (q := 248) at_247 rfl ?_
          show G 4 13 [(a90, .inr ("com/example/terms_to_transitions/termstotransitions/equivalence/TransitionLists", [("heads", "[I", .ref h), ("nexts", "[I", .ref x), ("keysMet", "[I", .ref m), ("keysMetCount", "I", .int ((own_add (own_add (own_add (own_s0 kc) s k0) ((s + (d + 1)) % 3) k1) ((s + 2 * (d + 1)) % 3) k2).2.2.2))])), (h, .inl (.int, (own_vl (own_add (own_add (own_add (own_s0 kc) s k0) ((s + (d + 1)) % 3) k1) ((s + 2 * (d + 1)) % 3) k2).1))), (x, .inl (.int, (own_vl (own_add (own_add (own_add (own_s0 kc) s k0) ((s + (d + 1)) % 3) k1) ((s + 2 * (d + 1)) % 3) k2).2.1))), (m, .inl (.int, (own_vl (own_add (own_add (own_add (own_s0 kc) s k0) ((s + (d + 1)) % 3) k1) ((s + 2 * (d + 1)) % 3) k2).2.2.1)))] 248 [.val (.int a), .val (.int b), .val (.int c), .val (.int dd), .val (.int e), .val (.int f), .val (.int (Int32.ofNat kc)), .val (.int (Int32.ofNat k0)), .val (.int (Int32.ofNat k1)), .val (.int (Int32.ofNat k2)), .val (.int (Int32.ofNat s)), .val (.int (Int32.ofNat (d + 1))), .val (.int (Int32.ofNat s)), .val (.int (Int32.ofNat ((s + (d + 1)) % 3))), .val (.int (Int32.ofNat ((s + 2 * (d + 1)) % 3))), .val (.int (3 : Int32)), .val (.ref a90), .val (.int (-1 : Int32)), .val (.int (1 : Int32)), .val (.int (0 : Int32)), .val (.int (0 : Int32)), .unset, .unset, .unset] [.int (1 : Int32)]
          refine C.iload (q := 250) at_248 rfl rfl ?_
          refine C.ifNe (q := 258) (q' := 253) at_250 (by decide) (by decide) rfl (fun h250 => ?_) (fun h250 => absurd (by decide) h250)
          refine C.iload (q := 255) at_253 rfl rfl ?_
          refine C.ifEq (q := 262) (q' := 258) at_255 (by decide) (by decide) rfl (fun h255 => ?_) (fun h255 => absurd (by decide) h255)
          refine C.iconst (q := 263) (z := (1 : Int32)) at_262 rfl rfl ?_
          refine C.iadd (q := 264) at_263 rfl ?_
          show G 4 13 [(a90, .inr ("com/example/terms_to_transitions/termstotransitions/equivalence/TransitionLists", [("heads", "[I", .ref h), ("nexts", "[I", .ref x), ("keysMet", "[I", .ref m), ("keysMetCount", "I", .int ((own_add (own_add (own_add (own_s0 kc) s k0) ((s + (d + 1)) % 3) k1) ((s + 2 * (d + 1)) % 3) k2).2.2.2))])), (h, .inl (.int, (own_vl (own_add (own_add (own_add (own_s0 kc) s k0) ((s + (d + 1)) % 3) k1) ((s + 2 * (d + 1)) % 3) k2).1))), (x, .inl (.int, (own_vl (own_add (own_add (own_add (own_s0 kc) s k0) ((s + (d + 1)) % 3) k1) ((s + 2 * (d + 1)) % 3) k2).2.1))), (m, .inl (.int, (own_vl (own_add (own_add (own_add (own_s0 kc) s k0) ((s + (d + 1)) % 3) k1) ((s + 2 * (d + 1)) % 3) k2).2.2.1)))] 264 [.val (.int a), .val (.int b), .val (.int c), .val (.int dd), .val (.int e), .val (.int f), .val (.int (Int32.ofNat kc)), .val (.int (Int32.ofNat k0)), .val (.int (Int32.ofNat k1)), .val (.int (Int32.ofNat k2)), .val (.int (Int32.ofNat s)), .val (.int (Int32.ofNat (d + 1))), .val (.int (Int32.ofNat s)), .val (.int (Int32.ofNat ((s + (d + 1)) % 3))), .val (.int (Int32.ofNat ((s + 2 * (d + 1)) % 3))), .val (.int (3 : Int32)), .val (.ref a90), .val (.int (-1 : Int32)), .val (.int (1 : Int32)), .val (.int (0 : Int32)), .val (.int (0 : Int32)), .unset, .unset, .unset] [.int (2 : Int32)]
          refine C.istore (q := 266) (ls' := [.val (.int a), .val (.int b), .val (.int c), .val (.int dd), .val (.int e), .val (.int f), .val (.int (Int32.ofNat kc)), .val (.int (Int32.ofNat k0)), .val (.int (Int32.ofNat k1)), .val (.int (Int32.ofNat k2)), .val (.int (Int32.ofNat s)), .val (.int (Int32.ofNat (d + 1))), .val (.int (Int32.ofNat s)), .val (.int (Int32.ofNat ((s + (d + 1)) % 3))), .val (.int (Int32.ofNat ((s + 2 * (d + 1)) % 3))), .val (.int (3 : Int32)), .val (.ref a90), .val (.int (-1 : Int32)), .val (.int (1 : Int32)), .val (.int (0 : Int32)), .val (.int (0 : Int32)), .val (.int (2 : Int32)), .unset, .unset]) at_264 rfl rfl ?_
          refine C.aload (q := 268) at_266 rfl rfl rfl ?_
          refine C.callV (q := 271) 0 0 [] [] at_268 (hw _ (List.mem_of_getElem? (i := 28) rfl)) (hw _ (List.mem_of_getElem? (i := 29) rfl)) (hw _ (List.mem_of_getElem? (i := 30) rfl)) (hw _ (List.mem_of_getElem? (i := 31) rfl)) (hw _ (List.mem_of_getElem? (i := 3) rfl)) (hw _ (List.mem_of_getElem? (i := 32) rfl)) (own_c2 l Z a0 n0 hw [] a90 h x m (own_add (own_add (own_add (own_s0 kc) s k0) ((s + (d + 1)) % 3) k1) ((s + 2 * (d + 1)) % 3) k2)) (by decide) (by decide) (by decide) own_pd2 rfl rfl rfl rfl (Nat.le_of_eq rfl) (by decide) (by decide) rfl ?_
          rintro _ _ ⟨rfl, hE⟩
          rw [hE]
          show G 4 13 [(a90, .inr ("com/example/terms_to_transitions/termstotransitions/equivalence/TransitionLists", [("heads", "[I", .ref h), ("nexts", "[I", .ref x), ("keysMet", "[I", .ref m), ("keysMetCount", "I", .int ((own_add (own_add (own_add (own_s0 kc) s k0) ((s + (d + 1)) % 3) k1) ((s + 2 * (d + 1)) % 3) k2).2.2.2))])), (h, .inl (.int, (own_vl (own_add (own_add (own_add (own_s0 kc) s k0) ((s + (d + 1)) % 3) k1) ((s + 2 * (d + 1)) % 3) k2).1))), (x, .inl (.int, (own_vl (own_add (own_add (own_add (own_s0 kc) s k0) ((s + (d + 1)) % 3) k1) ((s + 2 * (d + 1)) % 3) k2).2.1))), (m, .inl (.int, (own_vl (own_add (own_add (own_add (own_s0 kc) s k0) ((s + (d + 1)) % 3) k1) ((s + 2 * (d + 1)) % 3) k2).2.2.1)))] 271 [.val (.int a), .val (.int b), .val (.int c), .val (.int dd), .val (.int e), .val (.int f), .val (.int (Int32.ofNat kc)), .val (.int (Int32.ofNat k0)), .val (.int (Int32.ofNat k1)), .val (.int (Int32.ofNat k2)), .val (.int (Int32.ofNat s)), .val (.int (Int32.ofNat (d + 1))), .val (.int (Int32.ofNat s)), .val (.int (Int32.ofNat ((s + (d + 1)) % 3))), .val (.int (Int32.ofNat ((s + 2 * (d + 1)) % 3))), .val (.int (3 : Int32)), .val (.ref a90), .val (.int (-1 : Int32)), .val (.int (1 : Int32)), .val (.int (0 : Int32)), .val (.int (0 : Int32)), .val (.int (2 : Int32)), .unset, .unset] [.int ((own_add (own_add (own_add (own_s0 kc) s k0) ((s + (d + 1)) % 3) k1) ((s + 2 * (d + 1)) % 3) k2).2.2.2)]
          refine C.iload (q := 273) at_271 rfl rfl ?_
          refine C.icmpNe (q := 280) (q' := 276) at_273 (by decide) (by decide) rfl (fun h273 => ?_) (fun h273 => absurd (q_cnt) h273)
          refine C.iconst (q := 277) (z := (1 : Int32)) at_276 rfl rfl ?_
          refine C.goto (q := 281) at_277 (by decide) (by decide) ?_
          refine C.istore (q := 283) (ls' := [.val (.int a), .val (.int b), .val (.int c), .val (.int dd), .val (.int e), .val (.int f), .val (.int (Int32.ofNat kc)), .val (.int (Int32.ofNat k0)), .val (.int (Int32.ofNat k1)), .val (.int (Int32.ofNat k2)), .val (.int (Int32.ofNat s)), .val (.int (Int32.ofNat (d + 1))), .val (.int (Int32.ofNat s)), .val (.int (Int32.ofNat ((s + (d + 1)) % 3))), .val (.int (Int32.ofNat ((s + 2 * (d + 1)) % 3))), .val (.int (3 : Int32)), .val (.ref a90), .val (.int (-1 : Int32)), .val (.int (1 : Int32)), .val (.int (0 : Int32)), .val (.int (0 : Int32)), .val (.int (2 : Int32)), .val (.int (1 : Int32)), .unset]) at_281 rfl rfl ?_
          refine C.iload (q := 285) at_283 rfl rfl ?_
          refine C.iconst (q := 286) (z := (1 : Int32)) at_285 rfl rfl ?_
          refine C.icmpLt (q := 313) (q' := 289) at_286 (by decide) (by decide) rfl (fun h286 => absurd h286 (by decide)) (fun h286 => ?_)
          refine C.iload (q := 291) at_289 rfl rfl ?_
          refine C.ifEq (q := 310) (q' := 294) at_291 (by decide) (by decide) rfl (fun h291 => absurd h291 (by decide)) (fun h291 => ?_)
          refine C.aload (q := 296) at_294 rfl rfl rfl ?_
          refine C.iload (q := 298) at_296 rfl rfl ?_
          refine C.callV (q := 301) 0 0 [.int (Int32.ofNat s)] [] at_298 (hw _ (List.mem_of_getElem? (i := 33) rfl)) (hw _ (List.mem_of_getElem? (i := 34) rfl)) (hw _ (List.mem_of_getElem? (i := 35) rfl)) (hw _ (List.mem_of_getElem? (i := 36) rfl)) (hw _ (List.mem_of_getElem? (i := 3) rfl)) (hw _ (List.mem_of_getElem? (i := 37) rfl)) (own_c4 l Z a0 n0 hw [] a90 h x m (own_add (own_add (own_add (own_s0 kc) s k0) ((s + (d + 1)) % 3) k1) ((s + 2 * (d + 1)) % 3) k2) s (by omega) (by rw [q_ln]; omega)) (by decide) (by decide) (by decide) own_pd3 rfl rfl rfl rfl (Nat.le_of_eq rfl) (by decide) (by decide) rfl ?_
          rintro _ _ ⟨rfl, hE⟩
          rw [hE]
          show G 4 13 [(a90, .inr ("com/example/terms_to_transitions/termstotransitions/equivalence/TransitionLists", [("heads", "[I", .ref h), ("nexts", "[I", .ref x), ("keysMet", "[I", .ref m), ("keysMetCount", "I", .int ((own_add (own_add (own_add (own_s0 kc) s k0) ((s + (d + 1)) % 3) k1) ((s + 2 * (d + 1)) % 3) k2).2.2.2))])), (h, .inl (.int, (own_vl (own_add (own_add (own_add (own_s0 kc) s k0) ((s + (d + 1)) % 3) k1) ((s + 2 * (d + 1)) % 3) k2).1))), (x, .inl (.int, (own_vl (own_add (own_add (own_add (own_s0 kc) s k0) ((s + (d + 1)) % 3) k1) ((s + 2 * (d + 1)) % 3) k2).2.1))), (m, .inl (.int, (own_vl (own_add (own_add (own_add (own_s0 kc) s k0) ((s + (d + 1)) % 3) k1) ((s + 2 * (d + 1)) % 3) k2).2.2.1)))] 301 [.val (.int a), .val (.int b), .val (.int c), .val (.int dd), .val (.int e), .val (.int f), .val (.int (Int32.ofNat kc)), .val (.int (Int32.ofNat k0)), .val (.int (Int32.ofNat k1)), .val (.int (Int32.ofNat k2)), .val (.int (Int32.ofNat s)), .val (.int (Int32.ofNat (d + 1))), .val (.int (Int32.ofNat s)), .val (.int (Int32.ofNat ((s + (d + 1)) % 3))), .val (.int (Int32.ofNat ((s + 2 * (d + 1)) % 3))), .val (.int (3 : Int32)), .val (.ref a90), .val (.int (-1 : Int32)), .val (.int (1 : Int32)), .val (.int (0 : Int32)), .val (.int (0 : Int32)), .val (.int (2 : Int32)), .val (.int (1 : Int32)), .unset] [.int ((own_add (own_add (own_add (own_s0 kc) s k0) ((s + (d + 1)) % 3) k1) ((s + 2 * (d + 1)) % 3) k2).2.1.getD s 0)]
          refine C.iload (q := 303) at_301 rfl rfl ?_
          refine C.icmpNe (q := 310) (q' := 306) at_303 (by decide) (by decide) rfl (fun h303 => ?_) (fun h303 => absurd (q_nx0) h303)
          refine C.iconst (q := 307) (z := (1 : Int32)) at_306 rfl rfl ?_
          refine C.goto (q := 311) at_307 (by decide) (by decide) ?_
          refine C.istore (q := 313) (ls' := [.val (.int a), .val (.int b), .val (.int c), .val (.int dd), .val (.int e), .val (.int f), .val (.int (Int32.ofNat kc)), .val (.int (Int32.ofNat k0)), .val (.int (Int32.ofNat k1)), .val (.int (Int32.ofNat k2)), .val (.int (Int32.ofNat s)), .val (.int (Int32.ofNat (d + 1))), .val (.int (Int32.ofNat s)), .val (.int (Int32.ofNat ((s + (d + 1)) % 3))), .val (.int (Int32.ofNat ((s + 2 * (d + 1)) % 3))), .val (.int (3 : Int32)), .val (.ref a90), .val (.int (-1 : Int32)), .val (.int (1 : Int32)), .val (.int (0 : Int32)), .val (.int (0 : Int32)), .val (.int (2 : Int32)), .val (.int (1 : Int32)), .unset]) at_311 rfl rfl ?_
          refine C.iload (q := 315) at_313 rfl rfl ?_
          refine C.iconst (q := 316) (z := (2 : Int32)) at_315 rfl rfl ?_
          refine C.icmpLt (q := 353) (q' := 319) at_316 (by decide) (by decide) rfl (fun h316 => absurd h316 (by decide)) (fun h316 => ?_)
          refine C.iload (q := 321) at_319 rfl rfl ?_
          refine C.ifEq (q := 350) (q' := 324) at_321 (by decide) (by decide) rfl (fun h321 => absurd h321 (by decide)) (fun h321 => ?_)
          refine C.aload (q := 326) at_324 rfl rfl rfl ?_
          refine C.iload (q := 328) at_326 rfl rfl ?_
          refine C.callV (q := 331) 0 0 [.int (Int32.ofNat ((s + (d + 1)) % 3))] [] at_328 (hw _ (List.mem_of_getElem? (i := 33) rfl)) (hw _ (List.mem_of_getElem? (i := 34) rfl)) (hw _ (List.mem_of_getElem? (i := 35) rfl)) (hw _ (List.mem_of_getElem? (i := 36) rfl)) (hw _ (List.mem_of_getElem? (i := 3) rfl)) (hw _ (List.mem_of_getElem? (i := 37) rfl)) (own_c4 l Z a0 n0 hw [] a90 h x m (own_add (own_add (own_add (own_s0 kc) s k0) ((s + (d + 1)) % 3) k1) ((s + 2 * (d + 1)) % 3) k2) ((s + (d + 1)) % 3) (by omega) (by rw [q_ln]; omega)) (by decide) (by decide) (by decide) own_pd3 rfl rfl rfl rfl (Nat.le_of_eq rfl) (by decide) (by decide) rfl ?_
          rintro _ _ ⟨rfl, hE⟩
          rw [hE]
          show G 4 13 [(a90, .inr ("com/example/terms_to_transitions/termstotransitions/equivalence/TransitionLists", [("heads", "[I", .ref h), ("nexts", "[I", .ref x), ("keysMet", "[I", .ref m), ("keysMetCount", "I", .int ((own_add (own_add (own_add (own_s0 kc) s k0) ((s + (d + 1)) % 3) k1) ((s + 2 * (d + 1)) % 3) k2).2.2.2))])), (h, .inl (.int, (own_vl (own_add (own_add (own_add (own_s0 kc) s k0) ((s + (d + 1)) % 3) k1) ((s + 2 * (d + 1)) % 3) k2).1))), (x, .inl (.int, (own_vl (own_add (own_add (own_add (own_s0 kc) s k0) ((s + (d + 1)) % 3) k1) ((s + 2 * (d + 1)) % 3) k2).2.1))), (m, .inl (.int, (own_vl (own_add (own_add (own_add (own_s0 kc) s k0) ((s + (d + 1)) % 3) k1) ((s + 2 * (d + 1)) % 3) k2).2.2.1)))] 331 [.val (.int a), .val (.int b), .val (.int c), .val (.int dd), .val (.int e), .val (.int f), .val (.int (Int32.ofNat kc)), .val (.int (Int32.ofNat k0)), .val (.int (Int32.ofNat k1)), .val (.int (Int32.ofNat k2)), .val (.int (Int32.ofNat s)), .val (.int (Int32.ofNat (d + 1))), .val (.int (Int32.ofNat s)), .val (.int (Int32.ofNat ((s + (d + 1)) % 3))), .val (.int (Int32.ofNat ((s + 2 * (d + 1)) % 3))), .val (.int (3 : Int32)), .val (.ref a90), .val (.int (-1 : Int32)), .val (.int (1 : Int32)), .val (.int (0 : Int32)), .val (.int (0 : Int32)), .val (.int (2 : Int32)), .val (.int (1 : Int32)), .unset] [.int ((own_add (own_add (own_add (own_s0 kc) s k0) ((s + (d + 1)) % 3) k1) ((s + 2 * (d + 1)) % 3) k2).2.1.getD ((s + (d + 1)) % 3) 0)]
          refine C.iload (q := 333) at_331 rfl rfl ?_
          refine C.ifEq (q := 341) (q' := 336) at_333 (by decide) (by decide) rfl (fun h333 => absurd h333 (by decide)) (fun h333 => ?_)
          refine C.iload (q := 338) at_336 rfl rfl ?_
          refine C.goto (q := 343) at_338 (by decide) (by decide) ?_
          refine C.icmpNe (q := 350) (q' := 346) at_343 (by decide) (by decide) rfl (fun h343 => ?_) (fun h343 => absurd (q_nx1) h343)
          refine C.iconst (q := 347) (z := (1 : Int32)) at_346 rfl rfl ?_
          refine C.goto (q := 351) at_347 (by decide) (by decide) ?_
          refine C.istore (q := 353) (ls' := [.val (.int a), .val (.int b), .val (.int c), .val (.int dd), .val (.int e), .val (.int f), .val (.int (Int32.ofNat kc)), .val (.int (Int32.ofNat k0)), .val (.int (Int32.ofNat k1)), .val (.int (Int32.ofNat k2)), .val (.int (Int32.ofNat s)), .val (.int (Int32.ofNat (d + 1))), .val (.int (Int32.ofNat s)), .val (.int (Int32.ofNat ((s + (d + 1)) % 3))), .val (.int (Int32.ofNat ((s + 2 * (d + 1)) % 3))), .val (.int (3 : Int32)), .val (.ref a90), .val (.int (-1 : Int32)), .val (.int (1 : Int32)), .val (.int (0 : Int32)), .val (.int (0 : Int32)), .val (.int (2 : Int32)), .val (.int (1 : Int32)), .unset]) at_351 rfl rfl ?_
          refine C.iload (q := 355) at_353 rfl rfl ?_
          refine C.iconst (q := 356) (z := (3 : Int32)) at_355 rfl rfl ?_
          refine C.icmpLt (q := 403) (q' := 359) at_356 (by decide) (by decide) rfl (fun h356 => absurd h356 (by decide)) (fun h356 => ?_)
          refine C.iload (q := 361) at_359 rfl rfl ?_
          refine C.ifEq (q := 400) (q' := 364) at_361 (by decide) (by decide) rfl (fun h361 => absurd h361 (by decide)) (fun h361 => ?_)
          refine C.aload (q := 366) at_364 rfl rfl rfl ?_
          refine C.iload (q := 368) at_366 rfl rfl ?_
          refine C.callV (q := 371) 0 0 [.int (Int32.ofNat ((s + 2 * (d + 1)) % 3))] [] at_368 (hw _ (List.mem_of_getElem? (i := 33) rfl)) (hw _ (List.mem_of_getElem? (i := 34) rfl)) (hw _ (List.mem_of_getElem? (i := 35) rfl)) (hw _ (List.mem_of_getElem? (i := 36) rfl)) (hw _ (List.mem_of_getElem? (i := 3) rfl)) (hw _ (List.mem_of_getElem? (i := 37) rfl)) (own_c4 l Z a0 n0 hw [] a90 h x m (own_add (own_add (own_add (own_s0 kc) s k0) ((s + (d + 1)) % 3) k1) ((s + 2 * (d + 1)) % 3) k2) ((s + 2 * (d + 1)) % 3) (by omega) (by rw [q_ln]; omega)) (by decide) (by decide) (by decide) own_pd3 rfl rfl rfl rfl (Nat.le_of_eq rfl) (by decide) (by decide) rfl ?_
          rintro _ _ ⟨rfl, hE⟩
          rw [hE]
          show G 4 13 [(a90, .inr ("com/example/terms_to_transitions/termstotransitions/equivalence/TransitionLists", [("heads", "[I", .ref h), ("nexts", "[I", .ref x), ("keysMet", "[I", .ref m), ("keysMetCount", "I", .int ((own_add (own_add (own_add (own_s0 kc) s k0) ((s + (d + 1)) % 3) k1) ((s + 2 * (d + 1)) % 3) k2).2.2.2))])), (h, .inl (.int, (own_vl (own_add (own_add (own_add (own_s0 kc) s k0) ((s + (d + 1)) % 3) k1) ((s + 2 * (d + 1)) % 3) k2).1))), (x, .inl (.int, (own_vl (own_add (own_add (own_add (own_s0 kc) s k0) ((s + (d + 1)) % 3) k1) ((s + 2 * (d + 1)) % 3) k2).2.1))), (m, .inl (.int, (own_vl (own_add (own_add (own_add (own_s0 kc) s k0) ((s + (d + 1)) % 3) k1) ((s + 2 * (d + 1)) % 3) k2).2.2.1)))] 371 [.val (.int a), .val (.int b), .val (.int c), .val (.int dd), .val (.int e), .val (.int f), .val (.int (Int32.ofNat kc)), .val (.int (Int32.ofNat k0)), .val (.int (Int32.ofNat k1)), .val (.int (Int32.ofNat k2)), .val (.int (Int32.ofNat s)), .val (.int (Int32.ofNat (d + 1))), .val (.int (Int32.ofNat s)), .val (.int (Int32.ofNat ((s + (d + 1)) % 3))), .val (.int (Int32.ofNat ((s + 2 * (d + 1)) % 3))), .val (.int (3 : Int32)), .val (.ref a90), .val (.int (-1 : Int32)), .val (.int (1 : Int32)), .val (.int (0 : Int32)), .val (.int (0 : Int32)), .val (.int (2 : Int32)), .val (.int (1 : Int32)), .unset] [.int ((own_add (own_add (own_add (own_s0 kc) s k0) ((s + (d + 1)) % 3) k1) ((s + 2 * (d + 1)) % 3) k2).2.1.getD ((s + 2 * (d + 1)) % 3) 0)]
          refine C.iload (q := 373) at_371 rfl rfl ?_
          refine C.ifEq (q := 381) (q' := 376) at_373 (by decide) (by decide) rfl (fun h373 => ?_) (fun h373 => absurd (by decide) h373)
          refine C.iload (q := 383) at_381 rfl rfl ?_
          refine C.ifEq (q := 391) (q' := 386) at_383 (by decide) (by decide) rfl (fun h383 => ?_) (fun h383 => absurd (by decide) h383)
          refine C.iload (q := 393) at_391 rfl rfl ?_
          refine C.icmpNe (q := 400) (q' := 396) at_393 (by decide) (by decide) rfl (fun h393 => ?_) (fun h393 => absurd (q_nx2) h393)
          refine C.iconst (q := 397) (z := (1 : Int32)) at_396 rfl rfl ?_
          refine C.goto (q := 401) at_397 (by decide) (by decide) ?_
          refine C.istore (q := 403) (ls' := [.val (.int a), .val (.int b), .val (.int c), .val (.int dd), .val (.int e), .val (.int f), .val (.int (Int32.ofNat kc)), .val (.int (Int32.ofNat k0)), .val (.int (Int32.ofNat k1)), .val (.int (Int32.ofNat k2)), .val (.int (Int32.ofNat s)), .val (.int (Int32.ofNat (d + 1))), .val (.int (Int32.ofNat s)), .val (.int (Int32.ofNat ((s + (d + 1)) % 3))), .val (.int (Int32.ofNat ((s + 2 * (d + 1)) % 3))), .val (.int (3 : Int32)), .val (.ref a90), .val (.int (-1 : Int32)), .val (.int (1 : Int32)), .val (.int (0 : Int32)), .val (.int (0 : Int32)), .val (.int (2 : Int32)), .val (.int (1 : Int32)), .unset]) at_401 rfl rfl ?_
          refine C.iload (q := 405) at_403 rfl rfl ?_
          refine C.iconst (q := 406) (z := (1 : Int32)) at_405 rfl rfl ?_
          refine C.icmpLt (q := 468) (q' := 409) at_406 (by decide) (by decide) rfl (fun h406 => absurd h406 (by decide)) (fun h406 => ?_)
          refine C.iload (q := 411) at_409 rfl rfl ?_
          refine C.iconst (q := 412) (z := (3 : Int32)) at_411 rfl rfl ?_
          refine C.icmpLt (q := 425) (q' := 415) at_412 (by decide) (by decide) rfl (fun h412 => absurd h412 (by decide)) (fun h412 => ?_)
          refine C.iload (q := 417) at_415 rfl rfl ?_
          refine C.ifEq (q := 425) (q' := 420) at_417 (by decide) (by decide) rfl (fun h417 => ?_) (fun h417 => absurd (by decide) h417)
          refine C.iload (q := 427) at_425 rfl rfl ?_
          refine C.iconst (q := 428) (z := (2 : Int32)) at_427 rfl rfl ?_
          refine C.icmpLt (q := 441) (q' := 431) at_428 (by decide) (by decide) rfl (fun h428 => absurd h428 (by decide)) (fun h428 => ?_)
          refine C.iload (q := 433) at_431 rfl rfl ?_
          refine C.ifEq (q := 441) (q' := 436) at_433 (by decide) (by decide) rfl (fun h433 => absurd h433 (by decide)) (fun h433 => ?_)
          refine C.iload (q := 438) at_436 rfl rfl ?_
          refine C.goto (q := 443) at_438 (by decide) (by decide) ?_
          refine C.istore (q := 445) (ls' := [.val (.int a), .val (.int b), .val (.int c), .val (.int dd), .val (.int e), .val (.int f), .val (.int (Int32.ofNat kc)), .val (.int (Int32.ofNat k0)), .val (.int (Int32.ofNat k1)), .val (.int (Int32.ofNat k2)), .val (.int (Int32.ofNat s)), .val (.int (Int32.ofNat (d + 1))), .val (.int (Int32.ofNat s)), .val (.int (Int32.ofNat ((s + (d + 1)) % 3))), .val (.int (Int32.ofNat ((s + 2 * (d + 1)) % 3))), .val (.int (3 : Int32)), .val (.ref a90), .val (.int (-1 : Int32)), .val (.int (1 : Int32)), .val (.int (0 : Int32)), .val (.int (0 : Int32)), .val (.int (2 : Int32)), .val (.int (1 : Int32)), .val (.int (Int32.ofNat ((s + (d + 1)) % 3)))]) at_443 rfl rfl ?_
          refine C.iload (q := 447) at_445 rfl rfl ?_
          refine C.ifEq (q := 465) (q' := 450) at_447 (by decide) (by decide) rfl (fun h447 => absurd h447 (by decide)) (fun h447 => ?_)
          refine C.aload (q := 452) at_450 rfl rfl rfl ?_
          refine C.iconst (q := 453) (z := (0 : Int32)) at_452 rfl rfl ?_
          refine C.callV (q := 456) 0 0 [.int (0 : Int32)] [] at_453 (hw _ (List.mem_of_getElem? (i := 38) rfl)) (hw _ (List.mem_of_getElem? (i := 39) rfl)) (hw _ (List.mem_of_getElem? (i := 40) rfl)) (hw _ (List.mem_of_getElem? (i := 41) rfl)) (hw _ (List.mem_of_getElem? (i := 3) rfl)) (hw _ (List.mem_of_getElem? (i := 42) rfl)) (own_c3 l Z a0 n0 hw [] a90 h x m (own_add (own_add (own_add (own_s0 kc) s k0) ((s + (d + 1)) % 3) k1) ((s + 2 * (d + 1)) % 3) k2) 0 (by decide) (own_fB.ok q_b0).1 (own_fB.ok q_b0).2.1 (own_fB.ok q_b0).2.2) (by decide) (by decide) (by decide) own_pd3 rfl rfl rfl rfl (Nat.le_of_eq rfl) (by decide) (by decide) rfl ?_
          rintro _ _ ⟨rfl, hE⟩
          rw [hE]
          show G 4 13 [(a90, .inr ("com/example/terms_to_transitions/termstotransitions/equivalence/TransitionLists", [("heads", "[I", .ref h), ("nexts", "[I", .ref x), ("keysMet", "[I", .ref m), ("keysMetCount", "I", .int ((own_add (own_add (own_add (own_s0 kc) s k0) ((s + (d + 1)) % 3) k1) ((s + 2 * (d + 1)) % 3) k2).2.2.2))])), (h, .inl (.int, (own_vl (own_add (own_add (own_add (own_s0 kc) s k0) ((s + (d + 1)) % 3) k1) ((s + 2 * (d + 1)) % 3) k2).1))), (x, .inl (.int, (own_vl (own_add (own_add (own_add (own_s0 kc) s k0) ((s + (d + 1)) % 3) k1) ((s + 2 * (d + 1)) % 3) k2).2.1))), (m, .inl (.int, (own_vl (own_add (own_add (own_add (own_s0 kc) s k0) ((s + (d + 1)) % 3) k1) ((s + 2 * (d + 1)) % 3) k2).2.2.1)))] 456 [.val (.int a), .val (.int b), .val (.int c), .val (.int dd), .val (.int e), .val (.int f), .val (.int (Int32.ofNat kc)), .val (.int (Int32.ofNat k0)), .val (.int (Int32.ofNat k1)), .val (.int (Int32.ofNat k2)), .val (.int (Int32.ofNat s)), .val (.int (Int32.ofNat (d + 1))), .val (.int (Int32.ofNat s)), .val (.int (Int32.ofNat ((s + (d + 1)) % 3))), .val (.int (Int32.ofNat ((s + 2 * (d + 1)) % 3))), .val (.int (3 : Int32)), .val (.ref a90), .val (.int (-1 : Int32)), .val (.int (1 : Int32)), .val (.int (0 : Int32)), .val (.int (0 : Int32)), .val (.int (2 : Int32)), .val (.int (1 : Int32)), .val (.int (Int32.ofNat ((s + (d + 1)) % 3)))] [.int ((own_add (own_add (own_add (own_s0 kc) s k0) ((s + (d + 1)) % 3) k1) ((s + 2 * (d + 1)) % 3) k2).1.getD ((own_add (own_add (own_add (own_s0 kc) s k0) ((s + (d + 1)) % 3) k1) ((s + 2 * (d + 1)) % 3) k2).2.2.1.getD 0 0).toNatClampNeg 0)]
          refine C.iload (q := 458) at_456 rfl rfl ?_
          refine C.icmpNe (q := 465) (q' := 461) at_458 (by decide) (by decide) rfl (fun h458 => ?_) (fun h458 => absurd (q_f0) h458)
          refine C.iconst (q := 462) (z := (1 : Int32)) at_461 rfl rfl ?_
          refine C.goto (q := 466) at_462 (by decide) (by decide) ?_
          refine C.istore (q := 468) (ls' := [.val (.int a), .val (.int b), .val (.int c), .val (.int dd), .val (.int e), .val (.int f), .val (.int (Int32.ofNat kc)), .val (.int (Int32.ofNat k0)), .val (.int (Int32.ofNat k1)), .val (.int (Int32.ofNat k2)), .val (.int (Int32.ofNat s)), .val (.int (Int32.ofNat (d + 1))), .val (.int (Int32.ofNat s)), .val (.int (Int32.ofNat ((s + (d + 1)) % 3))), .val (.int (Int32.ofNat ((s + 2 * (d + 1)) % 3))), .val (.int (3 : Int32)), .val (.ref a90), .val (.int (-1 : Int32)), .val (.int (1 : Int32)), .val (.int (0 : Int32)), .val (.int (0 : Int32)), .val (.int (2 : Int32)), .val (.int (1 : Int32)), .val (.int (Int32.ofNat ((s + (d + 1)) % 3)))]) at_466 rfl rfl ?_
          refine C.iload (q := 470) at_468 rfl rfl ?_
          refine C.iconst (q := 471) (z := (2 : Int32)) at_470 rfl rfl ?_
          refine C.icmpLt (q := 527) (q' := 474) at_471 (by decide) (by decide) rfl (fun h471 => absurd h471 (by decide)) (fun h471 => ?_)
          refine C.iload (q := 476) at_474 rfl rfl ?_
          refine C.ifNe (q := 500) (q' := 479) at_476 (by decide) (by decide) rfl (fun h476 => absurd h476 (by decide)) (fun h476 => ?_)
          refine C.iload (q := 502) at_500 rfl rfl ?_
          refine C.istore (q := 504) (ls' := [.val (.int a), .val (.int b), .val (.int c), .val (.int dd), .val (.int e), .val (.int f), .val (.int (Int32.ofNat kc)), .val (.int (Int32.ofNat k0)), .val (.int (Int32.ofNat k1)), .val (.int (Int32.ofNat k2)), .val (.int (Int32.ofNat s)), .val (.int (Int32.ofNat (d + 1))), .val (.int (Int32.ofNat s)), .val (.int (Int32.ofNat ((s + (d + 1)) % 3))), .val (.int (Int32.ofNat ((s + 2 * (d + 1)) % 3))), .val (.int (3 : Int32)), .val (.ref a90), .val (.int (-1 : Int32)), .val (.int (1 : Int32)), .val (.int (0 : Int32)), .val (.int (0 : Int32)), .val (.int (2 : Int32)), .val (.int (1 : Int32)), .val (.int (Int32.ofNat ((s + 2 * (d + 1)) % 3)))]) at_502 rfl rfl ?_
          refine C.iload (q := 506) at_504 rfl rfl ?_
          refine C.ifEq (q := 524) (q' := 509) at_506 (by decide) (by decide) rfl (fun h506 => absurd h506 (by decide)) (fun h506 => ?_)
          refine C.aload (q := 511) at_509 rfl rfl rfl ?_
          refine C.iconst (q := 512) (z := (1 : Int32)) at_511 rfl rfl ?_
          refine C.callV (q := 515) 0 0 [.int (1 : Int32)] [] at_512 (hw _ (List.mem_of_getElem? (i := 38) rfl)) (hw _ (List.mem_of_getElem? (i := 39) rfl)) (hw _ (List.mem_of_getElem? (i := 40) rfl)) (hw _ (List.mem_of_getElem? (i := 41) rfl)) (hw _ (List.mem_of_getElem? (i := 3) rfl)) (hw _ (List.mem_of_getElem? (i := 42) rfl)) (own_c3 l Z a0 n0 hw [] a90 h x m (own_add (own_add (own_add (own_s0 kc) s k0) ((s + (d + 1)) % 3) k1) ((s + 2 * (d + 1)) % 3) k2) 1 (by decide) (own_fB.ok q_b1).1 (own_fB.ok q_b1).2.1 (own_fB.ok q_b1).2.2) (by decide) (by decide) (by decide) own_pd3 rfl rfl rfl rfl (Nat.le_of_eq rfl) (by decide) (by decide) rfl ?_
          rintro _ _ ⟨rfl, hE⟩
          rw [hE]
          show G 4 13 [(a90, .inr ("com/example/terms_to_transitions/termstotransitions/equivalence/TransitionLists", [("heads", "[I", .ref h), ("nexts", "[I", .ref x), ("keysMet", "[I", .ref m), ("keysMetCount", "I", .int ((own_add (own_add (own_add (own_s0 kc) s k0) ((s + (d + 1)) % 3) k1) ((s + 2 * (d + 1)) % 3) k2).2.2.2))])), (h, .inl (.int, (own_vl (own_add (own_add (own_add (own_s0 kc) s k0) ((s + (d + 1)) % 3) k1) ((s + 2 * (d + 1)) % 3) k2).1))), (x, .inl (.int, (own_vl (own_add (own_add (own_add (own_s0 kc) s k0) ((s + (d + 1)) % 3) k1) ((s + 2 * (d + 1)) % 3) k2).2.1))), (m, .inl (.int, (own_vl (own_add (own_add (own_add (own_s0 kc) s k0) ((s + (d + 1)) % 3) k1) ((s + 2 * (d + 1)) % 3) k2).2.2.1)))] 515 [.val (.int a), .val (.int b), .val (.int c), .val (.int dd), .val (.int e), .val (.int f), .val (.int (Int32.ofNat kc)), .val (.int (Int32.ofNat k0)), .val (.int (Int32.ofNat k1)), .val (.int (Int32.ofNat k2)), .val (.int (Int32.ofNat s)), .val (.int (Int32.ofNat (d + 1))), .val (.int (Int32.ofNat s)), .val (.int (Int32.ofNat ((s + (d + 1)) % 3))), .val (.int (Int32.ofNat ((s + 2 * (d + 1)) % 3))), .val (.int (3 : Int32)), .val (.ref a90), .val (.int (-1 : Int32)), .val (.int (1 : Int32)), .val (.int (0 : Int32)), .val (.int (0 : Int32)), .val (.int (2 : Int32)), .val (.int (1 : Int32)), .val (.int (Int32.ofNat ((s + 2 * (d + 1)) % 3)))] [.int ((own_add (own_add (own_add (own_s0 kc) s k0) ((s + (d + 1)) % 3) k1) ((s + 2 * (d + 1)) % 3) k2).1.getD ((own_add (own_add (own_add (own_s0 kc) s k0) ((s + (d + 1)) % 3) k1) ((s + 2 * (d + 1)) % 3) k2).2.2.1.getD 1 0).toNatClampNeg 0)]
          refine C.iload (q := 517) at_515 rfl rfl ?_
          refine C.icmpNe (q := 524) (q' := 520) at_517 (by decide) (by decide) rfl (fun h517 => ?_) (fun h517 => absurd (q_f1) h517)
          refine C.iconst (q := 521) (z := (1 : Int32)) at_520 rfl rfl ?_
          refine C.goto (q := 525) at_521 (by decide) (by decide) ?_
          refine C.istore (q := 527) (ls' := [.val (.int a), .val (.int b), .val (.int c), .val (.int dd), .val (.int e), .val (.int f), .val (.int (Int32.ofNat kc)), .val (.int (Int32.ofNat k0)), .val (.int (Int32.ofNat k1)), .val (.int (Int32.ofNat k2)), .val (.int (Int32.ofNat s)), .val (.int (Int32.ofNat (d + 1))), .val (.int (Int32.ofNat s)), .val (.int (Int32.ofNat ((s + (d + 1)) % 3))), .val (.int (Int32.ofNat ((s + 2 * (d + 1)) % 3))), .val (.int (3 : Int32)), .val (.ref a90), .val (.int (-1 : Int32)), .val (.int (1 : Int32)), .val (.int (0 : Int32)), .val (.int (0 : Int32)), .val (.int (2 : Int32)), .val (.int (1 : Int32)), .val (.int (Int32.ofNat ((s + 2 * (d + 1)) % 3)))]) at_525 rfl rfl ?_
          refine C.iload (q := 529) at_527 rfl rfl ?_
          refine C.iconst (q := 530) (z := (3 : Int32)) at_529 rfl rfl ?_
          refine C.icmpLt (q := 556) (q' := 533) at_530 (by decide) (by decide) rfl (fun h530 => ?_) (fun h530 => absurd (by decide) h530)
          refine C.iload (q := 558) at_556 rfl rfl ?_
          exact C.retB (by simp) at_558 (by decide) (by decide) rfl
    · refine C.iconst (q := 162) (z := (0 : Int32)) at_161 rfl rfl ?_
      refine C.istore (q := 164) (ls' := [.val (.int a), .val (.int b), .val (.int c), .val (.int dd), .val (.int e), .val (.int f), .val (.int (Int32.ofNat kc)), .val (.int (Int32.ofNat k0)), .val (.int (Int32.ofNat k1)), .val (.int (Int32.ofNat k2)), .val (.int (Int32.ofNat s)), .val (.int (Int32.ofNat (d + 1))), .val (.int (Int32.ofNat s)), .val (.int (Int32.ofNat ((s + (d + 1)) % 3))), .val (.int (Int32.ofNat ((s + 2 * (d + 1)) % 3))), .val (.int (3 : Int32)), .val (.ref a90), .val (.int (-1 : Int32)), .val (.int (0 : Int32)), .unset, .unset, .unset, .unset, .unset]) at_162 rfl rfl ?_
      refine C.iload (q := 166) at_164 rfl rfl ?_
      refine C.iload (q := 168) at_166 rfl rfl ?_
      refine C.icmpNe (q := 175) (q' := 171) at_168 (by decide) (by decide) rfl (fun h168 => ?_) (fun h168 => ?_)
      · refine C.iconst (q := 172) (z := (1 : Int32)) at_171 rfl rfl ?_
        refine C.goto (q := 176) at_172 (by decide) (by decide) ?_
        refine C.istore (q := 178) (ls' := [.val (.int a), .val (.int b), .val (.int c), .val (.int dd), .val (.int e), .val (.int f), .val (.int (Int32.ofNat kc)), .val (.int (Int32.ofNat k0)), .val (.int (Int32.ofNat k1)), .val (.int (Int32.ofNat k2)), .val (.int (Int32.ofNat s)), .val (.int (Int32.ofNat (d + 1))), .val (.int (Int32.ofNat s)), .val (.int (Int32.ofNat ((s + (d + 1)) % 3))), .val (.int (Int32.ofNat ((s + 2 * (d + 1)) % 3))), .val (.int (3 : Int32)), .val (.ref a90), .val (.int (-1 : Int32)), .val (.int (0 : Int32)), .val (.int (1 : Int32)), .unset, .unset, .unset, .unset]) at_176 rfl rfl ?_
        refine C.iload (q := 180) at_178 rfl rfl ?_
        refine C.iload (q := 182) at_180 rfl rfl ?_
        refine C.icmpNe (q := 189) (q' := 185) at_182 (by decide) (by decide) rfl (fun h182 => ?_) (fun h182 => ?_)
        · refine C.iconst (q := 186) (z := (1 : Int32)) at_185 rfl rfl ?_
          refine C.goto (q := 190) at_186 (by decide) (by decide) ?_
          refine C.istore (q := 192) (ls' := [.val (.int a), .val (.int b), .val (.int c), .val (.int dd), .val (.int e), .val (.int f), .val (.int (Int32.ofNat kc)), .val (.int (Int32.ofNat k0)), .val (.int (Int32.ofNat k1)), .val (.int (Int32.ofNat k2)), .val (.int (Int32.ofNat s)), .val (.int (Int32.ofNat (d + 1))), .val (.int (Int32.ofNat s)), .val (.int (Int32.ofNat ((s + (d + 1)) % 3))), .val (.int (Int32.ofNat ((s + 2 * (d + 1)) % 3))), .val (.int (3 : Int32)), .val (.ref a90), .val (.int (-1 : Int32)), .val (.int (0 : Int32)), .val (.int (1 : Int32)), .val (.int (1 : Int32)), .unset, .unset, .unset]) at_190 rfl rfl ?_
          exfalso
          have qA := h154
          rw [own_ie (by omega) (by omega)] at qA
          have qB := h168
          rw [own_ie (by omega) (by omega)] at qB
          have qC := h182
          rw [own_ie (by omega) (by omega)] at qC
          omega
        · refine C.iconst (q := 190) (z := (0 : Int32)) at_189 rfl rfl ?_
          refine C.istore (q := 192) (ls' := [.val (.int a), .val (.int b), .val (.int c), .val (.int dd), .val (.int e), .val (.int f), .val (.int (Int32.ofNat kc)), .val (.int (Int32.ofNat k0)), .val (.int (Int32.ofNat k1)), .val (.int (Int32.ofNat k2)), .val (.int (Int32.ofNat s)), .val (.int (Int32.ofNat (d + 1))), .val (.int (Int32.ofNat s)), .val (.int (Int32.ofNat ((s + (d + 1)) % 3))), .val (.int (Int32.ofNat ((s + 2 * (d + 1)) % 3))), .val (.int (3 : Int32)), .val (.ref a90), .val (.int (-1 : Int32)), .val (.int (0 : Int32)), .val (.int (1 : Int32)), .val (.int (0 : Int32)), .unset, .unset, .unset]) at_190 rfl rfl ?_
          have FF := own_f3_010 kc (by omega) k0 (by omega) k1 (by omega) k2 (by omega) s hs d hd
          rw [if_pos ⟨hkc.1, hk0, hk1, hk2, (fun z => h154 (congrArg Int32.ofNat z)), ((own_ie (by omega) (by omega)).mp h168), (fun z => h182 (congrArg Int32.ofNat z))⟩] at FF
          simp only [Bool.and_eq_true, decide_eq_true_eq] at FF
          obtain ⟨q_ok0, q_ok1, q_ok2, q_ln, q_cnt, q_nx0, q_nx1, q_nx2, q_b0, q_f0, q_b1, q_f1⟩ := FF
          refine C.iload (q := 194) at_192 rfl rfl ?_
          refine C.ifNe (q := 203) (q' := 197) at_194 (by decide) (by decide) rfl (fun h194 => absurd h194 (by decide)) (fun h194 => ?_)
          refine C.iload (q := 205) at_203 rfl rfl ?_
          refine C.iconst (q := 206) (z := (1 : Int32)) at_205 rfl rfl ?_
          refine C.icmpNe (q := 215) (q' := 209) at_206 (by decide) (by decide) rfl (fun h206 => absurd h206 (by decide)) (fun h206 => ?_)
          refine C.iload (q := 217) at_215 rfl rfl ?_
          refine C.iconst (q := 218) (z := (2 : Int32)) at_217 rfl rfl ?_
          refine C.icmpNe (q := 236) (q' := 221) at_218 (by decide) (by decide) rfl (fun h218 => absurd h218 (by decide)) (fun h218 => ?_)
          refine C.iconst (q := 237) (z := (1 : Int32)) at_236 rfl rfl ?_
          refine C.iload (q := 239) at_237 rfl rfl ?_
          refine C.ifEq (q := 246) (q' := 242) at_239 (by decide) (by decide) rfl (fun h239 => ?_) (fun h239 => absurd (by decide) h239)
          refine C.iconst (q := 247) (z := (1 : Int32)) at_246 rfl rfl ?_
          refine C.iadd (q := 248) at_247 rfl ?_
          show G 4 13 [(a90, .inr ("com/example/terms_to_transitions/termstotransitions/equivalence/TransitionLists", [("heads", "[I", .ref h), ("nexts", "[I", .ref x), ("keysMet", "[I", .ref m), ("keysMetCount", "I", .int ((own_add (own_add (own_add (own_s0 kc) s k0) ((s + (d + 1)) % 3) k1) ((s + 2 * (d + 1)) % 3) k2).2.2.2))])), (h, .inl (.int, (own_vl (own_add (own_add (own_add (own_s0 kc) s k0) ((s + (d + 1)) % 3) k1) ((s + 2 * (d + 1)) % 3) k2).1))), (x, .inl (.int, (own_vl (own_add (own_add (own_add (own_s0 kc) s k0) ((s + (d + 1)) % 3) k1) ((s + 2 * (d + 1)) % 3) k2).2.1))), (m, .inl (.int, (own_vl (own_add (own_add (own_add (own_s0 kc) s k0) ((s + (d + 1)) % 3) k1) ((s + 2 * (d + 1)) % 3) k2).2.2.1)))] 248 [.val (.int a), .val (.int b), .val (.int c), .val (.int dd), .val (.int e), .val (.int f), .val (.int (Int32.ofNat kc)), .val (.int (Int32.ofNat k0)), .val (.int (Int32.ofNat k1)), .val (.int (Int32.ofNat k2)), .val (.int (Int32.ofNat s)), .val (.int (Int32.ofNat (d + 1))), .val (.int (Int32.ofNat s)), .val (.int (Int32.ofNat ((s + (d + 1)) % 3))), .val (.int (Int32.ofNat ((s + 2 * (d + 1)) % 3))), .val (.int (3 : Int32)), .val (.ref a90), .val (.int (-1 : Int32)), .val (.int (0 : Int32)), .val (.int (1 : Int32)), .val (.int (0 : Int32)), .unset, .unset, .unset] [.int (2 : Int32)]
          refine C.iload (q := 250) at_248 rfl rfl ?_
          refine C.ifNe (q := 258) (q' := 253) at_250 (by decide) (by decide) rfl (fun h250 => absurd h250 (by decide)) (fun h250 => ?_)
          refine C.iconst (q := 259) (z := (0 : Int32)) at_258 rfl rfl ?_
          refine C.goto (q := 263) at_259 (by decide) (by decide) ?_
          refine C.iadd (q := 264) at_263 rfl ?_
          show G 4 13 [(a90, .inr ("com/example/terms_to_transitions/termstotransitions/equivalence/TransitionLists", [("heads", "[I", .ref h), ("nexts", "[I", .ref x), ("keysMet", "[I", .ref m), ("keysMetCount", "I", .int ((own_add (own_add (own_add (own_s0 kc) s k0) ((s + (d + 1)) % 3) k1) ((s + 2 * (d + 1)) % 3) k2).2.2.2))])), (h, .inl (.int, (own_vl (own_add (own_add (own_add (own_s0 kc) s k0) ((s + (d + 1)) % 3) k1) ((s + 2 * (d + 1)) % 3) k2).1))), (x, .inl (.int, (own_vl (own_add (own_add (own_add (own_s0 kc) s k0) ((s + (d + 1)) % 3) k1) ((s + 2 * (d + 1)) % 3) k2).2.1))), (m, .inl (.int, (own_vl (own_add (own_add (own_add (own_s0 kc) s k0) ((s + (d + 1)) % 3) k1) ((s + 2 * (d + 1)) % 3) k2).2.2.1)))] 264 [.val (.int a), .val (.int b), .val (.int c), .val (.int dd), .val (.int e), .val (.int f), .val (.int (Int32.ofNat kc)), .val (.int (Int32.ofNat k0)), .val (.int (Int32.ofNat k1)), .val (.int (Int32.ofNat k2)), .val (.int (Int32.ofNat s)), .val (.int (Int32.ofNat (d + 1))), .val (.int (Int32.ofNat s)), .val (.int (Int32.ofNat ((s + (d + 1)) % 3))), .val (.int (Int32.ofNat ((s + 2 * (d + 1)) % 3))), .val (.int (3 : Int32)), .val (.ref a90), .val (.int (-1 : Int32)), .val (.int (0 : Int32)), .val (.int (1 : Int32)), .val (.int (0 : Int32)), .unset, .unset, .unset] [.int (2 : Int32)]
          refine C.istore (q := 266) (ls' := [.val (.int a), .val (.int b), .val (.int c), .val (.int dd), .val (.int e), .val (.int f), .val (.int (Int32.ofNat kc)), .val (.int (Int32.ofNat k0)), .val (.int (Int32.ofNat k1)), .val (.int (Int32.ofNat k2)), .val (.int (Int32.ofNat s)), .val (.int (Int32.ofNat (d + 1))), .val (.int (Int32.ofNat s)), .val (.int (Int32.ofNat ((s + (d + 1)) % 3))), .val (.int (Int32.ofNat ((s + 2 * (d + 1)) % 3))), .val (.int (3 : Int32)), .val (.ref a90), .val (.int (-1 : Int32)), .val (.int (0 : Int32)), .val (.int (1 : Int32)), .val (.int (0 : Int32)), .val (.int (2 : Int32)), .unset, .unset]) at_264 rfl rfl ?_
          refine C.aload (q := 268) at_266 rfl rfl rfl ?_
          refine C.callV (q := 271) 0 0 [] [] at_268 (hw _ (List.mem_of_getElem? (i := 28) rfl)) (hw _ (List.mem_of_getElem? (i := 29) rfl)) (hw _ (List.mem_of_getElem? (i := 30) rfl)) (hw _ (List.mem_of_getElem? (i := 31) rfl)) (hw _ (List.mem_of_getElem? (i := 3) rfl)) (hw _ (List.mem_of_getElem? (i := 32) rfl)) (own_c2 l Z a0 n0 hw [] a90 h x m (own_add (own_add (own_add (own_s0 kc) s k0) ((s + (d + 1)) % 3) k1) ((s + 2 * (d + 1)) % 3) k2)) (by decide) (by decide) (by decide) own_pd2 rfl rfl rfl rfl (Nat.le_of_eq rfl) (by decide) (by decide) rfl ?_
          rintro _ _ ⟨rfl, hE⟩
          rw [hE]
          show G 4 13 [(a90, .inr ("com/example/terms_to_transitions/termstotransitions/equivalence/TransitionLists", [("heads", "[I", .ref h), ("nexts", "[I", .ref x), ("keysMet", "[I", .ref m), ("keysMetCount", "I", .int ((own_add (own_add (own_add (own_s0 kc) s k0) ((s + (d + 1)) % 3) k1) ((s + 2 * (d + 1)) % 3) k2).2.2.2))])), (h, .inl (.int, (own_vl (own_add (own_add (own_add (own_s0 kc) s k0) ((s + (d + 1)) % 3) k1) ((s + 2 * (d + 1)) % 3) k2).1))), (x, .inl (.int, (own_vl (own_add (own_add (own_add (own_s0 kc) s k0) ((s + (d + 1)) % 3) k1) ((s + 2 * (d + 1)) % 3) k2).2.1))), (m, .inl (.int, (own_vl (own_add (own_add (own_add (own_s0 kc) s k0) ((s + (d + 1)) % 3) k1) ((s + 2 * (d + 1)) % 3) k2).2.2.1)))] 271 [.val (.int a), .val (.int b), .val (.int c), .val (.int dd), .val (.int e), .val (.int f), .val (.int (Int32.ofNat kc)), .val (.int (Int32.ofNat k0)), .val (.int (Int32.ofNat k1)), .val (.int (Int32.ofNat k2)), .val (.int (Int32.ofNat s)), .val (.int (Int32.ofNat (d + 1))), .val (.int (Int32.ofNat s)), .val (.int (Int32.ofNat ((s + (d + 1)) % 3))), .val (.int (Int32.ofNat ((s + 2 * (d + 1)) % 3))), .val (.int (3 : Int32)), .val (.ref a90), .val (.int (-1 : Int32)), .val (.int (0 : Int32)), .val (.int (1 : Int32)), .val (.int (0 : Int32)), .val (.int (2 : Int32)), .unset, .unset] [.int ((own_add (own_add (own_add (own_s0 kc) s k0) ((s + (d + 1)) % 3) k1) ((s + 2 * (d + 1)) % 3) k2).2.2.2)]
          refine C.iload (q := 273) at_271 rfl rfl ?_
          refine C.icmpNe (q := 280) (q' := 276) at_273 (by decide) (by decide) rfl (fun h273 => ?_) (fun h273 => absurd (q_cnt) h273)
          refine C.iconst (q := 277) (z := (1 : Int32)) at_276 rfl rfl ?_
          refine C.goto (q := 281) at_277 (by decide) (by decide) ?_
          refine C.istore (q := 283) (ls' := [.val (.int a), .val (.int b), .val (.int c), .val (.int dd), .val (.int e), .val (.int f), .val (.int (Int32.ofNat kc)), .val (.int (Int32.ofNat k0)), .val (.int (Int32.ofNat k1)), .val (.int (Int32.ofNat k2)), .val (.int (Int32.ofNat s)), .val (.int (Int32.ofNat (d + 1))), .val (.int (Int32.ofNat s)), .val (.int (Int32.ofNat ((s + (d + 1)) % 3))), .val (.int (Int32.ofNat ((s + 2 * (d + 1)) % 3))), .val (.int (3 : Int32)), .val (.ref a90), .val (.int (-1 : Int32)), .val (.int (0 : Int32)), .val (.int (1 : Int32)), .val (.int (0 : Int32)), .val (.int (2 : Int32)), .val (.int (1 : Int32)), .unset]) at_281 rfl rfl ?_
          refine C.iload (q := 285) at_283 rfl rfl ?_
          refine C.iconst (q := 286) (z := (1 : Int32)) at_285 rfl rfl ?_
          refine C.icmpLt (q := 313) (q' := 289) at_286 (by decide) (by decide) rfl (fun h286 => absurd h286 (by decide)) (fun h286 => ?_)
          refine C.iload (q := 291) at_289 rfl rfl ?_
          refine C.ifEq (q := 310) (q' := 294) at_291 (by decide) (by decide) rfl (fun h291 => absurd h291 (by decide)) (fun h291 => ?_)
          refine C.aload (q := 296) at_294 rfl rfl rfl ?_
          refine C.iload (q := 298) at_296 rfl rfl ?_
          refine C.callV (q := 301) 0 0 [.int (Int32.ofNat s)] [] at_298 (hw _ (List.mem_of_getElem? (i := 33) rfl)) (hw _ (List.mem_of_getElem? (i := 34) rfl)) (hw _ (List.mem_of_getElem? (i := 35) rfl)) (hw _ (List.mem_of_getElem? (i := 36) rfl)) (hw _ (List.mem_of_getElem? (i := 3) rfl)) (hw _ (List.mem_of_getElem? (i := 37) rfl)) (own_c4 l Z a0 n0 hw [] a90 h x m (own_add (own_add (own_add (own_s0 kc) s k0) ((s + (d + 1)) % 3) k1) ((s + 2 * (d + 1)) % 3) k2) s (by omega) (by rw [q_ln]; omega)) (by decide) (by decide) (by decide) own_pd3 rfl rfl rfl rfl (Nat.le_of_eq rfl) (by decide) (by decide) rfl ?_
          rintro _ _ ⟨rfl, hE⟩
          rw [hE]
          show G 4 13 [(a90, .inr ("com/example/terms_to_transitions/termstotransitions/equivalence/TransitionLists", [("heads", "[I", .ref h), ("nexts", "[I", .ref x), ("keysMet", "[I", .ref m), ("keysMetCount", "I", .int ((own_add (own_add (own_add (own_s0 kc) s k0) ((s + (d + 1)) % 3) k1) ((s + 2 * (d + 1)) % 3) k2).2.2.2))])), (h, .inl (.int, (own_vl (own_add (own_add (own_add (own_s0 kc) s k0) ((s + (d + 1)) % 3) k1) ((s + 2 * (d + 1)) % 3) k2).1))), (x, .inl (.int, (own_vl (own_add (own_add (own_add (own_s0 kc) s k0) ((s + (d + 1)) % 3) k1) ((s + 2 * (d + 1)) % 3) k2).2.1))), (m, .inl (.int, (own_vl (own_add (own_add (own_add (own_s0 kc) s k0) ((s + (d + 1)) % 3) k1) ((s + 2 * (d + 1)) % 3) k2).2.2.1)))] 301 [.val (.int a), .val (.int b), .val (.int c), .val (.int dd), .val (.int e), .val (.int f), .val (.int (Int32.ofNat kc)), .val (.int (Int32.ofNat k0)), .val (.int (Int32.ofNat k1)), .val (.int (Int32.ofNat k2)), .val (.int (Int32.ofNat s)), .val (.int (Int32.ofNat (d + 1))), .val (.int (Int32.ofNat s)), .val (.int (Int32.ofNat ((s + (d + 1)) % 3))), .val (.int (Int32.ofNat ((s + 2 * (d + 1)) % 3))), .val (.int (3 : Int32)), .val (.ref a90), .val (.int (-1 : Int32)), .val (.int (0 : Int32)), .val (.int (1 : Int32)), .val (.int (0 : Int32)), .val (.int (2 : Int32)), .val (.int (1 : Int32)), .unset] [.int ((own_add (own_add (own_add (own_s0 kc) s k0) ((s + (d + 1)) % 3) k1) ((s + 2 * (d + 1)) % 3) k2).2.1.getD s 0)]
          refine C.iload (q := 303) at_301 rfl rfl ?_
          refine C.icmpNe (q := 310) (q' := 306) at_303 (by decide) (by decide) rfl (fun h303 => ?_) (fun h303 => absurd (q_nx0) h303)
          refine C.iconst (q := 307) (z := (1 : Int32)) at_306 rfl rfl ?_
          refine C.goto (q := 311) at_307 (by decide) (by decide) ?_
          refine C.istore (q := 313) (ls' := [.val (.int a), .val (.int b), .val (.int c), .val (.int dd), .val (.int e), .val (.int f), .val (.int (Int32.ofNat kc)), .val (.int (Int32.ofNat k0)), .val (.int (Int32.ofNat k1)), .val (.int (Int32.ofNat k2)), .val (.int (Int32.ofNat s)), .val (.int (Int32.ofNat (d + 1))), .val (.int (Int32.ofNat s)), .val (.int (Int32.ofNat ((s + (d + 1)) % 3))), .val (.int (Int32.ofNat ((s + 2 * (d + 1)) % 3))), .val (.int (3 : Int32)), .val (.ref a90), .val (.int (-1 : Int32)), .val (.int (0 : Int32)), .val (.int (1 : Int32)), .val (.int (0 : Int32)), .val (.int (2 : Int32)), .val (.int (1 : Int32)), .unset]) at_311 rfl rfl ?_
          refine C.iload (q := 315) at_313 rfl rfl ?_
          refine C.iconst (q := 316) (z := (2 : Int32)) at_315 rfl rfl ?_
          refine C.icmpLt (q := 353) (q' := 319) at_316 (by decide) (by decide) rfl (fun h316 => absurd h316 (by decide)) (fun h316 => ?_)
          refine C.iload (q := 321) at_319 rfl rfl ?_
          refine C.ifEq (q := 350) (q' := 324) at_321 (by decide) (by decide) rfl (fun h321 => absurd h321 (by decide)) (fun h321 => ?_)
          refine C.aload (q := 326) at_324 rfl rfl rfl ?_
          refine C.iload (q := 328) at_326 rfl rfl ?_
          refine C.callV (q := 331) 0 0 [.int (Int32.ofNat ((s + (d + 1)) % 3))] [] at_328 (hw _ (List.mem_of_getElem? (i := 33) rfl)) (hw _ (List.mem_of_getElem? (i := 34) rfl)) (hw _ (List.mem_of_getElem? (i := 35) rfl)) (hw _ (List.mem_of_getElem? (i := 36) rfl)) (hw _ (List.mem_of_getElem? (i := 3) rfl)) (hw _ (List.mem_of_getElem? (i := 37) rfl)) (own_c4 l Z a0 n0 hw [] a90 h x m (own_add (own_add (own_add (own_s0 kc) s k0) ((s + (d + 1)) % 3) k1) ((s + 2 * (d + 1)) % 3) k2) ((s + (d + 1)) % 3) (by omega) (by rw [q_ln]; omega)) (by decide) (by decide) (by decide) own_pd3 rfl rfl rfl rfl (Nat.le_of_eq rfl) (by decide) (by decide) rfl ?_
          rintro _ _ ⟨rfl, hE⟩
          rw [hE]
          show G 4 13 [(a90, .inr ("com/example/terms_to_transitions/termstotransitions/equivalence/TransitionLists", [("heads", "[I", .ref h), ("nexts", "[I", .ref x), ("keysMet", "[I", .ref m), ("keysMetCount", "I", .int ((own_add (own_add (own_add (own_s0 kc) s k0) ((s + (d + 1)) % 3) k1) ((s + 2 * (d + 1)) % 3) k2).2.2.2))])), (h, .inl (.int, (own_vl (own_add (own_add (own_add (own_s0 kc) s k0) ((s + (d + 1)) % 3) k1) ((s + 2 * (d + 1)) % 3) k2).1))), (x, .inl (.int, (own_vl (own_add (own_add (own_add (own_s0 kc) s k0) ((s + (d + 1)) % 3) k1) ((s + 2 * (d + 1)) % 3) k2).2.1))), (m, .inl (.int, (own_vl (own_add (own_add (own_add (own_s0 kc) s k0) ((s + (d + 1)) % 3) k1) ((s + 2 * (d + 1)) % 3) k2).2.2.1)))] 331 [.val (.int a), .val (.int b), .val (.int c), .val (.int dd), .val (.int e), .val (.int f), .val (.int (Int32.ofNat kc)), .val (.int (Int32.ofNat k0)), .val (.int (Int32.ofNat k1)), .val (.int (Int32.ofNat k2)), .val (.int (Int32.ofNat s)), .val (.int (Int32.ofNat (d + 1))), .val (.int (Int32.ofNat s)), .val (.int (Int32.ofNat ((s + (d + 1)) % 3))), .val (.int (Int32.ofNat ((s + 2 * (d + 1)) % 3))), .val (.int (3 : Int32)), .val (.ref a90), .val (.int (-1 : Int32)), .val (.int (0 : Int32)), .val (.int (1 : Int32)), .val (.int (0 : Int32)), .val (.int (2 : Int32)), .val (.int (1 : Int32)), .unset] [.int ((own_add (own_add (own_add (own_s0 kc) s k0) ((s + (d + 1)) % 3) k1) ((s + 2 * (d + 1)) % 3) k2).2.1.getD ((s + (d + 1)) % 3) 0)]
          refine C.iload (q := 333) at_331 rfl rfl ?_
          refine C.ifEq (q := 341) (q' := 336) at_333 (by decide) (by decide) rfl (fun h333 => ?_) (fun h333 => absurd (by decide) h333)
          refine C.iload (q := 343) at_341 rfl rfl ?_
          refine C.icmpNe (q := 350) (q' := 346) at_343 (by decide) (by decide) rfl (fun h343 => ?_) (fun h343 => absurd (q_nx1) h343)
          refine C.iconst (q := 347) (z := (1 : Int32)) at_346 rfl rfl ?_
          refine C.goto (q := 351) at_347 (by decide) (by decide) ?_
          refine C.istore (q := 353) (ls' := [.val (.int a), .val (.int b), .val (.int c), .val (.int dd), .val (.int e), .val (.int f), .val (.int (Int32.ofNat kc)), .val (.int (Int32.ofNat k0)), .val (.int (Int32.ofNat k1)), .val (.int (Int32.ofNat k2)), .val (.int (Int32.ofNat s)), .val (.int (Int32.ofNat (d + 1))), .val (.int (Int32.ofNat s)), .val (.int (Int32.ofNat ((s + (d + 1)) % 3))), .val (.int (Int32.ofNat ((s + 2 * (d + 1)) % 3))), .val (.int (3 : Int32)), .val (.ref a90), .val (.int (-1 : Int32)), .val (.int (0 : Int32)), .val (.int (1 : Int32)), .val (.int (0 : Int32)), .val (.int (2 : Int32)), .val (.int (1 : Int32)), .unset]) at_351 rfl rfl ?_
          refine C.iload (q := 355) at_353 rfl rfl ?_
          refine C.iconst (q := 356) (z := (3 : Int32)) at_355 rfl rfl ?_
          refine C.icmpLt (q := 403) (q' := 359) at_356 (by decide) (by decide) rfl (fun h356 => absurd h356 (by decide)) (fun h356 => ?_)
          refine C.iload (q := 361) at_359 rfl rfl ?_
          refine C.ifEq (q := 400) (q' := 364) at_361 (by decide) (by decide) rfl (fun h361 => absurd h361 (by decide)) (fun h361 => ?_)
          refine C.aload (q := 366) at_364 rfl rfl rfl ?_
          refine C.iload (q := 368) at_366 rfl rfl ?_
          refine C.callV (q := 371) 0 0 [.int (Int32.ofNat ((s + 2 * (d + 1)) % 3))] [] at_368 (hw _ (List.mem_of_getElem? (i := 33) rfl)) (hw _ (List.mem_of_getElem? (i := 34) rfl)) (hw _ (List.mem_of_getElem? (i := 35) rfl)) (hw _ (List.mem_of_getElem? (i := 36) rfl)) (hw _ (List.mem_of_getElem? (i := 3) rfl)) (hw _ (List.mem_of_getElem? (i := 37) rfl)) (own_c4 l Z a0 n0 hw [] a90 h x m (own_add (own_add (own_add (own_s0 kc) s k0) ((s + (d + 1)) % 3) k1) ((s + 2 * (d + 1)) % 3) k2) ((s + 2 * (d + 1)) % 3) (by omega) (by rw [q_ln]; omega)) (by decide) (by decide) (by decide) own_pd3 rfl rfl rfl rfl (Nat.le_of_eq rfl) (by decide) (by decide) rfl ?_
          rintro _ _ ⟨rfl, hE⟩
          rw [hE]
          show G 4 13 [(a90, .inr ("com/example/terms_to_transitions/termstotransitions/equivalence/TransitionLists", [("heads", "[I", .ref h), ("nexts", "[I", .ref x), ("keysMet", "[I", .ref m), ("keysMetCount", "I", .int ((own_add (own_add (own_add (own_s0 kc) s k0) ((s + (d + 1)) % 3) k1) ((s + 2 * (d + 1)) % 3) k2).2.2.2))])), (h, .inl (.int, (own_vl (own_add (own_add (own_add (own_s0 kc) s k0) ((s + (d + 1)) % 3) k1) ((s + 2 * (d + 1)) % 3) k2).1))), (x, .inl (.int, (own_vl (own_add (own_add (own_add (own_s0 kc) s k0) ((s + (d + 1)) % 3) k1) ((s + 2 * (d + 1)) % 3) k2).2.1))), (m, .inl (.int, (own_vl (own_add (own_add (own_add (own_s0 kc) s k0) ((s + (d + 1)) % 3) k1) ((s + 2 * (d + 1)) % 3) k2).2.2.1)))] 371 [.val (.int a), .val (.int b), .val (.int c), .val (.int dd), .val (.int e), .val (.int f), .val (.int (Int32.ofNat kc)), .val (.int (Int32.ofNat k0)), .val (.int (Int32.ofNat k1)), .val (.int (Int32.ofNat k2)), .val (.int (Int32.ofNat s)), .val (.int (Int32.ofNat (d + 1))), .val (.int (Int32.ofNat s)), .val (.int (Int32.ofNat ((s + (d + 1)) % 3))), .val (.int (Int32.ofNat ((s + 2 * (d + 1)) % 3))), .val (.int (3 : Int32)), .val (.ref a90), .val (.int (-1 : Int32)), .val (.int (0 : Int32)), .val (.int (1 : Int32)), .val (.int (0 : Int32)), .val (.int (2 : Int32)), .val (.int (1 : Int32)), .unset] [.int ((own_add (own_add (own_add (own_s0 kc) s k0) ((s + (d + 1)) % 3) k1) ((s + 2 * (d + 1)) % 3) k2).2.1.getD ((s + 2 * (d + 1)) % 3) 0)]
          refine C.iload (q := 373) at_371 rfl rfl ?_
          refine C.ifEq (q := 381) (q' := 376) at_373 (by decide) (by decide) rfl (fun h373 => ?_) (fun h373 => absurd (by decide) h373)
          refine C.iload (q := 383) at_381 rfl rfl ?_
          refine C.ifEq (q := 391) (q' := 386) at_383 (by decide) (by decide) rfl (fun h383 => absurd h383 (by decide)) (fun h383 => ?_)
          refine C.iload (q := 388) at_386 rfl rfl ?_
          refine C.goto (q := 393) at_388 (by decide) (by decide) ?_
          refine C.icmpNe (q := 400) (q' := 396) at_393 (by decide) (by decide) rfl (fun h393 => ?_) (fun h393 => absurd (q_nx2) h393)
          refine C.iconst (q := 397) (z := (1 : Int32)) at_396 rfl rfl ?_
          refine C.goto (q := 401) at_397 (by decide) (by decide) ?_
          refine C.istore (q := 403) (ls' := [.val (.int a), .val (.int b), .val (.int c), .val (.int dd), .val (.int e), .val (.int f), .val (.int (Int32.ofNat kc)), .val (.int (Int32.ofNat k0)), .val (.int (Int32.ofNat k1)), .val (.int (Int32.ofNat k2)), .val (.int (Int32.ofNat s)), .val (.int (Int32.ofNat (d + 1))), .val (.int (Int32.ofNat s)), .val (.int (Int32.ofNat ((s + (d + 1)) % 3))), .val (.int (Int32.ofNat ((s + 2 * (d + 1)) % 3))), .val (.int (3 : Int32)), .val (.ref a90), .val (.int (-1 : Int32)), .val (.int (0 : Int32)), .val (.int (1 : Int32)), .val (.int (0 : Int32)), .val (.int (2 : Int32)), .val (.int (1 : Int32)), .unset]) at_401 rfl rfl ?_
          refine C.iload (q := 405) at_403 rfl rfl ?_
          refine C.iconst (q := 406) (z := (1 : Int32)) at_405 rfl rfl ?_
          refine C.icmpLt (q := 468) (q' := 409) at_406 (by decide) (by decide) rfl (fun h406 => absurd h406 (by decide)) (fun h406 => ?_)
          refine C.iload (q := 411) at_409 rfl rfl ?_
          refine C.iconst (q := 412) (z := (3 : Int32)) at_411 rfl rfl ?_
          refine C.icmpLt (q := 425) (q' := 415) at_412 (by decide) (by decide) rfl (fun h412 => absurd h412 (by decide)) (fun h412 => ?_)
          refine C.iload (q := 417) at_415 rfl rfl ?_
          refine C.ifEq (q := 425) (q' := 420) at_417 (by decide) (by decide) rfl (fun h417 => absurd h417 (by decide)) (fun h417 => ?_)
          refine C.iload (q := 422) at_420 rfl rfl ?_
          refine C.goto (q := 443) at_422 (by decide) (by decide) ?_
          refine C.istore (q := 445) (ls' := [.val (.int a), .val (.int b), .val (.int c), .val (.int dd), .val (.int e), .val (.int f), .val (.int (Int32.ofNat kc)), .val (.int (Int32.ofNat k0)), .val (.int (Int32.ofNat k1)), .val (.int (Int32.ofNat k2)), .val (.int (Int32.ofNat s)), .val (.int (Int32.ofNat (d + 1))), .val (.int (Int32.ofNat s)), .val (.int (Int32.ofNat ((s + (d + 1)) % 3))), .val (.int (Int32.ofNat ((s + 2 * (d + 1)) % 3))), .val (.int (3 : Int32)), .val (.ref a90), .val (.int (-1 : Int32)), .val (.int (0 : Int32)), .val (.int (1 : Int32)), .val (.int (0 : Int32)), .val (.int (2 : Int32)), .val (.int (1 : Int32)), .val (.int (Int32.ofNat ((s + 2 * (d + 1)) % 3)))]) at_443 rfl rfl ?_
          refine C.iload (q := 447) at_445 rfl rfl ?_
          refine C.ifEq (q := 465) (q' := 450) at_447 (by decide) (by decide) rfl (fun h447 => absurd h447 (by decide)) (fun h447 => ?_)
          refine C.aload (q := 452) at_450 rfl rfl rfl ?_
          refine C.iconst (q := 453) (z := (0 : Int32)) at_452 rfl rfl ?_
          refine C.callV (q := 456) 0 0 [.int (0 : Int32)] [] at_453 (hw _ (List.mem_of_getElem? (i := 38) rfl)) (hw _ (List.mem_of_getElem? (i := 39) rfl)) (hw _ (List.mem_of_getElem? (i := 40) rfl)) (hw _ (List.mem_of_getElem? (i := 41) rfl)) (hw _ (List.mem_of_getElem? (i := 3) rfl)) (hw _ (List.mem_of_getElem? (i := 42) rfl)) (own_c3 l Z a0 n0 hw [] a90 h x m (own_add (own_add (own_add (own_s0 kc) s k0) ((s + (d + 1)) % 3) k1) ((s + 2 * (d + 1)) % 3) k2) 0 (by decide) (own_fB.ok q_b0).1 (own_fB.ok q_b0).2.1 (own_fB.ok q_b0).2.2) (by decide) (by decide) (by decide) own_pd3 rfl rfl rfl rfl (Nat.le_of_eq rfl) (by decide) (by decide) rfl ?_
          rintro _ _ ⟨rfl, hE⟩
          rw [hE]
          show G 4 13 [(a90, .inr ("com/example/terms_to_transitions/termstotransitions/equivalence/TransitionLists", [("heads", "[I", .ref h), ("nexts", "[I", .ref x), ("keysMet", "[I", .ref m), ("keysMetCount", "I", .int ((own_add (own_add (own_add (own_s0 kc) s k0) ((s + (d + 1)) % 3) k1) ((s + 2 * (d + 1)) % 3) k2).2.2.2))])), (h, .inl (.int, (own_vl (own_add (own_add (own_add (own_s0 kc) s k0) ((s + (d + 1)) % 3) k1) ((s + 2 * (d + 1)) % 3) k2).1))), (x, .inl (.int, (own_vl (own_add (own_add (own_add (own_s0 kc) s k0) ((s + (d + 1)) % 3) k1) ((s + 2 * (d + 1)) % 3) k2).2.1))), (m, .inl (.int, (own_vl (own_add (own_add (own_add (own_s0 kc) s k0) ((s + (d + 1)) % 3) k1) ((s + 2 * (d + 1)) % 3) k2).2.2.1)))] 456 [.val (.int a), .val (.int b), .val (.int c), .val (.int dd), .val (.int e), .val (.int f), .val (.int (Int32.ofNat kc)), .val (.int (Int32.ofNat k0)), .val (.int (Int32.ofNat k1)), .val (.int (Int32.ofNat k2)), .val (.int (Int32.ofNat s)), .val (.int (Int32.ofNat (d + 1))), .val (.int (Int32.ofNat s)), .val (.int (Int32.ofNat ((s + (d + 1)) % 3))), .val (.int (Int32.ofNat ((s + 2 * (d + 1)) % 3))), .val (.int (3 : Int32)), .val (.ref a90), .val (.int (-1 : Int32)), .val (.int (0 : Int32)), .val (.int (1 : Int32)), .val (.int (0 : Int32)), .val (.int (2 : Int32)), .val (.int (1 : Int32)), .val (.int (Int32.ofNat ((s + 2 * (d + 1)) % 3)))] [.int ((own_add (own_add (own_add (own_s0 kc) s k0) ((s + (d + 1)) % 3) k1) ((s + 2 * (d + 1)) % 3) k2).1.getD ((own_add (own_add (own_add (own_s0 kc) s k0) ((s + (d + 1)) % 3) k1) ((s + 2 * (d + 1)) % 3) k2).2.2.1.getD 0 0).toNatClampNeg 0)]
          refine C.iload (q := 458) at_456 rfl rfl ?_
          refine C.icmpNe (q := 465) (q' := 461) at_458 (by decide) (by decide) rfl (fun h458 => ?_) (fun h458 => absurd (q_f0) h458)
          refine C.iconst (q := 462) (z := (1 : Int32)) at_461 rfl rfl ?_
          refine C.goto (q := 466) at_462 (by decide) (by decide) ?_
          refine C.istore (q := 468) (ls' := [.val (.int a), .val (.int b), .val (.int c), .val (.int dd), .val (.int e), .val (.int f), .val (.int (Int32.ofNat kc)), .val (.int (Int32.ofNat k0)), .val (.int (Int32.ofNat k1)), .val (.int (Int32.ofNat k2)), .val (.int (Int32.ofNat s)), .val (.int (Int32.ofNat (d + 1))), .val (.int (Int32.ofNat s)), .val (.int (Int32.ofNat ((s + (d + 1)) % 3))), .val (.int (Int32.ofNat ((s + 2 * (d + 1)) % 3))), .val (.int (3 : Int32)), .val (.ref a90), .val (.int (-1 : Int32)), .val (.int (0 : Int32)), .val (.int (1 : Int32)), .val (.int (0 : Int32)), .val (.int (2 : Int32)), .val (.int (1 : Int32)), .val (.int (Int32.ofNat ((s + 2 * (d + 1)) % 3)))]) at_466 rfl rfl ?_
          refine C.iload (q := 470) at_468 rfl rfl ?_
          refine C.iconst (q := 471) (z := (2 : Int32)) at_470 rfl rfl ?_
          refine C.icmpLt (q := 527) (q' := 474) at_471 (by decide) (by decide) rfl (fun h471 => absurd h471 (by decide)) (fun h471 => ?_)
          refine C.iload (q := 476) at_474 rfl rfl ?_
          refine C.ifNe (q := 500) (q' := 479) at_476 (by decide) (by decide) rfl (fun h476 => ?_) (fun h476 => absurd (by decide) h476)
          refine C.iload (q := 481) at_479 rfl rfl ?_
          refine C.iconst (q := 482) (z := (3 : Int32)) at_481 rfl rfl ?_
          refine C.icmpLt (q := 495) (q' := 485) at_482 (by decide) (by decide) rfl (fun h482 => absurd h482 (by decide)) (fun h482 => ?_)
          refine C.iload (q := 487) at_485 rfl rfl ?_
          refine C.ifEq (q := 495) (q' := 490) at_487 (by decide) (by decide) rfl (fun h487 => ?_) (fun h487 => absurd (by decide) h487)
          refine C.iload (q := 497) at_495 rfl rfl ?_
          refine C.goto (q := 502) at_497 (by decide) (by decide) ?_
          refine C.istore (q := 504) (ls' := [.val (.int a), .val (.int b), .val (.int c), .val (.int dd), .val (.int e), .val (.int f), .val (.int (Int32.ofNat kc)), .val (.int (Int32.ofNat k0)), .val (.int (Int32.ofNat k1)), .val (.int (Int32.ofNat k2)), .val (.int (Int32.ofNat s)), .val (.int (Int32.ofNat (d + 1))), .val (.int (Int32.ofNat s)), .val (.int (Int32.ofNat ((s + (d + 1)) % 3))), .val (.int (Int32.ofNat ((s + 2 * (d + 1)) % 3))), .val (.int (3 : Int32)), .val (.ref a90), .val (.int (-1 : Int32)), .val (.int (0 : Int32)), .val (.int (1 : Int32)), .val (.int (0 : Int32)), .val (.int (2 : Int32)), .val (.int (1 : Int32)), .val (.int (Int32.ofNat ((s + (d + 1)) % 3)))]) at_502 rfl rfl ?_
          refine C.iload (q := 506) at_504 rfl rfl ?_
          refine C.ifEq (q := 524) (q' := 509) at_506 (by decide) (by decide) rfl (fun h506 => absurd h506 (by decide)) (fun h506 => ?_)
          refine C.aload (q := 511) at_509 rfl rfl rfl ?_
          refine C.iconst (q := 512) (z := (1 : Int32)) at_511 rfl rfl ?_
          refine C.callV (q := 515) 0 0 [.int (1 : Int32)] [] at_512 (hw _ (List.mem_of_getElem? (i := 38) rfl)) (hw _ (List.mem_of_getElem? (i := 39) rfl)) (hw _ (List.mem_of_getElem? (i := 40) rfl)) (hw _ (List.mem_of_getElem? (i := 41) rfl)) (hw _ (List.mem_of_getElem? (i := 3) rfl)) (hw _ (List.mem_of_getElem? (i := 42) rfl)) (own_c3 l Z a0 n0 hw [] a90 h x m (own_add (own_add (own_add (own_s0 kc) s k0) ((s + (d + 1)) % 3) k1) ((s + 2 * (d + 1)) % 3) k2) 1 (by decide) (own_fB.ok q_b1).1 (own_fB.ok q_b1).2.1 (own_fB.ok q_b1).2.2) (by decide) (by decide) (by decide) own_pd3 rfl rfl rfl rfl (Nat.le_of_eq rfl) (by decide) (by decide) rfl ?_
          rintro _ _ ⟨rfl, hE⟩
          rw [hE]
          show G 4 13 [(a90, .inr ("com/example/terms_to_transitions/termstotransitions/equivalence/TransitionLists", [("heads", "[I", .ref h), ("nexts", "[I", .ref x), ("keysMet", "[I", .ref m), ("keysMetCount", "I", .int ((own_add (own_add (own_add (own_s0 kc) s k0) ((s + (d + 1)) % 3) k1) ((s + 2 * (d + 1)) % 3) k2).2.2.2))])), (h, .inl (.int, (own_vl (own_add (own_add (own_add (own_s0 kc) s k0) ((s + (d + 1)) % 3) k1) ((s + 2 * (d + 1)) % 3) k2).1))), (x, .inl (.int, (own_vl (own_add (own_add (own_add (own_s0 kc) s k0) ((s + (d + 1)) % 3) k1) ((s + 2 * (d + 1)) % 3) k2).2.1))), (m, .inl (.int, (own_vl (own_add (own_add (own_add (own_s0 kc) s k0) ((s + (d + 1)) % 3) k1) ((s + 2 * (d + 1)) % 3) k2).2.2.1)))] 515 [.val (.int a), .val (.int b), .val (.int c), .val (.int dd), .val (.int e), .val (.int f), .val (.int (Int32.ofNat kc)), .val (.int (Int32.ofNat k0)), .val (.int (Int32.ofNat k1)), .val (.int (Int32.ofNat k2)), .val (.int (Int32.ofNat s)), .val (.int (Int32.ofNat (d + 1))), .val (.int (Int32.ofNat s)), .val (.int (Int32.ofNat ((s + (d + 1)) % 3))), .val (.int (Int32.ofNat ((s + 2 * (d + 1)) % 3))), .val (.int (3 : Int32)), .val (.ref a90), .val (.int (-1 : Int32)), .val (.int (0 : Int32)), .val (.int (1 : Int32)), .val (.int (0 : Int32)), .val (.int (2 : Int32)), .val (.int (1 : Int32)), .val (.int (Int32.ofNat ((s + (d + 1)) % 3)))] [.int ((own_add (own_add (own_add (own_s0 kc) s k0) ((s + (d + 1)) % 3) k1) ((s + 2 * (d + 1)) % 3) k2).1.getD ((own_add (own_add (own_add (own_s0 kc) s k0) ((s + (d + 1)) % 3) k1) ((s + 2 * (d + 1)) % 3) k2).2.2.1.getD 1 0).toNatClampNeg 0)]
          refine C.iload (q := 517) at_515 rfl rfl ?_
          refine C.icmpNe (q := 524) (q' := 520) at_517 (by decide) (by decide) rfl (fun h517 => ?_) (fun h517 => absurd (q_f1) h517)
          refine C.iconst (q := 521) (z := (1 : Int32)) at_520 rfl rfl ?_
          refine C.goto (q := 525) at_521 (by decide) (by decide) ?_
          refine C.istore (q := 527) (ls' := [.val (.int a), .val (.int b), .val (.int c), .val (.int dd), .val (.int e), .val (.int f), .val (.int (Int32.ofNat kc)), .val (.int (Int32.ofNat k0)), .val (.int (Int32.ofNat k1)), .val (.int (Int32.ofNat k2)), .val (.int (Int32.ofNat s)), .val (.int (Int32.ofNat (d + 1))), .val (.int (Int32.ofNat s)), .val (.int (Int32.ofNat ((s + (d + 1)) % 3))), .val (.int (Int32.ofNat ((s + 2 * (d + 1)) % 3))), .val (.int (3 : Int32)), .val (.ref a90), .val (.int (-1 : Int32)), .val (.int (0 : Int32)), .val (.int (1 : Int32)), .val (.int (0 : Int32)), .val (.int (2 : Int32)), .val (.int (1 : Int32)), .val (.int (Int32.ofNat ((s + (d + 1)) % 3)))]) at_525 rfl rfl ?_
          refine C.iload (q := 529) at_527 rfl rfl ?_
          refine C.iconst (q := 530) (z := (3 : Int32)) at_529 rfl rfl ?_
          refine C.icmpLt (q := 556) (q' := 533) at_530 (by decide) (by decide) rfl (fun h530 => ?_) (fun h530 => absurd (by decide) h530)
          refine C.iload (q := 558) at_556 rfl rfl ?_
          exact C.retB (by simp) at_558 (by decide) (by decide) rfl
      · refine C.iconst (q := 176) (z := (0 : Int32)) at_175 rfl rfl ?_
        refine C.istore (q := 178) (ls' := [.val (.int a), .val (.int b), .val (.int c), .val (.int dd), .val (.int e), .val (.int f), .val (.int (Int32.ofNat kc)), .val (.int (Int32.ofNat k0)), .val (.int (Int32.ofNat k1)), .val (.int (Int32.ofNat k2)), .val (.int (Int32.ofNat s)), .val (.int (Int32.ofNat (d + 1))), .val (.int (Int32.ofNat s)), .val (.int (Int32.ofNat ((s + (d + 1)) % 3))), .val (.int (Int32.ofNat ((s + 2 * (d + 1)) % 3))), .val (.int (3 : Int32)), .val (.ref a90), .val (.int (-1 : Int32)), .val (.int (0 : Int32)), .val (.int (0 : Int32)), .unset, .unset, .unset, .unset]) at_176 rfl rfl ?_
        refine C.iload (q := 180) at_178 rfl rfl ?_
        refine C.iload (q := 182) at_180 rfl rfl ?_
        refine C.icmpNe (q := 189) (q' := 185) at_182 (by decide) (by decide) rfl (fun h182 => ?_) (fun h182 => ?_)
        · refine C.iconst (q := 186) (z := (1 : Int32)) at_185 rfl rfl ?_
          refine C.goto (q := 190) at_186 (by decide) (by decide) ?_
          refine C.istore (q := 192) (ls' := [.val (.int a), .val (.int b), .val (.int c), .val (.int dd), .val (.int e), .val (.int f), .val (.int (Int32.ofNat kc)), .val (.int (Int32.ofNat k0)), .val (.int (Int32.ofNat k1)), .val (.int (Int32.ofNat k2)), .val (.int (Int32.ofNat s)), .val (.int (Int32.ofNat (d + 1))), .val (.int (Int32.ofNat s)), .val (.int (Int32.ofNat ((s + (d + 1)) % 3))), .val (.int (Int32.ofNat ((s + 2 * (d + 1)) % 3))), .val (.int (3 : Int32)), .val (.ref a90), .val (.int (-1 : Int32)), .val (.int (0 : Int32)), .val (.int (0 : Int32)), .val (.int (1 : Int32)), .unset, .unset, .unset]) at_190 rfl rfl ?_
          have FF := own_f3_001 kc (by omega) k0 (by omega) k1 (by omega) k2 (by omega) s hs d hd
          rw [if_pos ⟨hkc.1, hk0, hk1, hk2, (fun z => h154 (congrArg Int32.ofNat z)), (fun z => h168 (congrArg Int32.ofNat z)), ((own_ie (by omega) (by omega)).mp h182)⟩] at FF
          simp only [Bool.and_eq_true, decide_eq_true_eq] at FF
          obtain ⟨q_ok0, q_ok1, q_ok2, q_ln, q_cnt, q_nx0, q_nx1, q_nx2, q_b0, q_f0, q_b1, q_f1⟩ := FF
          refine C.iload (q := 194) at_192 rfl rfl ?_
          refine C.ifNe (q := 203) (q' := 197) at_194 (by decide) (by decide) rfl (fun h194 => absurd h194 (by decide)) (fun h194 => ?_)
          refine C.iload (q := 205) at_203 rfl rfl ?_
          refine C.iconst (q := 206) (z := (1 : Int32)) at_205 rfl rfl ?_
          refine C.icmpNe (q := 215) (q' := 209) at_206 (by decide) (by decide) rfl (fun h206 => absurd h206 (by decide)) (fun h206 => ?_)
          refine C.iload (q := 217) at_215 rfl rfl ?_
          refine C.iconst (q := 218) (z := (2 : Int32)) at_217 rfl rfl ?_
          refine C.icmpNe (q := 236) (q' := 221) at_218 (by decide) (by decide) rfl (fun h218 => absurd h218 (by decide)) (fun h218 => ?_)
          refine C.iconst (q := 237) (z := (1 : Int32)) at_236 rfl rfl ?_
          refine C.iload (q := 239) at_237 rfl rfl ?_
          refine C.ifEq (q := 246) (q' := 242) at_239 (by decide) (by decide) rfl (fun h239 => ?_) (fun h239 => absurd (by decide) h239)
          refine C.iconst (q := 247) (z := (1 : Int32)) at_246 rfl rfl ?_
          refine C.iadd (q := 248) at_247 rfl ?_
          show G 4 13 [(a90, .inr ("com/example/terms_to_transitions/termstotransitions/equivalence/TransitionLists", [("heads", "[I", .ref h), ("nexts", "[I", .ref x), ("keysMet", "[I", .ref m), ("keysMetCount", "I", .int ((own_add (own_add (own_add (own_s0 kc) s k0) ((s + (d + 1)) % 3) k1) ((s + 2 * (d + 1)) % 3) k2).2.2.2))])), (h, .inl (.int, (own_vl (own_add (own_add (own_add (own_s0 kc) s k0) ((s + (d + 1)) % 3) k1) ((s + 2 * (d + 1)) % 3) k2).1))), (x, .inl (.int, (own_vl (own_add (own_add (own_add (own_s0 kc) s k0) ((s + (d + 1)) % 3) k1) ((s + 2 * (d + 1)) % 3) k2).2.1))), (m, .inl (.int, (own_vl (own_add (own_add (own_add (own_s0 kc) s k0) ((s + (d + 1)) % 3) k1) ((s + 2 * (d + 1)) % 3) k2).2.2.1)))] 248 [.val (.int a), .val (.int b), .val (.int c), .val (.int dd), .val (.int e), .val (.int f), .val (.int (Int32.ofNat kc)), .val (.int (Int32.ofNat k0)), .val (.int (Int32.ofNat k1)), .val (.int (Int32.ofNat k2)), .val (.int (Int32.ofNat s)), .val (.int (Int32.ofNat (d + 1))), .val (.int (Int32.ofNat s)), .val (.int (Int32.ofNat ((s + (d + 1)) % 3))), .val (.int (Int32.ofNat ((s + 2 * (d + 1)) % 3))), .val (.int (3 : Int32)), .val (.ref a90), .val (.int (-1 : Int32)), .val (.int (0 : Int32)), .val (.int (0 : Int32)), .val (.int (1 : Int32)), .unset, .unset, .unset] [.int (2 : Int32)]
          refine C.iload (q := 250) at_248 rfl rfl ?_
          refine C.ifNe (q := 258) (q' := 253) at_250 (by decide) (by decide) rfl (fun h250 => ?_) (fun h250 => absurd (by decide) h250)
          refine C.iload (q := 255) at_253 rfl rfl ?_
          refine C.ifEq (q := 262) (q' := 258) at_255 (by decide) (by decide) rfl (fun h255 => absurd h255 (by decide)) (fun h255 => ?_)
          refine C.iconst (q := 259) (z := (0 : Int32)) at_258 rfl rfl ?_
          refine C.goto (q := 263) at_259 (by decide) (by decide) ?_
          refine C.iadd (q := 264) at_263 rfl ?_
          show G 4 13 [(a90, .inr ("com/example/terms_to_transitions/termstotransitions/equivalence/TransitionLists", [("heads", "[I", .ref h), ("nexts", "[I", .ref x), ("keysMet", "[I", .ref m), ("keysMetCount", "I", .int ((own_add (own_add (own_add (own_s0 kc) s k0) ((s + (d + 1)) % 3) k1) ((s + 2 * (d + 1)) % 3) k2).2.2.2))])), (h, .inl (.int, (own_vl (own_add (own_add (own_add (own_s0 kc) s k0) ((s + (d + 1)) % 3) k1) ((s + 2 * (d + 1)) % 3) k2).1))), (x, .inl (.int, (own_vl (own_add (own_add (own_add (own_s0 kc) s k0) ((s + (d + 1)) % 3) k1) ((s + 2 * (d + 1)) % 3) k2).2.1))), (m, .inl (.int, (own_vl (own_add (own_add (own_add (own_s0 kc) s k0) ((s + (d + 1)) % 3) k1) ((s + 2 * (d + 1)) % 3) k2).2.2.1)))] 264 [.val (.int a), .val (.int b), .val (.int c), .val (.int dd), .val (.int e), .val (.int f), .val (.int (Int32.ofNat kc)), .val (.int (Int32.ofNat k0)), .val (.int (Int32.ofNat k1)), .val (.int (Int32.ofNat k2)), .val (.int (Int32.ofNat s)), .val (.int (Int32.ofNat (d + 1))), .val (.int (Int32.ofNat s)), .val (.int (Int32.ofNat ((s + (d + 1)) % 3))), .val (.int (Int32.ofNat ((s + 2 * (d + 1)) % 3))), .val (.int (3 : Int32)), .val (.ref a90), .val (.int (-1 : Int32)), .val (.int (0 : Int32)), .val (.int (0 : Int32)), .val (.int (1 : Int32)), .unset, .unset, .unset] [.int (2 : Int32)]
          refine C.istore (q := 266) (ls' := [.val (.int a), .val (.int b), .val (.int c), .val (.int dd), .val (.int e), .val (.int f), .val (.int (Int32.ofNat kc)), .val (.int (Int32.ofNat k0)), .val (.int (Int32.ofNat k1)), .val (.int (Int32.ofNat k2)), .val (.int (Int32.ofNat s)), .val (.int (Int32.ofNat (d + 1))), .val (.int (Int32.ofNat s)), .val (.int (Int32.ofNat ((s + (d + 1)) % 3))), .val (.int (Int32.ofNat ((s + 2 * (d + 1)) % 3))), .val (.int (3 : Int32)), .val (.ref a90), .val (.int (-1 : Int32)), .val (.int (0 : Int32)), .val (.int (0 : Int32)), .val (.int (1 : Int32)), .val (.int (2 : Int32)), .unset, .unset]) at_264 rfl rfl ?_
          refine C.aload (q := 268) at_266 rfl rfl rfl ?_
          refine C.callV (q := 271) 0 0 [] [] at_268 (hw _ (List.mem_of_getElem? (i := 28) rfl)) (hw _ (List.mem_of_getElem? (i := 29) rfl)) (hw _ (List.mem_of_getElem? (i := 30) rfl)) (hw _ (List.mem_of_getElem? (i := 31) rfl)) (hw _ (List.mem_of_getElem? (i := 3) rfl)) (hw _ (List.mem_of_getElem? (i := 32) rfl)) (own_c2 l Z a0 n0 hw [] a90 h x m (own_add (own_add (own_add (own_s0 kc) s k0) ((s + (d + 1)) % 3) k1) ((s + 2 * (d + 1)) % 3) k2)) (by decide) (by decide) (by decide) own_pd2 rfl rfl rfl rfl (Nat.le_of_eq rfl) (by decide) (by decide) rfl ?_
          rintro _ _ ⟨rfl, hE⟩
          rw [hE]
          show G 4 13 [(a90, .inr ("com/example/terms_to_transitions/termstotransitions/equivalence/TransitionLists", [("heads", "[I", .ref h), ("nexts", "[I", .ref x), ("keysMet", "[I", .ref m), ("keysMetCount", "I", .int ((own_add (own_add (own_add (own_s0 kc) s k0) ((s + (d + 1)) % 3) k1) ((s + 2 * (d + 1)) % 3) k2).2.2.2))])), (h, .inl (.int, (own_vl (own_add (own_add (own_add (own_s0 kc) s k0) ((s + (d + 1)) % 3) k1) ((s + 2 * (d + 1)) % 3) k2).1))), (x, .inl (.int, (own_vl (own_add (own_add (own_add (own_s0 kc) s k0) ((s + (d + 1)) % 3) k1) ((s + 2 * (d + 1)) % 3) k2).2.1))), (m, .inl (.int, (own_vl (own_add (own_add (own_add (own_s0 kc) s k0) ((s + (d + 1)) % 3) k1) ((s + 2 * (d + 1)) % 3) k2).2.2.1)))] 271 [.val (.int a), .val (.int b), .val (.int c), .val (.int dd), .val (.int e), .val (.int f), .val (.int (Int32.ofNat kc)), .val (.int (Int32.ofNat k0)), .val (.int (Int32.ofNat k1)), .val (.int (Int32.ofNat k2)), .val (.int (Int32.ofNat s)), .val (.int (Int32.ofNat (d + 1))), .val (.int (Int32.ofNat s)), .val (.int (Int32.ofNat ((s + (d + 1)) % 3))), .val (.int (Int32.ofNat ((s + 2 * (d + 1)) % 3))), .val (.int (3 : Int32)), .val (.ref a90), .val (.int (-1 : Int32)), .val (.int (0 : Int32)), .val (.int (0 : Int32)), .val (.int (1 : Int32)), .val (.int (2 : Int32)), .unset, .unset] [.int ((own_add (own_add (own_add (own_s0 kc) s k0) ((s + (d + 1)) % 3) k1) ((s + 2 * (d + 1)) % 3) k2).2.2.2)]
          refine C.iload (q := 273) at_271 rfl rfl ?_
          refine C.icmpNe (q := 280) (q' := 276) at_273 (by decide) (by decide) rfl (fun h273 => ?_) (fun h273 => absurd (q_cnt) h273)
          refine C.iconst (q := 277) (z := (1 : Int32)) at_276 rfl rfl ?_
          refine C.goto (q := 281) at_277 (by decide) (by decide) ?_
          refine C.istore (q := 283) (ls' := [.val (.int a), .val (.int b), .val (.int c), .val (.int dd), .val (.int e), .val (.int f), .val (.int (Int32.ofNat kc)), .val (.int (Int32.ofNat k0)), .val (.int (Int32.ofNat k1)), .val (.int (Int32.ofNat k2)), .val (.int (Int32.ofNat s)), .val (.int (Int32.ofNat (d + 1))), .val (.int (Int32.ofNat s)), .val (.int (Int32.ofNat ((s + (d + 1)) % 3))), .val (.int (Int32.ofNat ((s + 2 * (d + 1)) % 3))), .val (.int (3 : Int32)), .val (.ref a90), .val (.int (-1 : Int32)), .val (.int (0 : Int32)), .val (.int (0 : Int32)), .val (.int (1 : Int32)), .val (.int (2 : Int32)), .val (.int (1 : Int32)), .unset]) at_281 rfl rfl ?_
          refine C.iload (q := 285) at_283 rfl rfl ?_
          refine C.iconst (q := 286) (z := (1 : Int32)) at_285 rfl rfl ?_
          refine C.icmpLt (q := 313) (q' := 289) at_286 (by decide) (by decide) rfl (fun h286 => absurd h286 (by decide)) (fun h286 => ?_)
          refine C.iload (q := 291) at_289 rfl rfl ?_
          refine C.ifEq (q := 310) (q' := 294) at_291 (by decide) (by decide) rfl (fun h291 => absurd h291 (by decide)) (fun h291 => ?_)
          refine C.aload (q := 296) at_294 rfl rfl rfl ?_
          refine C.iload (q := 298) at_296 rfl rfl ?_
          refine C.callV (q := 301) 0 0 [.int (Int32.ofNat s)] [] at_298 (hw _ (List.mem_of_getElem? (i := 33) rfl)) (hw _ (List.mem_of_getElem? (i := 34) rfl)) (hw _ (List.mem_of_getElem? (i := 35) rfl)) (hw _ (List.mem_of_getElem? (i := 36) rfl)) (hw _ (List.mem_of_getElem? (i := 3) rfl)) (hw _ (List.mem_of_getElem? (i := 37) rfl)) (own_c4 l Z a0 n0 hw [] a90 h x m (own_add (own_add (own_add (own_s0 kc) s k0) ((s + (d + 1)) % 3) k1) ((s + 2 * (d + 1)) % 3) k2) s (by omega) (by rw [q_ln]; omega)) (by decide) (by decide) (by decide) own_pd3 rfl rfl rfl rfl (Nat.le_of_eq rfl) (by decide) (by decide) rfl ?_
          rintro _ _ ⟨rfl, hE⟩
          rw [hE]
          show G 4 13 [(a90, .inr ("com/example/terms_to_transitions/termstotransitions/equivalence/TransitionLists", [("heads", "[I", .ref h), ("nexts", "[I", .ref x), ("keysMet", "[I", .ref m), ("keysMetCount", "I", .int ((own_add (own_add (own_add (own_s0 kc) s k0) ((s + (d + 1)) % 3) k1) ((s + 2 * (d + 1)) % 3) k2).2.2.2))])), (h, .inl (.int, (own_vl (own_add (own_add (own_add (own_s0 kc) s k0) ((s + (d + 1)) % 3) k1) ((s + 2 * (d + 1)) % 3) k2).1))), (x, .inl (.int, (own_vl (own_add (own_add (own_add (own_s0 kc) s k0) ((s + (d + 1)) % 3) k1) ((s + 2 * (d + 1)) % 3) k2).2.1))), (m, .inl (.int, (own_vl (own_add (own_add (own_add (own_s0 kc) s k0) ((s + (d + 1)) % 3) k1) ((s + 2 * (d + 1)) % 3) k2).2.2.1)))] 301 [.val (.int a), .val (.int b), .val (.int c), .val (.int dd), .val (.int e), .val (.int f), .val (.int (Int32.ofNat kc)), .val (.int (Int32.ofNat k0)), .val (.int (Int32.ofNat k1)), .val (.int (Int32.ofNat k2)), .val (.int (Int32.ofNat s)), .val (.int (Int32.ofNat (d + 1))), .val (.int (Int32.ofNat s)), .val (.int (Int32.ofNat ((s + (d + 1)) % 3))), .val (.int (Int32.ofNat ((s + 2 * (d + 1)) % 3))), .val (.int (3 : Int32)), .val (.ref a90), .val (.int (-1 : Int32)), .val (.int (0 : Int32)), .val (.int (0 : Int32)), .val (.int (1 : Int32)), .val (.int (2 : Int32)), .val (.int (1 : Int32)), .unset] [.int ((own_add (own_add (own_add (own_s0 kc) s k0) ((s + (d + 1)) % 3) k1) ((s + 2 * (d + 1)) % 3) k2).2.1.getD s 0)]
          refine C.iload (q := 303) at_301 rfl rfl ?_
          refine C.icmpNe (q := 310) (q' := 306) at_303 (by decide) (by decide) rfl (fun h303 => ?_) (fun h303 => absurd (q_nx0) h303)
          refine C.iconst (q := 307) (z := (1 : Int32)) at_306 rfl rfl ?_
          refine C.goto (q := 311) at_307 (by decide) (by decide) ?_
          refine C.istore (q := 313) (ls' := [.val (.int a), .val (.int b), .val (.int c), .val (.int dd), .val (.int e), .val (.int f), .val (.int (Int32.ofNat kc)), .val (.int (Int32.ofNat k0)), .val (.int (Int32.ofNat k1)), .val (.int (Int32.ofNat k2)), .val (.int (Int32.ofNat s)), .val (.int (Int32.ofNat (d + 1))), .val (.int (Int32.ofNat s)), .val (.int (Int32.ofNat ((s + (d + 1)) % 3))), .val (.int (Int32.ofNat ((s + 2 * (d + 1)) % 3))), .val (.int (3 : Int32)), .val (.ref a90), .val (.int (-1 : Int32)), .val (.int (0 : Int32)), .val (.int (0 : Int32)), .val (.int (1 : Int32)), .val (.int (2 : Int32)), .val (.int (1 : Int32)), .unset]) at_311 rfl rfl ?_
          refine C.iload (q := 315) at_313 rfl rfl ?_
          refine C.iconst (q := 316) (z := (2 : Int32)) at_315 rfl rfl ?_
          refine C.icmpLt (q := 353) (q' := 319) at_316 (by decide) (by decide) rfl (fun h316 => absurd h316 (by decide)) (fun h316 => ?_)
          refine C.iload (q := 321) at_319 rfl rfl ?_
          refine C.ifEq (q := 350) (q' := 324) at_321 (by decide) (by decide) rfl (fun h321 => absurd h321 (by decide)) (fun h321 => ?_)
          refine C.aload (q := 326) at_324 rfl rfl rfl ?_
          refine C.iload (q := 328) at_326 rfl rfl ?_
          refine C.callV (q := 331) 0 0 [.int (Int32.ofNat ((s + (d + 1)) % 3))] [] at_328 (hw _ (List.mem_of_getElem? (i := 33) rfl)) (hw _ (List.mem_of_getElem? (i := 34) rfl)) (hw _ (List.mem_of_getElem? (i := 35) rfl)) (hw _ (List.mem_of_getElem? (i := 36) rfl)) (hw _ (List.mem_of_getElem? (i := 3) rfl)) (hw _ (List.mem_of_getElem? (i := 37) rfl)) (own_c4 l Z a0 n0 hw [] a90 h x m (own_add (own_add (own_add (own_s0 kc) s k0) ((s + (d + 1)) % 3) k1) ((s + 2 * (d + 1)) % 3) k2) ((s + (d + 1)) % 3) (by omega) (by rw [q_ln]; omega)) (by decide) (by decide) (by decide) own_pd3 rfl rfl rfl rfl (Nat.le_of_eq rfl) (by decide) (by decide) rfl ?_
          rintro _ _ ⟨rfl, hE⟩
          rw [hE]
          show G 4 13 [(a90, .inr ("com/example/terms_to_transitions/termstotransitions/equivalence/TransitionLists", [("heads", "[I", .ref h), ("nexts", "[I", .ref x), ("keysMet", "[I", .ref m), ("keysMetCount", "I", .int ((own_add (own_add (own_add (own_s0 kc) s k0) ((s + (d + 1)) % 3) k1) ((s + 2 * (d + 1)) % 3) k2).2.2.2))])), (h, .inl (.int, (own_vl (own_add (own_add (own_add (own_s0 kc) s k0) ((s + (d + 1)) % 3) k1) ((s + 2 * (d + 1)) % 3) k2).1))), (x, .inl (.int, (own_vl (own_add (own_add (own_add (own_s0 kc) s k0) ((s + (d + 1)) % 3) k1) ((s + 2 * (d + 1)) % 3) k2).2.1))), (m, .inl (.int, (own_vl (own_add (own_add (own_add (own_s0 kc) s k0) ((s + (d + 1)) % 3) k1) ((s + 2 * (d + 1)) % 3) k2).2.2.1)))] 331 [.val (.int a), .val (.int b), .val (.int c), .val (.int dd), .val (.int e), .val (.int f), .val (.int (Int32.ofNat kc)), .val (.int (Int32.ofNat k0)), .val (.int (Int32.ofNat k1)), .val (.int (Int32.ofNat k2)), .val (.int (Int32.ofNat s)), .val (.int (Int32.ofNat (d + 1))), .val (.int (Int32.ofNat s)), .val (.int (Int32.ofNat ((s + (d + 1)) % 3))), .val (.int (Int32.ofNat ((s + 2 * (d + 1)) % 3))), .val (.int (3 : Int32)), .val (.ref a90), .val (.int (-1 : Int32)), .val (.int (0 : Int32)), .val (.int (0 : Int32)), .val (.int (1 : Int32)), .val (.int (2 : Int32)), .val (.int (1 : Int32)), .unset] [.int ((own_add (own_add (own_add (own_s0 kc) s k0) ((s + (d + 1)) % 3) k1) ((s + 2 * (d + 1)) % 3) k2).2.1.getD ((s + (d + 1)) % 3) 0)]
          refine C.iload (q := 333) at_331 rfl rfl ?_
          refine C.ifEq (q := 341) (q' := 336) at_333 (by decide) (by decide) rfl (fun h333 => ?_) (fun h333 => absurd (by decide) h333)
          refine C.iload (q := 343) at_341 rfl rfl ?_
          refine C.icmpNe (q := 350) (q' := 346) at_343 (by decide) (by decide) rfl (fun h343 => ?_) (fun h343 => absurd (q_nx1) h343)
          refine C.iconst (q := 347) (z := (1 : Int32)) at_346 rfl rfl ?_
          refine C.goto (q := 351) at_347 (by decide) (by decide) ?_
          refine C.istore (q := 353) (ls' := [.val (.int a), .val (.int b), .val (.int c), .val (.int dd), .val (.int e), .val (.int f), .val (.int (Int32.ofNat kc)), .val (.int (Int32.ofNat k0)), .val (.int (Int32.ofNat k1)), .val (.int (Int32.ofNat k2)), .val (.int (Int32.ofNat s)), .val (.int (Int32.ofNat (d + 1))), .val (.int (Int32.ofNat s)), .val (.int (Int32.ofNat ((s + (d + 1)) % 3))), .val (.int (Int32.ofNat ((s + 2 * (d + 1)) % 3))), .val (.int (3 : Int32)), .val (.ref a90), .val (.int (-1 : Int32)), .val (.int (0 : Int32)), .val (.int (0 : Int32)), .val (.int (1 : Int32)), .val (.int (2 : Int32)), .val (.int (1 : Int32)), .unset]) at_351 rfl rfl ?_
          refine C.iload (q := 355) at_353 rfl rfl ?_
          refine C.iconst (q := 356) (z := (3 : Int32)) at_355 rfl rfl ?_
          refine C.icmpLt (q := 403) (q' := 359) at_356 (by decide) (by decide) rfl (fun h356 => absurd h356 (by decide)) (fun h356 => ?_)
          refine C.iload (q := 361) at_359 rfl rfl ?_
          refine C.ifEq (q := 400) (q' := 364) at_361 (by decide) (by decide) rfl (fun h361 => absurd h361 (by decide)) (fun h361 => ?_)
          refine C.aload (q := 366) at_364 rfl rfl rfl ?_
          refine C.iload (q := 368) at_366 rfl rfl ?_
          refine C.callV (q := 371) 0 0 [.int (Int32.ofNat ((s + 2 * (d + 1)) % 3))] [] at_368 (hw _ (List.mem_of_getElem? (i := 33) rfl)) (hw _ (List.mem_of_getElem? (i := 34) rfl)) (hw _ (List.mem_of_getElem? (i := 35) rfl)) (hw _ (List.mem_of_getElem? (i := 36) rfl)) (hw _ (List.mem_of_getElem? (i := 3) rfl)) (hw _ (List.mem_of_getElem? (i := 37) rfl)) (own_c4 l Z a0 n0 hw [] a90 h x m (own_add (own_add (own_add (own_s0 kc) s k0) ((s + (d + 1)) % 3) k1) ((s + 2 * (d + 1)) % 3) k2) ((s + 2 * (d + 1)) % 3) (by omega) (by rw [q_ln]; omega)) (by decide) (by decide) (by decide) own_pd3 rfl rfl rfl rfl (Nat.le_of_eq rfl) (by decide) (by decide) rfl ?_
          rintro _ _ ⟨rfl, hE⟩
          rw [hE]
          show G 4 13 [(a90, .inr ("com/example/terms_to_transitions/termstotransitions/equivalence/TransitionLists", [("heads", "[I", .ref h), ("nexts", "[I", .ref x), ("keysMet", "[I", .ref m), ("keysMetCount", "I", .int ((own_add (own_add (own_add (own_s0 kc) s k0) ((s + (d + 1)) % 3) k1) ((s + 2 * (d + 1)) % 3) k2).2.2.2))])), (h, .inl (.int, (own_vl (own_add (own_add (own_add (own_s0 kc) s k0) ((s + (d + 1)) % 3) k1) ((s + 2 * (d + 1)) % 3) k2).1))), (x, .inl (.int, (own_vl (own_add (own_add (own_add (own_s0 kc) s k0) ((s + (d + 1)) % 3) k1) ((s + 2 * (d + 1)) % 3) k2).2.1))), (m, .inl (.int, (own_vl (own_add (own_add (own_add (own_s0 kc) s k0) ((s + (d + 1)) % 3) k1) ((s + 2 * (d + 1)) % 3) k2).2.2.1)))] 371 [.val (.int a), .val (.int b), .val (.int c), .val (.int dd), .val (.int e), .val (.int f), .val (.int (Int32.ofNat kc)), .val (.int (Int32.ofNat k0)), .val (.int (Int32.ofNat k1)), .val (.int (Int32.ofNat k2)), .val (.int (Int32.ofNat s)), .val (.int (Int32.ofNat (d + 1))), .val (.int (Int32.ofNat s)), .val (.int (Int32.ofNat ((s + (d + 1)) % 3))), .val (.int (Int32.ofNat ((s + 2 * (d + 1)) % 3))), .val (.int (3 : Int32)), .val (.ref a90), .val (.int (-1 : Int32)), .val (.int (0 : Int32)), .val (.int (0 : Int32)), .val (.int (1 : Int32)), .val (.int (2 : Int32)), .val (.int (1 : Int32)), .unset] [.int ((own_add (own_add (own_add (own_s0 kc) s k0) ((s + (d + 1)) % 3) k1) ((s + 2 * (d + 1)) % 3) k2).2.1.getD ((s + 2 * (d + 1)) % 3) 0)]
          refine C.iload (q := 373) at_371 rfl rfl ?_
          refine C.ifEq (q := 381) (q' := 376) at_373 (by decide) (by decide) rfl (fun h373 => absurd h373 (by decide)) (fun h373 => ?_)
          refine C.iload (q := 378) at_376 rfl rfl ?_
          refine C.goto (q := 393) at_378 (by decide) (by decide) ?_
          refine C.icmpNe (q := 400) (q' := 396) at_393 (by decide) (by decide) rfl (fun h393 => ?_) (fun h393 => absurd (q_nx2) h393)
          refine C.iconst (q := 397) (z := (1 : Int32)) at_396 rfl rfl ?_
          refine C.goto (q := 401) at_397 (by decide) (by decide) ?_
          refine C.istore (q := 403) (ls' := [.val (.int a), .val (.int b), .val (.int c), .val (.int dd), .val (.int e), .val (.int f), .val (.int (Int32.ofNat kc)), .val (.int (Int32.ofNat k0)), .val (.int (Int32.ofNat k1)), .val (.int (Int32.ofNat k2)), .val (.int (Int32.ofNat s)), .val (.int (Int32.ofNat (d + 1))), .val (.int (Int32.ofNat s)), .val (.int (Int32.ofNat ((s + (d + 1)) % 3))), .val (.int (Int32.ofNat ((s + 2 * (d + 1)) % 3))), .val (.int (3 : Int32)), .val (.ref a90), .val (.int (-1 : Int32)), .val (.int (0 : Int32)), .val (.int (0 : Int32)), .val (.int (1 : Int32)), .val (.int (2 : Int32)), .val (.int (1 : Int32)), .unset]) at_401 rfl rfl ?_
          refine C.iload (q := 405) at_403 rfl rfl ?_
          refine C.iconst (q := 406) (z := (1 : Int32)) at_405 rfl rfl ?_
          refine C.icmpLt (q := 468) (q' := 409) at_406 (by decide) (by decide) rfl (fun h406 => absurd h406 (by decide)) (fun h406 => ?_)
          refine C.iload (q := 411) at_409 rfl rfl ?_
          refine C.iconst (q := 412) (z := (3 : Int32)) at_411 rfl rfl ?_
          refine C.icmpLt (q := 425) (q' := 415) at_412 (by decide) (by decide) rfl (fun h412 => absurd h412 (by decide)) (fun h412 => ?_)
          refine C.iload (q := 417) at_415 rfl rfl ?_
          refine C.ifEq (q := 425) (q' := 420) at_417 (by decide) (by decide) rfl (fun h417 => ?_) (fun h417 => absurd (by decide) h417)
          refine C.iload (q := 427) at_425 rfl rfl ?_
          refine C.iconst (q := 428) (z := (2 : Int32)) at_427 rfl rfl ?_
          refine C.icmpLt (q := 441) (q' := 431) at_428 (by decide) (by decide) rfl (fun h428 => absurd h428 (by decide)) (fun h428 => ?_)
          refine C.iload (q := 433) at_431 rfl rfl ?_
          refine C.ifEq (q := 441) (q' := 436) at_433 (by decide) (by decide) rfl (fun h433 => ?_) (fun h433 => absurd (by decide) h433)
          refine C.iload (q := 443) at_441 rfl rfl ?_
          refine C.istore (q := 445) (ls' := [.val (.int a), .val (.int b), .val (.int c), .val (.int dd), .val (.int e), .val (.int f), .val (.int (Int32.ofNat kc)), .val (.int (Int32.ofNat k0)), .val (.int (Int32.ofNat k1)), .val (.int (Int32.ofNat k2)), .val (.int (Int32.ofNat s)), .val (.int (Int32.ofNat (d + 1))), .val (.int (Int32.ofNat s)), .val (.int (Int32.ofNat ((s + (d + 1)) % 3))), .val (.int (Int32.ofNat ((s + 2 * (d + 1)) % 3))), .val (.int (3 : Int32)), .val (.ref a90), .val (.int (-1 : Int32)), .val (.int (0 : Int32)), .val (.int (0 : Int32)), .val (.int (1 : Int32)), .val (.int (2 : Int32)), .val (.int (1 : Int32)), .val (.int (Int32.ofNat s))]) at_443 rfl rfl ?_
          refine C.iload (q := 447) at_445 rfl rfl ?_
          refine C.ifEq (q := 465) (q' := 450) at_447 (by decide) (by decide) rfl (fun h447 => absurd h447 (by decide)) (fun h447 => ?_)
          refine C.aload (q := 452) at_450 rfl rfl rfl ?_
          refine C.iconst (q := 453) (z := (0 : Int32)) at_452 rfl rfl ?_
          refine C.callV (q := 456) 0 0 [.int (0 : Int32)] [] at_453 (hw _ (List.mem_of_getElem? (i := 38) rfl)) (hw _ (List.mem_of_getElem? (i := 39) rfl)) (hw _ (List.mem_of_getElem? (i := 40) rfl)) (hw _ (List.mem_of_getElem? (i := 41) rfl)) (hw _ (List.mem_of_getElem? (i := 3) rfl)) (hw _ (List.mem_of_getElem? (i := 42) rfl)) (own_c3 l Z a0 n0 hw [] a90 h x m (own_add (own_add (own_add (own_s0 kc) s k0) ((s + (d + 1)) % 3) k1) ((s + 2 * (d + 1)) % 3) k2) 0 (by decide) (own_fB.ok q_b0).1 (own_fB.ok q_b0).2.1 (own_fB.ok q_b0).2.2) (by decide) (by decide) (by decide) own_pd3 rfl rfl rfl rfl (Nat.le_of_eq rfl) (by decide) (by decide) rfl ?_
          rintro _ _ ⟨rfl, hE⟩
          rw [hE]
          show G 4 13 [(a90, .inr ("com/example/terms_to_transitions/termstotransitions/equivalence/TransitionLists", [("heads", "[I", .ref h), ("nexts", "[I", .ref x), ("keysMet", "[I", .ref m), ("keysMetCount", "I", .int ((own_add (own_add (own_add (own_s0 kc) s k0) ((s + (d + 1)) % 3) k1) ((s + 2 * (d + 1)) % 3) k2).2.2.2))])), (h, .inl (.int, (own_vl (own_add (own_add (own_add (own_s0 kc) s k0) ((s + (d + 1)) % 3) k1) ((s + 2 * (d + 1)) % 3) k2).1))), (x, .inl (.int, (own_vl (own_add (own_add (own_add (own_s0 kc) s k0) ((s + (d + 1)) % 3) k1) ((s + 2 * (d + 1)) % 3) k2).2.1))), (m, .inl (.int, (own_vl (own_add (own_add (own_add (own_s0 kc) s k0) ((s + (d + 1)) % 3) k1) ((s + 2 * (d + 1)) % 3) k2).2.2.1)))] 456 [.val (.int a), .val (.int b), .val (.int c), .val (.int dd), .val (.int e), .val (.int f), .val (.int (Int32.ofNat kc)), .val (.int (Int32.ofNat k0)), .val (.int (Int32.ofNat k1)), .val (.int (Int32.ofNat k2)), .val (.int (Int32.ofNat s)), .val (.int (Int32.ofNat (d + 1))), .val (.int (Int32.ofNat s)), .val (.int (Int32.ofNat ((s + (d + 1)) % 3))), .val (.int (Int32.ofNat ((s + 2 * (d + 1)) % 3))), .val (.int (3 : Int32)), .val (.ref a90), .val (.int (-1 : Int32)), .val (.int (0 : Int32)), .val (.int (0 : Int32)), .val (.int (1 : Int32)), .val (.int (2 : Int32)), .val (.int (1 : Int32)), .val (.int (Int32.ofNat s))] [.int ((own_add (own_add (own_add (own_s0 kc) s k0) ((s + (d + 1)) % 3) k1) ((s + 2 * (d + 1)) % 3) k2).1.getD ((own_add (own_add (own_add (own_s0 kc) s k0) ((s + (d + 1)) % 3) k1) ((s + 2 * (d + 1)) % 3) k2).2.2.1.getD 0 0).toNatClampNeg 0)]
          refine C.iload (q := 458) at_456 rfl rfl ?_
          refine C.icmpNe (q := 465) (q' := 461) at_458 (by decide) (by decide) rfl (fun h458 => ?_) (fun h458 => absurd (q_f0) h458)
          refine C.iconst (q := 462) (z := (1 : Int32)) at_461 rfl rfl ?_
          refine C.goto (q := 466) at_462 (by decide) (by decide) ?_
          refine C.istore (q := 468) (ls' := [.val (.int a), .val (.int b), .val (.int c), .val (.int dd), .val (.int e), .val (.int f), .val (.int (Int32.ofNat kc)), .val (.int (Int32.ofNat k0)), .val (.int (Int32.ofNat k1)), .val (.int (Int32.ofNat k2)), .val (.int (Int32.ofNat s)), .val (.int (Int32.ofNat (d + 1))), .val (.int (Int32.ofNat s)), .val (.int (Int32.ofNat ((s + (d + 1)) % 3))), .val (.int (Int32.ofNat ((s + 2 * (d + 1)) % 3))), .val (.int (3 : Int32)), .val (.ref a90), .val (.int (-1 : Int32)), .val (.int (0 : Int32)), .val (.int (0 : Int32)), .val (.int (1 : Int32)), .val (.int (2 : Int32)), .val (.int (1 : Int32)), .val (.int (Int32.ofNat s))]) at_466 rfl rfl ?_
          refine C.iload (q := 470) at_468 rfl rfl ?_
          refine C.iconst (q := 471) (z := (2 : Int32)) at_470 rfl rfl ?_
          refine C.icmpLt (q := 527) (q' := 474) at_471 (by decide) (by decide) rfl (fun h471 => absurd h471 (by decide)) (fun h471 => ?_)
          refine C.iload (q := 476) at_474 rfl rfl ?_
          refine C.ifNe (q := 500) (q' := 479) at_476 (by decide) (by decide) rfl (fun h476 => ?_) (fun h476 => absurd (by decide) h476)
          refine C.iload (q := 481) at_479 rfl rfl ?_
          refine C.iconst (q := 482) (z := (3 : Int32)) at_481 rfl rfl ?_
          refine C.icmpLt (q := 495) (q' := 485) at_482 (by decide) (by decide) rfl (fun h482 => absurd h482 (by decide)) (fun h482 => ?_)
          refine C.iload (q := 487) at_485 rfl rfl ?_
          refine C.ifEq (q := 495) (q' := 490) at_487 (by decide) (by decide) rfl (fun h487 => absurd h487 (by decide)) (fun h487 => ?_)
          refine C.iload (q := 492) at_490 rfl rfl ?_
          refine C.goto (q := 502) at_492 (by decide) (by decide) ?_
          refine C.istore (q := 504) (ls' := [.val (.int a), .val (.int b), .val (.int c), .val (.int dd), .val (.int e), .val (.int f), .val (.int (Int32.ofNat kc)), .val (.int (Int32.ofNat k0)), .val (.int (Int32.ofNat k1)), .val (.int (Int32.ofNat k2)), .val (.int (Int32.ofNat s)), .val (.int (Int32.ofNat (d + 1))), .val (.int (Int32.ofNat s)), .val (.int (Int32.ofNat ((s + (d + 1)) % 3))), .val (.int (Int32.ofNat ((s + 2 * (d + 1)) % 3))), .val (.int (3 : Int32)), .val (.ref a90), .val (.int (-1 : Int32)), .val (.int (0 : Int32)), .val (.int (0 : Int32)), .val (.int (1 : Int32)), .val (.int (2 : Int32)), .val (.int (1 : Int32)), .val (.int (Int32.ofNat ((s + 2 * (d + 1)) % 3)))]) at_502 rfl rfl ?_
          refine C.iload (q := 506) at_504 rfl rfl ?_
          refine C.ifEq (q := 524) (q' := 509) at_506 (by decide) (by decide) rfl (fun h506 => absurd h506 (by decide)) (fun h506 => ?_)
          refine C.aload (q := 511) at_509 rfl rfl rfl ?_
          refine C.iconst (q := 512) (z := (1 : Int32)) at_511 rfl rfl ?_
          refine C.callV (q := 515) 0 0 [.int (1 : Int32)] [] at_512 (hw _ (List.mem_of_getElem? (i := 38) rfl)) (hw _ (List.mem_of_getElem? (i := 39) rfl)) (hw _ (List.mem_of_getElem? (i := 40) rfl)) (hw _ (List.mem_of_getElem? (i := 41) rfl)) (hw _ (List.mem_of_getElem? (i := 3) rfl)) (hw _ (List.mem_of_getElem? (i := 42) rfl)) (own_c3 l Z a0 n0 hw [] a90 h x m (own_add (own_add (own_add (own_s0 kc) s k0) ((s + (d + 1)) % 3) k1) ((s + 2 * (d + 1)) % 3) k2) 1 (by decide) (own_fB.ok q_b1).1 (own_fB.ok q_b1).2.1 (own_fB.ok q_b1).2.2) (by decide) (by decide) (by decide) own_pd3 rfl rfl rfl rfl (Nat.le_of_eq rfl) (by decide) (by decide) rfl ?_
          rintro _ _ ⟨rfl, hE⟩
          rw [hE]
          show G 4 13 [(a90, .inr ("com/example/terms_to_transitions/termstotransitions/equivalence/TransitionLists", [("heads", "[I", .ref h), ("nexts", "[I", .ref x), ("keysMet", "[I", .ref m), ("keysMetCount", "I", .int ((own_add (own_add (own_add (own_s0 kc) s k0) ((s + (d + 1)) % 3) k1) ((s + 2 * (d + 1)) % 3) k2).2.2.2))])), (h, .inl (.int, (own_vl (own_add (own_add (own_add (own_s0 kc) s k0) ((s + (d + 1)) % 3) k1) ((s + 2 * (d + 1)) % 3) k2).1))), (x, .inl (.int, (own_vl (own_add (own_add (own_add (own_s0 kc) s k0) ((s + (d + 1)) % 3) k1) ((s + 2 * (d + 1)) % 3) k2).2.1))), (m, .inl (.int, (own_vl (own_add (own_add (own_add (own_s0 kc) s k0) ((s + (d + 1)) % 3) k1) ((s + 2 * (d + 1)) % 3) k2).2.2.1)))] 515 [.val (.int a), .val (.int b), .val (.int c), .val (.int dd), .val (.int e), .val (.int f), .val (.int (Int32.ofNat kc)), .val (.int (Int32.ofNat k0)), .val (.int (Int32.ofNat k1)), .val (.int (Int32.ofNat k2)), .val (.int (Int32.ofNat s)), .val (.int (Int32.ofNat (d + 1))), .val (.int (Int32.ofNat s)), .val (.int (Int32.ofNat ((s + (d + 1)) % 3))), .val (.int (Int32.ofNat ((s + 2 * (d + 1)) % 3))), .val (.int (3 : Int32)), .val (.ref a90), .val (.int (-1 : Int32)), .val (.int (0 : Int32)), .val (.int (0 : Int32)), .val (.int (1 : Int32)), .val (.int (2 : Int32)), .val (.int (1 : Int32)), .val (.int (Int32.ofNat ((s + 2 * (d + 1)) % 3)))] [.int ((own_add (own_add (own_add (own_s0 kc) s k0) ((s + (d + 1)) % 3) k1) ((s + 2 * (d + 1)) % 3) k2).1.getD ((own_add (own_add (own_add (own_s0 kc) s k0) ((s + (d + 1)) % 3) k1) ((s + 2 * (d + 1)) % 3) k2).2.2.1.getD 1 0).toNatClampNeg 0)]
          refine C.iload (q := 517) at_515 rfl rfl ?_
          refine C.icmpNe (q := 524) (q' := 520) at_517 (by decide) (by decide) rfl (fun h517 => ?_) (fun h517 => absurd (q_f1) h517)
          refine C.iconst (q := 521) (z := (1 : Int32)) at_520 rfl rfl ?_
          refine C.goto (q := 525) at_521 (by decide) (by decide) ?_
          refine C.istore (q := 527) (ls' := [.val (.int a), .val (.int b), .val (.int c), .val (.int dd), .val (.int e), .val (.int f), .val (.int (Int32.ofNat kc)), .val (.int (Int32.ofNat k0)), .val (.int (Int32.ofNat k1)), .val (.int (Int32.ofNat k2)), .val (.int (Int32.ofNat s)), .val (.int (Int32.ofNat (d + 1))), .val (.int (Int32.ofNat s)), .val (.int (Int32.ofNat ((s + (d + 1)) % 3))), .val (.int (Int32.ofNat ((s + 2 * (d + 1)) % 3))), .val (.int (3 : Int32)), .val (.ref a90), .val (.int (-1 : Int32)), .val (.int (0 : Int32)), .val (.int (0 : Int32)), .val (.int (1 : Int32)), .val (.int (2 : Int32)), .val (.int (1 : Int32)), .val (.int (Int32.ofNat ((s + 2 * (d + 1)) % 3)))]) at_525 rfl rfl ?_
          refine C.iload (q := 529) at_527 rfl rfl ?_
          refine C.iconst (q := 530) (z := (3 : Int32)) at_529 rfl rfl ?_
          refine C.icmpLt (q := 556) (q' := 533) at_530 (by decide) (by decide) rfl (fun h530 => ?_) (fun h530 => absurd (by decide) h530)
          refine C.iload (q := 558) at_556 rfl rfl ?_
          exact C.retB (by simp) at_558 (by decide) (by decide) rfl
        · refine C.iconst (q := 190) (z := (0 : Int32)) at_189 rfl rfl ?_
          refine C.istore (q := 192) (ls' := [.val (.int a), .val (.int b), .val (.int c), .val (.int dd), .val (.int e), .val (.int f), .val (.int (Int32.ofNat kc)), .val (.int (Int32.ofNat k0)), .val (.int (Int32.ofNat k1)), .val (.int (Int32.ofNat k2)), .val (.int (Int32.ofNat s)), .val (.int (Int32.ofNat (d + 1))), .val (.int (Int32.ofNat s)), .val (.int (Int32.ofNat ((s + (d + 1)) % 3))), .val (.int (Int32.ofNat ((s + 2 * (d + 1)) % 3))), .val (.int (3 : Int32)), .val (.ref a90), .val (.int (-1 : Int32)), .val (.int (0 : Int32)), .val (.int (0 : Int32)), .val (.int (0 : Int32)), .unset, .unset, .unset]) at_190 rfl rfl ?_
          have FF := own_f3_000 kc (by omega) k0 (by omega) k1 (by omega) k2 (by omega) s hs d hd
          rw [if_pos ⟨hkc.1, hk0, hk1, hk2, (fun z => h154 (congrArg Int32.ofNat z)), (fun z => h168 (congrArg Int32.ofNat z)), (fun z => h182 (congrArg Int32.ofNat z))⟩] at FF
          simp only [Bool.and_eq_true, decide_eq_true_eq] at FF
          obtain ⟨q_ok0, q_ok1, q_ok2, q_ln, q_cnt, q_nx0, q_nx1, q_nx2, q_b0, q_f0, q_b1, q_f1, q_b2, q_f2⟩ := FF
          refine C.iload (q := 194) at_192 rfl rfl ?_
          refine C.ifNe (q := 203) (q' := 197) at_194 (by decide) (by decide) rfl (fun h194 => absurd h194 (by decide)) (fun h194 => ?_)
          refine C.iload (q := 205) at_203 rfl rfl ?_
          refine C.iconst (q := 206) (z := (1 : Int32)) at_205 rfl rfl ?_
          refine C.icmpNe (q := 215) (q' := 209) at_206 (by decide) (by decide) rfl (fun h206 => absurd h206 (by decide)) (fun h206 => ?_)
          refine C.iload (q := 217) at_215 rfl rfl ?_
          refine C.iconst (q := 218) (z := (2 : Int32)) at_217 rfl rfl ?_
          refine C.icmpNe (q := 236) (q' := 221) at_218 (by decide) (by decide) rfl (fun h218 => absurd h218 (by decide)) (fun h218 => ?_)
          refine C.iconst (q := 237) (z := (1 : Int32)) at_236 rfl rfl ?_
          refine C.iload (q := 239) at_237 rfl rfl ?_
          refine C.ifEq (q := 246) (q' := 242) at_239 (by decide) (by decide) rfl (fun h239 => ?_) (fun h239 => absurd (by decide) h239)
          refine C.iconst (q := 247) (z := (1 : Int32)) at_246 rfl rfl ?_
          refine C.iadd (q := 248) at_247 rfl ?_
          show G 4 13 [(a90, .inr ("com/example/terms_to_transitions/termstotransitions/equivalence/TransitionLists", [("heads", "[I", .ref h), ("nexts", "[I", .ref x), ("keysMet", "[I", .ref m), ("keysMetCount", "I", .int ((own_add (own_add (own_add (own_s0 kc) s k0) ((s + (d + 1)) % 3) k1) ((s + 2 * (d + 1)) % 3) k2).2.2.2))])), (h, .inl (.int, (own_vl (own_add (own_add (own_add (own_s0 kc) s k0) ((s + (d + 1)) % 3) k1) ((s + 2 * (d + 1)) % 3) k2).1))), (x, .inl (.int, (own_vl (own_add (own_add (own_add (own_s0 kc) s k0) ((s + (d + 1)) % 3) k1) ((s + 2 * (d + 1)) % 3) k2).2.1))), (m, .inl (.int, (own_vl (own_add (own_add (own_add (own_s0 kc) s k0) ((s + (d + 1)) % 3) k1) ((s + 2 * (d + 1)) % 3) k2).2.2.1)))] 248 [.val (.int a), .val (.int b), .val (.int c), .val (.int dd), .val (.int e), .val (.int f), .val (.int (Int32.ofNat kc)), .val (.int (Int32.ofNat k0)), .val (.int (Int32.ofNat k1)), .val (.int (Int32.ofNat k2)), .val (.int (Int32.ofNat s)), .val (.int (Int32.ofNat (d + 1))), .val (.int (Int32.ofNat s)), .val (.int (Int32.ofNat ((s + (d + 1)) % 3))), .val (.int (Int32.ofNat ((s + 2 * (d + 1)) % 3))), .val (.int (3 : Int32)), .val (.ref a90), .val (.int (-1 : Int32)), .val (.int (0 : Int32)), .val (.int (0 : Int32)), .val (.int (0 : Int32)), .unset, .unset, .unset] [.int (2 : Int32)]
          refine C.iload (q := 250) at_248 rfl rfl ?_
          refine C.ifNe (q := 258) (q' := 253) at_250 (by decide) (by decide) rfl (fun h250 => ?_) (fun h250 => absurd (by decide) h250)
          refine C.iload (q := 255) at_253 rfl rfl ?_
          refine C.ifEq (q := 262) (q' := 258) at_255 (by decide) (by decide) rfl (fun h255 => ?_) (fun h255 => absurd (by decide) h255)
          refine C.iconst (q := 263) (z := (1 : Int32)) at_262 rfl rfl ?_
          refine C.iadd (q := 264) at_263 rfl ?_
          show G 4 13 [(a90, .inr ("com/example/terms_to_transitions/termstotransitions/equivalence/TransitionLists", [("heads", "[I", .ref h), ("nexts", "[I", .ref x), ("keysMet", "[I", .ref m), ("keysMetCount", "I", .int ((own_add (own_add (own_add (own_s0 kc) s k0) ((s + (d + 1)) % 3) k1) ((s + 2 * (d + 1)) % 3) k2).2.2.2))])), (h, .inl (.int, (own_vl (own_add (own_add (own_add (own_s0 kc) s k0) ((s + (d + 1)) % 3) k1) ((s + 2 * (d + 1)) % 3) k2).1))), (x, .inl (.int, (own_vl (own_add (own_add (own_add (own_s0 kc) s k0) ((s + (d + 1)) % 3) k1) ((s + 2 * (d + 1)) % 3) k2).2.1))), (m, .inl (.int, (own_vl (own_add (own_add (own_add (own_s0 kc) s k0) ((s + (d + 1)) % 3) k1) ((s + 2 * (d + 1)) % 3) k2).2.2.1)))] 264 [.val (.int a), .val (.int b), .val (.int c), .val (.int dd), .val (.int e), .val (.int f), .val (.int (Int32.ofNat kc)), .val (.int (Int32.ofNat k0)), .val (.int (Int32.ofNat k1)), .val (.int (Int32.ofNat k2)), .val (.int (Int32.ofNat s)), .val (.int (Int32.ofNat (d + 1))), .val (.int (Int32.ofNat s)), .val (.int (Int32.ofNat ((s + (d + 1)) % 3))), .val (.int (Int32.ofNat ((s + 2 * (d + 1)) % 3))), .val (.int (3 : Int32)), .val (.ref a90), .val (.int (-1 : Int32)), .val (.int (0 : Int32)), .val (.int (0 : Int32)), .val (.int (0 : Int32)), .unset, .unset, .unset] [.int (3 : Int32)]
          refine C.istore (q := 266) (ls' := [.val (.int a), .val (.int b), .val (.int c), .val (.int dd), .val (.int e), .val (.int f), .val (.int (Int32.ofNat kc)), .val (.int (Int32.ofNat k0)), .val (.int (Int32.ofNat k1)), .val (.int (Int32.ofNat k2)), .val (.int (Int32.ofNat s)), .val (.int (Int32.ofNat (d + 1))), .val (.int (Int32.ofNat s)), .val (.int (Int32.ofNat ((s + (d + 1)) % 3))), .val (.int (Int32.ofNat ((s + 2 * (d + 1)) % 3))), .val (.int (3 : Int32)), .val (.ref a90), .val (.int (-1 : Int32)), .val (.int (0 : Int32)), .val (.int (0 : Int32)), .val (.int (0 : Int32)), .val (.int (3 : Int32)), .unset, .unset]) at_264 rfl rfl ?_
          refine C.aload (q := 268) at_266 rfl rfl rfl ?_
          refine C.callV (q := 271) 0 0 [] [] at_268 (hw _ (List.mem_of_getElem? (i := 28) rfl)) (hw _ (List.mem_of_getElem? (i := 29) rfl)) (hw _ (List.mem_of_getElem? (i := 30) rfl)) (hw _ (List.mem_of_getElem? (i := 31) rfl)) (hw _ (List.mem_of_getElem? (i := 3) rfl)) (hw _ (List.mem_of_getElem? (i := 32) rfl)) (own_c2 l Z a0 n0 hw [] a90 h x m (own_add (own_add (own_add (own_s0 kc) s k0) ((s + (d + 1)) % 3) k1) ((s + 2 * (d + 1)) % 3) k2)) (by decide) (by decide) (by decide) own_pd2 rfl rfl rfl rfl (Nat.le_of_eq rfl) (by decide) (by decide) rfl ?_
          rintro _ _ ⟨rfl, hE⟩
          rw [hE]
          show G 4 13 [(a90, .inr ("com/example/terms_to_transitions/termstotransitions/equivalence/TransitionLists", [("heads", "[I", .ref h), ("nexts", "[I", .ref x), ("keysMet", "[I", .ref m), ("keysMetCount", "I", .int ((own_add (own_add (own_add (own_s0 kc) s k0) ((s + (d + 1)) % 3) k1) ((s + 2 * (d + 1)) % 3) k2).2.2.2))])), (h, .inl (.int, (own_vl (own_add (own_add (own_add (own_s0 kc) s k0) ((s + (d + 1)) % 3) k1) ((s + 2 * (d + 1)) % 3) k2).1))), (x, .inl (.int, (own_vl (own_add (own_add (own_add (own_s0 kc) s k0) ((s + (d + 1)) % 3) k1) ((s + 2 * (d + 1)) % 3) k2).2.1))), (m, .inl (.int, (own_vl (own_add (own_add (own_add (own_s0 kc) s k0) ((s + (d + 1)) % 3) k1) ((s + 2 * (d + 1)) % 3) k2).2.2.1)))] 271 [.val (.int a), .val (.int b), .val (.int c), .val (.int dd), .val (.int e), .val (.int f), .val (.int (Int32.ofNat kc)), .val (.int (Int32.ofNat k0)), .val (.int (Int32.ofNat k1)), .val (.int (Int32.ofNat k2)), .val (.int (Int32.ofNat s)), .val (.int (Int32.ofNat (d + 1))), .val (.int (Int32.ofNat s)), .val (.int (Int32.ofNat ((s + (d + 1)) % 3))), .val (.int (Int32.ofNat ((s + 2 * (d + 1)) % 3))), .val (.int (3 : Int32)), .val (.ref a90), .val (.int (-1 : Int32)), .val (.int (0 : Int32)), .val (.int (0 : Int32)), .val (.int (0 : Int32)), .val (.int (3 : Int32)), .unset, .unset] [.int ((own_add (own_add (own_add (own_s0 kc) s k0) ((s + (d + 1)) % 3) k1) ((s + 2 * (d + 1)) % 3) k2).2.2.2)]
          refine C.iload (q := 273) at_271 rfl rfl ?_
          refine C.icmpNe (q := 280) (q' := 276) at_273 (by decide) (by decide) rfl (fun h273 => ?_) (fun h273 => absurd (q_cnt) h273)
          refine C.iconst (q := 277) (z := (1 : Int32)) at_276 rfl rfl ?_
          refine C.goto (q := 281) at_277 (by decide) (by decide) ?_
          refine C.istore (q := 283) (ls' := [.val (.int a), .val (.int b), .val (.int c), .val (.int dd), .val (.int e), .val (.int f), .val (.int (Int32.ofNat kc)), .val (.int (Int32.ofNat k0)), .val (.int (Int32.ofNat k1)), .val (.int (Int32.ofNat k2)), .val (.int (Int32.ofNat s)), .val (.int (Int32.ofNat (d + 1))), .val (.int (Int32.ofNat s)), .val (.int (Int32.ofNat ((s + (d + 1)) % 3))), .val (.int (Int32.ofNat ((s + 2 * (d + 1)) % 3))), .val (.int (3 : Int32)), .val (.ref a90), .val (.int (-1 : Int32)), .val (.int (0 : Int32)), .val (.int (0 : Int32)), .val (.int (0 : Int32)), .val (.int (3 : Int32)), .val (.int (1 : Int32)), .unset]) at_281 rfl rfl ?_
          refine C.iload (q := 285) at_283 rfl rfl ?_
          refine C.iconst (q := 286) (z := (1 : Int32)) at_285 rfl rfl ?_
          refine C.icmpLt (q := 313) (q' := 289) at_286 (by decide) (by decide) rfl (fun h286 => absurd h286 (by decide)) (fun h286 => ?_)
          refine C.iload (q := 291) at_289 rfl rfl ?_
          refine C.ifEq (q := 310) (q' := 294) at_291 (by decide) (by decide) rfl (fun h291 => absurd h291 (by decide)) (fun h291 => ?_)
          refine C.aload (q := 296) at_294 rfl rfl rfl ?_
          refine C.iload (q := 298) at_296 rfl rfl ?_
          refine C.callV (q := 301) 0 0 [.int (Int32.ofNat s)] [] at_298 (hw _ (List.mem_of_getElem? (i := 33) rfl)) (hw _ (List.mem_of_getElem? (i := 34) rfl)) (hw _ (List.mem_of_getElem? (i := 35) rfl)) (hw _ (List.mem_of_getElem? (i := 36) rfl)) (hw _ (List.mem_of_getElem? (i := 3) rfl)) (hw _ (List.mem_of_getElem? (i := 37) rfl)) (own_c4 l Z a0 n0 hw [] a90 h x m (own_add (own_add (own_add (own_s0 kc) s k0) ((s + (d + 1)) % 3) k1) ((s + 2 * (d + 1)) % 3) k2) s (by omega) (by rw [q_ln]; omega)) (by decide) (by decide) (by decide) own_pd3 rfl rfl rfl rfl (Nat.le_of_eq rfl) (by decide) (by decide) rfl ?_
          rintro _ _ ⟨rfl, hE⟩
          rw [hE]
          show G 4 13 [(a90, .inr ("com/example/terms_to_transitions/termstotransitions/equivalence/TransitionLists", [("heads", "[I", .ref h), ("nexts", "[I", .ref x), ("keysMet", "[I", .ref m), ("keysMetCount", "I", .int ((own_add (own_add (own_add (own_s0 kc) s k0) ((s + (d + 1)) % 3) k1) ((s + 2 * (d + 1)) % 3) k2).2.2.2))])), (h, .inl (.int, (own_vl (own_add (own_add (own_add (own_s0 kc) s k0) ((s + (d + 1)) % 3) k1) ((s + 2 * (d + 1)) % 3) k2).1))), (x, .inl (.int, (own_vl (own_add (own_add (own_add (own_s0 kc) s k0) ((s + (d + 1)) % 3) k1) ((s + 2 * (d + 1)) % 3) k2).2.1))), (m, .inl (.int, (own_vl (own_add (own_add (own_add (own_s0 kc) s k0) ((s + (d + 1)) % 3) k1) ((s + 2 * (d + 1)) % 3) k2).2.2.1)))] 301 [.val (.int a), .val (.int b), .val (.int c), .val (.int dd), .val (.int e), .val (.int f), .val (.int (Int32.ofNat kc)), .val (.int (Int32.ofNat k0)), .val (.int (Int32.ofNat k1)), .val (.int (Int32.ofNat k2)), .val (.int (Int32.ofNat s)), .val (.int (Int32.ofNat (d + 1))), .val (.int (Int32.ofNat s)), .val (.int (Int32.ofNat ((s + (d + 1)) % 3))), .val (.int (Int32.ofNat ((s + 2 * (d + 1)) % 3))), .val (.int (3 : Int32)), .val (.ref a90), .val (.int (-1 : Int32)), .val (.int (0 : Int32)), .val (.int (0 : Int32)), .val (.int (0 : Int32)), .val (.int (3 : Int32)), .val (.int (1 : Int32)), .unset] [.int ((own_add (own_add (own_add (own_s0 kc) s k0) ((s + (d + 1)) % 3) k1) ((s + 2 * (d + 1)) % 3) k2).2.1.getD s 0)]
          refine C.iload (q := 303) at_301 rfl rfl ?_
          refine C.icmpNe (q := 310) (q' := 306) at_303 (by decide) (by decide) rfl (fun h303 => ?_) (fun h303 => absurd (q_nx0) h303)
          refine C.iconst (q := 307) (z := (1 : Int32)) at_306 rfl rfl ?_
          refine C.goto (q := 311) at_307 (by decide) (by decide) ?_
          refine C.istore (q := 313) (ls' := [.val (.int a), .val (.int b), .val (.int c), .val (.int dd), .val (.int e), .val (.int f), .val (.int (Int32.ofNat kc)), .val (.int (Int32.ofNat k0)), .val (.int (Int32.ofNat k1)), .val (.int (Int32.ofNat k2)), .val (.int (Int32.ofNat s)), .val (.int (Int32.ofNat (d + 1))), .val (.int (Int32.ofNat s)), .val (.int (Int32.ofNat ((s + (d + 1)) % 3))), .val (.int (Int32.ofNat ((s + 2 * (d + 1)) % 3))), .val (.int (3 : Int32)), .val (.ref a90), .val (.int (-1 : Int32)), .val (.int (0 : Int32)), .val (.int (0 : Int32)), .val (.int (0 : Int32)), .val (.int (3 : Int32)), .val (.int (1 : Int32)), .unset]) at_311 rfl rfl ?_
          refine C.iload (q := 315) at_313 rfl rfl ?_
          refine C.iconst (q := 316) (z := (2 : Int32)) at_315 rfl rfl ?_
          refine C.icmpLt (q := 353) (q' := 319) at_316 (by decide) (by decide) rfl (fun h316 => absurd h316 (by decide)) (fun h316 => ?_)
          refine C.iload (q := 321) at_319 rfl rfl ?_
          refine C.ifEq (q := 350) (q' := 324) at_321 (by decide) (by decide) rfl (fun h321 => absurd h321 (by decide)) (fun h321 => ?_)
          refine C.aload (q := 326) at_324 rfl rfl rfl ?_
          refine C.iload (q := 328) at_326 rfl rfl ?_
          refine C.callV (q := 331) 0 0 [.int (Int32.ofNat ((s + (d + 1)) % 3))] [] at_328 (hw _ (List.mem_of_getElem? (i := 33) rfl)) (hw _ (List.mem_of_getElem? (i := 34) rfl)) (hw _ (List.mem_of_getElem? (i := 35) rfl)) (hw _ (List.mem_of_getElem? (i := 36) rfl)) (hw _ (List.mem_of_getElem? (i := 3) rfl)) (hw _ (List.mem_of_getElem? (i := 37) rfl)) (own_c4 l Z a0 n0 hw [] a90 h x m (own_add (own_add (own_add (own_s0 kc) s k0) ((s + (d + 1)) % 3) k1) ((s + 2 * (d + 1)) % 3) k2) ((s + (d + 1)) % 3) (by omega) (by rw [q_ln]; omega)) (by decide) (by decide) (by decide) own_pd3 rfl rfl rfl rfl (Nat.le_of_eq rfl) (by decide) (by decide) rfl ?_
          rintro _ _ ⟨rfl, hE⟩
          rw [hE]
          show G 4 13 [(a90, .inr ("com/example/terms_to_transitions/termstotransitions/equivalence/TransitionLists", [("heads", "[I", .ref h), ("nexts", "[I", .ref x), ("keysMet", "[I", .ref m), ("keysMetCount", "I", .int ((own_add (own_add (own_add (own_s0 kc) s k0) ((s + (d + 1)) % 3) k1) ((s + 2 * (d + 1)) % 3) k2).2.2.2))])), (h, .inl (.int, (own_vl (own_add (own_add (own_add (own_s0 kc) s k0) ((s + (d + 1)) % 3) k1) ((s + 2 * (d + 1)) % 3) k2).1))), (x, .inl (.int, (own_vl (own_add (own_add (own_add (own_s0 kc) s k0) ((s + (d + 1)) % 3) k1) ((s + 2 * (d + 1)) % 3) k2).2.1))), (m, .inl (.int, (own_vl (own_add (own_add (own_add (own_s0 kc) s k0) ((s + (d + 1)) % 3) k1) ((s + 2 * (d + 1)) % 3) k2).2.2.1)))] 331 [.val (.int a), .val (.int b), .val (.int c), .val (.int dd), .val (.int e), .val (.int f), .val (.int (Int32.ofNat kc)), .val (.int (Int32.ofNat k0)), .val (.int (Int32.ofNat k1)), .val (.int (Int32.ofNat k2)), .val (.int (Int32.ofNat s)), .val (.int (Int32.ofNat (d + 1))), .val (.int (Int32.ofNat s)), .val (.int (Int32.ofNat ((s + (d + 1)) % 3))), .val (.int (Int32.ofNat ((s + 2 * (d + 1)) % 3))), .val (.int (3 : Int32)), .val (.ref a90), .val (.int (-1 : Int32)), .val (.int (0 : Int32)), .val (.int (0 : Int32)), .val (.int (0 : Int32)), .val (.int (3 : Int32)), .val (.int (1 : Int32)), .unset] [.int ((own_add (own_add (own_add (own_s0 kc) s k0) ((s + (d + 1)) % 3) k1) ((s + 2 * (d + 1)) % 3) k2).2.1.getD ((s + (d + 1)) % 3) 0)]
          refine C.iload (q := 333) at_331 rfl rfl ?_
          refine C.ifEq (q := 341) (q' := 336) at_333 (by decide) (by decide) rfl (fun h333 => ?_) (fun h333 => absurd (by decide) h333)
          refine C.iload (q := 343) at_341 rfl rfl ?_
          refine C.icmpNe (q := 350) (q' := 346) at_343 (by decide) (by decide) rfl (fun h343 => ?_) (fun h343 => absurd (q_nx1) h343)
          refine C.iconst (q := 347) (z := (1 : Int32)) at_346 rfl rfl ?_
          refine C.goto (q := 351) at_347 (by decide) (by decide) ?_
          refine C.istore (q := 353) (ls' := [.val (.int a), .val (.int b), .val (.int c), .val (.int dd), .val (.int e), .val (.int f), .val (.int (Int32.ofNat kc)), .val (.int (Int32.ofNat k0)), .val (.int (Int32.ofNat k1)), .val (.int (Int32.ofNat k2)), .val (.int (Int32.ofNat s)), .val (.int (Int32.ofNat (d + 1))), .val (.int (Int32.ofNat s)), .val (.int (Int32.ofNat ((s + (d + 1)) % 3))), .val (.int (Int32.ofNat ((s + 2 * (d + 1)) % 3))), .val (.int (3 : Int32)), .val (.ref a90), .val (.int (-1 : Int32)), .val (.int (0 : Int32)), .val (.int (0 : Int32)), .val (.int (0 : Int32)), .val (.int (3 : Int32)), .val (.int (1 : Int32)), .unset]) at_351 rfl rfl ?_
          refine C.iload (q := 355) at_353 rfl rfl ?_
          refine C.iconst (q := 356) (z := (3 : Int32)) at_355 rfl rfl ?_
          refine C.icmpLt (q := 403) (q' := 359) at_356 (by decide) (by decide) rfl (fun h356 => absurd h356 (by decide)) (fun h356 => ?_)
          refine C.iload (q := 361) at_359 rfl rfl ?_
          refine C.ifEq (q := 400) (q' := 364) at_361 (by decide) (by decide) rfl (fun h361 => absurd h361 (by decide)) (fun h361 => ?_)
          refine C.aload (q := 366) at_364 rfl rfl rfl ?_
          refine C.iload (q := 368) at_366 rfl rfl ?_
          refine C.callV (q := 371) 0 0 [.int (Int32.ofNat ((s + 2 * (d + 1)) % 3))] [] at_368 (hw _ (List.mem_of_getElem? (i := 33) rfl)) (hw _ (List.mem_of_getElem? (i := 34) rfl)) (hw _ (List.mem_of_getElem? (i := 35) rfl)) (hw _ (List.mem_of_getElem? (i := 36) rfl)) (hw _ (List.mem_of_getElem? (i := 3) rfl)) (hw _ (List.mem_of_getElem? (i := 37) rfl)) (own_c4 l Z a0 n0 hw [] a90 h x m (own_add (own_add (own_add (own_s0 kc) s k0) ((s + (d + 1)) % 3) k1) ((s + 2 * (d + 1)) % 3) k2) ((s + 2 * (d + 1)) % 3) (by omega) (by rw [q_ln]; omega)) (by decide) (by decide) (by decide) own_pd3 rfl rfl rfl rfl (Nat.le_of_eq rfl) (by decide) (by decide) rfl ?_
          rintro _ _ ⟨rfl, hE⟩
          rw [hE]
          show G 4 13 [(a90, .inr ("com/example/terms_to_transitions/termstotransitions/equivalence/TransitionLists", [("heads", "[I", .ref h), ("nexts", "[I", .ref x), ("keysMet", "[I", .ref m), ("keysMetCount", "I", .int ((own_add (own_add (own_add (own_s0 kc) s k0) ((s + (d + 1)) % 3) k1) ((s + 2 * (d + 1)) % 3) k2).2.2.2))])), (h, .inl (.int, (own_vl (own_add (own_add (own_add (own_s0 kc) s k0) ((s + (d + 1)) % 3) k1) ((s + 2 * (d + 1)) % 3) k2).1))), (x, .inl (.int, (own_vl (own_add (own_add (own_add (own_s0 kc) s k0) ((s + (d + 1)) % 3) k1) ((s + 2 * (d + 1)) % 3) k2).2.1))), (m, .inl (.int, (own_vl (own_add (own_add (own_add (own_s0 kc) s k0) ((s + (d + 1)) % 3) k1) ((s + 2 * (d + 1)) % 3) k2).2.2.1)))] 371 [.val (.int a), .val (.int b), .val (.int c), .val (.int dd), .val (.int e), .val (.int f), .val (.int (Int32.ofNat kc)), .val (.int (Int32.ofNat k0)), .val (.int (Int32.ofNat k1)), .val (.int (Int32.ofNat k2)), .val (.int (Int32.ofNat s)), .val (.int (Int32.ofNat (d + 1))), .val (.int (Int32.ofNat s)), .val (.int (Int32.ofNat ((s + (d + 1)) % 3))), .val (.int (Int32.ofNat ((s + 2 * (d + 1)) % 3))), .val (.int (3 : Int32)), .val (.ref a90), .val (.int (-1 : Int32)), .val (.int (0 : Int32)), .val (.int (0 : Int32)), .val (.int (0 : Int32)), .val (.int (3 : Int32)), .val (.int (1 : Int32)), .unset] [.int ((own_add (own_add (own_add (own_s0 kc) s k0) ((s + (d + 1)) % 3) k1) ((s + 2 * (d + 1)) % 3) k2).2.1.getD ((s + 2 * (d + 1)) % 3) 0)]
          refine C.iload (q := 373) at_371 rfl rfl ?_
          refine C.ifEq (q := 381) (q' := 376) at_373 (by decide) (by decide) rfl (fun h373 => ?_) (fun h373 => absurd (by decide) h373)
          refine C.iload (q := 383) at_381 rfl rfl ?_
          refine C.ifEq (q := 391) (q' := 386) at_383 (by decide) (by decide) rfl (fun h383 => ?_) (fun h383 => absurd (by decide) h383)
          refine C.iload (q := 393) at_391 rfl rfl ?_
          refine C.icmpNe (q := 400) (q' := 396) at_393 (by decide) (by decide) rfl (fun h393 => ?_) (fun h393 => absurd (q_nx2) h393)
          refine C.iconst (q := 397) (z := (1 : Int32)) at_396 rfl rfl ?_
          refine C.goto (q := 401) at_397 (by decide) (by decide) ?_
          refine C.istore (q := 403) (ls' := [.val (.int a), .val (.int b), .val (.int c), .val (.int dd), .val (.int e), .val (.int f), .val (.int (Int32.ofNat kc)), .val (.int (Int32.ofNat k0)), .val (.int (Int32.ofNat k1)), .val (.int (Int32.ofNat k2)), .val (.int (Int32.ofNat s)), .val (.int (Int32.ofNat (d + 1))), .val (.int (Int32.ofNat s)), .val (.int (Int32.ofNat ((s + (d + 1)) % 3))), .val (.int (Int32.ofNat ((s + 2 * (d + 1)) % 3))), .val (.int (3 : Int32)), .val (.ref a90), .val (.int (-1 : Int32)), .val (.int (0 : Int32)), .val (.int (0 : Int32)), .val (.int (0 : Int32)), .val (.int (3 : Int32)), .val (.int (1 : Int32)), .unset]) at_401 rfl rfl ?_
          refine C.iload (q := 405) at_403 rfl rfl ?_
          refine C.iconst (q := 406) (z := (1 : Int32)) at_405 rfl rfl ?_
          refine C.icmpLt (q := 468) (q' := 409) at_406 (by decide) (by decide) rfl (fun h406 => absurd h406 (by decide)) (fun h406 => ?_)
          refine C.iload (q := 411) at_409 rfl rfl ?_
          refine C.iconst (q := 412) (z := (3 : Int32)) at_411 rfl rfl ?_
          refine C.icmpLt (q := 425) (q' := 415) at_412 (by decide) (by decide) rfl (fun h412 => absurd h412 (by decide)) (fun h412 => ?_)
          refine C.iload (q := 417) at_415 rfl rfl ?_
          refine C.ifEq (q := 425) (q' := 420) at_417 (by decide) (by decide) rfl (fun h417 => ?_) (fun h417 => absurd (by decide) h417)
          refine C.iload (q := 427) at_425 rfl rfl ?_
          refine C.iconst (q := 428) (z := (2 : Int32)) at_427 rfl rfl ?_
          refine C.icmpLt (q := 441) (q' := 431) at_428 (by decide) (by decide) rfl (fun h428 => absurd h428 (by decide)) (fun h428 => ?_)
          refine C.iload (q := 433) at_431 rfl rfl ?_
          refine C.ifEq (q := 441) (q' := 436) at_433 (by decide) (by decide) rfl (fun h433 => ?_) (fun h433 => absurd (by decide) h433)
          refine C.iload (q := 443) at_441 rfl rfl ?_
          refine C.istore (q := 445) (ls' := [.val (.int a), .val (.int b), .val (.int c), .val (.int dd), .val (.int e), .val (.int f), .val (.int (Int32.ofNat kc)), .val (.int (Int32.ofNat k0)), .val (.int (Int32.ofNat k1)), .val (.int (Int32.ofNat k2)), .val (.int (Int32.ofNat s)), .val (.int (Int32.ofNat (d + 1))), .val (.int (Int32.ofNat s)), .val (.int (Int32.ofNat ((s + (d + 1)) % 3))), .val (.int (Int32.ofNat ((s + 2 * (d + 1)) % 3))), .val (.int (3 : Int32)), .val (.ref a90), .val (.int (-1 : Int32)), .val (.int (0 : Int32)), .val (.int (0 : Int32)), .val (.int (0 : Int32)), .val (.int (3 : Int32)), .val (.int (1 : Int32)), .val (.int (Int32.ofNat s))]) at_443 rfl rfl ?_
          refine C.iload (q := 447) at_445 rfl rfl ?_
          refine C.ifEq (q := 465) (q' := 450) at_447 (by decide) (by decide) rfl (fun h447 => absurd h447 (by decide)) (fun h447 => ?_)
          refine C.aload (q := 452) at_450 rfl rfl rfl ?_
          refine C.iconst (q := 453) (z := (0 : Int32)) at_452 rfl rfl ?_
          refine C.callV (q := 456) 0 0 [.int (0 : Int32)] [] at_453 (hw _ (List.mem_of_getElem? (i := 38) rfl)) (hw _ (List.mem_of_getElem? (i := 39) rfl)) (hw _ (List.mem_of_getElem? (i := 40) rfl)) (hw _ (List.mem_of_getElem? (i := 41) rfl)) (hw _ (List.mem_of_getElem? (i := 3) rfl)) (hw _ (List.mem_of_getElem? (i := 42) rfl)) (own_c3 l Z a0 n0 hw [] a90 h x m (own_add (own_add (own_add (own_s0 kc) s k0) ((s + (d + 1)) % 3) k1) ((s + 2 * (d + 1)) % 3) k2) 0 (by decide) (own_fB.ok q_b0).1 (own_fB.ok q_b0).2.1 (own_fB.ok q_b0).2.2) (by decide) (by decide) (by decide) own_pd3 rfl rfl rfl rfl (Nat.le_of_eq rfl) (by decide) (by decide) rfl ?_
          rintro _ _ ⟨rfl, hE⟩
          rw [hE]
          show G 4 13 [(a90, .inr ("com/example/terms_to_transitions/termstotransitions/equivalence/TransitionLists", [("heads", "[I", .ref h), ("nexts", "[I", .ref x), ("keysMet", "[I", .ref m), ("keysMetCount", "I", .int ((own_add (own_add (own_add (own_s0 kc) s k0) ((s + (d + 1)) % 3) k1) ((s + 2 * (d + 1)) % 3) k2).2.2.2))])), (h, .inl (.int, (own_vl (own_add (own_add (own_add (own_s0 kc) s k0) ((s + (d + 1)) % 3) k1) ((s + 2 * (d + 1)) % 3) k2).1))), (x, .inl (.int, (own_vl (own_add (own_add (own_add (own_s0 kc) s k0) ((s + (d + 1)) % 3) k1) ((s + 2 * (d + 1)) % 3) k2).2.1))), (m, .inl (.int, (own_vl (own_add (own_add (own_add (own_s0 kc) s k0) ((s + (d + 1)) % 3) k1) ((s + 2 * (d + 1)) % 3) k2).2.2.1)))] 456 [.val (.int a), .val (.int b), .val (.int c), .val (.int dd), .val (.int e), .val (.int f), .val (.int (Int32.ofNat kc)), .val (.int (Int32.ofNat k0)), .val (.int (Int32.ofNat k1)), .val (.int (Int32.ofNat k2)), .val (.int (Int32.ofNat s)), .val (.int (Int32.ofNat (d + 1))), .val (.int (Int32.ofNat s)), .val (.int (Int32.ofNat ((s + (d + 1)) % 3))), .val (.int (Int32.ofNat ((s + 2 * (d + 1)) % 3))), .val (.int (3 : Int32)), .val (.ref a90), .val (.int (-1 : Int32)), .val (.int (0 : Int32)), .val (.int (0 : Int32)), .val (.int (0 : Int32)), .val (.int (3 : Int32)), .val (.int (1 : Int32)), .val (.int (Int32.ofNat s))] [.int ((own_add (own_add (own_add (own_s0 kc) s k0) ((s + (d + 1)) % 3) k1) ((s + 2 * (d + 1)) % 3) k2).1.getD ((own_add (own_add (own_add (own_s0 kc) s k0) ((s + (d + 1)) % 3) k1) ((s + 2 * (d + 1)) % 3) k2).2.2.1.getD 0 0).toNatClampNeg 0)]
          refine C.iload (q := 458) at_456 rfl rfl ?_
          refine C.icmpNe (q := 465) (q' := 461) at_458 (by decide) (by decide) rfl (fun h458 => ?_) (fun h458 => absurd (q_f0) h458)
          refine C.iconst (q := 462) (z := (1 : Int32)) at_461 rfl rfl ?_
          refine C.goto (q := 466) at_462 (by decide) (by decide) ?_
          refine C.istore (q := 468) (ls' := [.val (.int a), .val (.int b), .val (.int c), .val (.int dd), .val (.int e), .val (.int f), .val (.int (Int32.ofNat kc)), .val (.int (Int32.ofNat k0)), .val (.int (Int32.ofNat k1)), .val (.int (Int32.ofNat k2)), .val (.int (Int32.ofNat s)), .val (.int (Int32.ofNat (d + 1))), .val (.int (Int32.ofNat s)), .val (.int (Int32.ofNat ((s + (d + 1)) % 3))), .val (.int (Int32.ofNat ((s + 2 * (d + 1)) % 3))), .val (.int (3 : Int32)), .val (.ref a90), .val (.int (-1 : Int32)), .val (.int (0 : Int32)), .val (.int (0 : Int32)), .val (.int (0 : Int32)), .val (.int (3 : Int32)), .val (.int (1 : Int32)), .val (.int (Int32.ofNat s))]) at_466 rfl rfl ?_
          refine C.iload (q := 470) at_468 rfl rfl ?_
          refine C.iconst (q := 471) (z := (2 : Int32)) at_470 rfl rfl ?_
          refine C.icmpLt (q := 527) (q' := 474) at_471 (by decide) (by decide) rfl (fun h471 => absurd h471 (by decide)) (fun h471 => ?_)
          refine C.iload (q := 476) at_474 rfl rfl ?_
          refine C.ifNe (q := 500) (q' := 479) at_476 (by decide) (by decide) rfl (fun h476 => ?_) (fun h476 => absurd (by decide) h476)
          refine C.iload (q := 481) at_479 rfl rfl ?_
          refine C.iconst (q := 482) (z := (3 : Int32)) at_481 rfl rfl ?_
          refine C.icmpLt (q := 495) (q' := 485) at_482 (by decide) (by decide) rfl (fun h482 => absurd h482 (by decide)) (fun h482 => ?_)
          refine C.iload (q := 487) at_485 rfl rfl ?_
          refine C.ifEq (q := 495) (q' := 490) at_487 (by decide) (by decide) rfl (fun h487 => ?_) (fun h487 => absurd (by decide) h487)
          refine C.iload (q := 497) at_495 rfl rfl ?_
          refine C.goto (q := 502) at_497 (by decide) (by decide) ?_
          refine C.istore (q := 504) (ls' := [.val (.int a), .val (.int b), .val (.int c), .val (.int dd), .val (.int e), .val (.int f), .val (.int (Int32.ofNat kc)), .val (.int (Int32.ofNat k0)), .val (.int (Int32.ofNat k1)), .val (.int (Int32.ofNat k2)), .val (.int (Int32.ofNat s)), .val (.int (Int32.ofNat (d + 1))), .val (.int (Int32.ofNat s)), .val (.int (Int32.ofNat ((s + (d + 1)) % 3))), .val (.int (Int32.ofNat ((s + 2 * (d + 1)) % 3))), .val (.int (3 : Int32)), .val (.ref a90), .val (.int (-1 : Int32)), .val (.int (0 : Int32)), .val (.int (0 : Int32)), .val (.int (0 : Int32)), .val (.int (3 : Int32)), .val (.int (1 : Int32)), .val (.int (Int32.ofNat ((s + (d + 1)) % 3)))]) at_502 rfl rfl ?_
          refine C.iload (q := 506) at_504 rfl rfl ?_
          refine C.ifEq (q := 524) (q' := 509) at_506 (by decide) (by decide) rfl (fun h506 => absurd h506 (by decide)) (fun h506 => ?_)
          refine C.aload (q := 511) at_509 rfl rfl rfl ?_
          refine C.iconst (q := 512) (z := (1 : Int32)) at_511 rfl rfl ?_
          refine C.callV (q := 515) 0 0 [.int (1 : Int32)] [] at_512 (hw _ (List.mem_of_getElem? (i := 38) rfl)) (hw _ (List.mem_of_getElem? (i := 39) rfl)) (hw _ (List.mem_of_getElem? (i := 40) rfl)) (hw _ (List.mem_of_getElem? (i := 41) rfl)) (hw _ (List.mem_of_getElem? (i := 3) rfl)) (hw _ (List.mem_of_getElem? (i := 42) rfl)) (own_c3 l Z a0 n0 hw [] a90 h x m (own_add (own_add (own_add (own_s0 kc) s k0) ((s + (d + 1)) % 3) k1) ((s + 2 * (d + 1)) % 3) k2) 1 (by decide) (own_fB.ok q_b1).1 (own_fB.ok q_b1).2.1 (own_fB.ok q_b1).2.2) (by decide) (by decide) (by decide) own_pd3 rfl rfl rfl rfl (Nat.le_of_eq rfl) (by decide) (by decide) rfl ?_
          rintro _ _ ⟨rfl, hE⟩
          rw [hE]
          show G 4 13 [(a90, .inr ("com/example/terms_to_transitions/termstotransitions/equivalence/TransitionLists", [("heads", "[I", .ref h), ("nexts", "[I", .ref x), ("keysMet", "[I", .ref m), ("keysMetCount", "I", .int ((own_add (own_add (own_add (own_s0 kc) s k0) ((s + (d + 1)) % 3) k1) ((s + 2 * (d + 1)) % 3) k2).2.2.2))])), (h, .inl (.int, (own_vl (own_add (own_add (own_add (own_s0 kc) s k0) ((s + (d + 1)) % 3) k1) ((s + 2 * (d + 1)) % 3) k2).1))), (x, .inl (.int, (own_vl (own_add (own_add (own_add (own_s0 kc) s k0) ((s + (d + 1)) % 3) k1) ((s + 2 * (d + 1)) % 3) k2).2.1))), (m, .inl (.int, (own_vl (own_add (own_add (own_add (own_s0 kc) s k0) ((s + (d + 1)) % 3) k1) ((s + 2 * (d + 1)) % 3) k2).2.2.1)))] 515 [.val (.int a), .val (.int b), .val (.int c), .val (.int dd), .val (.int e), .val (.int f), .val (.int (Int32.ofNat kc)), .val (.int (Int32.ofNat k0)), .val (.int (Int32.ofNat k1)), .val (.int (Int32.ofNat k2)), .val (.int (Int32.ofNat s)), .val (.int (Int32.ofNat (d + 1))), .val (.int (Int32.ofNat s)), .val (.int (Int32.ofNat ((s + (d + 1)) % 3))), .val (.int (Int32.ofNat ((s + 2 * (d + 1)) % 3))), .val (.int (3 : Int32)), .val (.ref a90), .val (.int (-1 : Int32)), .val (.int (0 : Int32)), .val (.int (0 : Int32)), .val (.int (0 : Int32)), .val (.int (3 : Int32)), .val (.int (1 : Int32)), .val (.int (Int32.ofNat ((s + (d + 1)) % 3)))] [.int ((own_add (own_add (own_add (own_s0 kc) s k0) ((s + (d + 1)) % 3) k1) ((s + 2 * (d + 1)) % 3) k2).1.getD ((own_add (own_add (own_add (own_s0 kc) s k0) ((s + (d + 1)) % 3) k1) ((s + 2 * (d + 1)) % 3) k2).2.2.1.getD 1 0).toNatClampNeg 0)]
          refine C.iload (q := 517) at_515 rfl rfl ?_
          refine C.icmpNe (q := 524) (q' := 520) at_517 (by decide) (by decide) rfl (fun h517 => ?_) (fun h517 => absurd (q_f1) h517)
          refine C.iconst (q := 521) (z := (1 : Int32)) at_520 rfl rfl ?_
          refine C.goto (q := 525) at_521 (by decide) (by decide) ?_
          refine C.istore (q := 527) (ls' := [.val (.int a), .val (.int b), .val (.int c), .val (.int dd), .val (.int e), .val (.int f), .val (.int (Int32.ofNat kc)), .val (.int (Int32.ofNat k0)), .val (.int (Int32.ofNat k1)), .val (.int (Int32.ofNat k2)), .val (.int (Int32.ofNat s)), .val (.int (Int32.ofNat (d + 1))), .val (.int (Int32.ofNat s)), .val (.int (Int32.ofNat ((s + (d + 1)) % 3))), .val (.int (Int32.ofNat ((s + 2 * (d + 1)) % 3))), .val (.int (3 : Int32)), .val (.ref a90), .val (.int (-1 : Int32)), .val (.int (0 : Int32)), .val (.int (0 : Int32)), .val (.int (0 : Int32)), .val (.int (3 : Int32)), .val (.int (1 : Int32)), .val (.int (Int32.ofNat ((s + (d + 1)) % 3)))]) at_525 rfl rfl ?_
          refine C.iload (q := 529) at_527 rfl rfl ?_
          refine C.iconst (q := 530) (z := (3 : Int32)) at_529 rfl rfl ?_
          refine C.icmpLt (q := 556) (q' := 533) at_530 (by decide) (by decide) rfl (fun h530 => absurd h530 (by decide)) (fun h530 => ?_)
          refine C.iload (q := 535) at_533 rfl rfl ?_
          refine C.ifEq (q := 553) (q' := 538) at_535 (by decide) (by decide) rfl (fun h535 => absurd h535 (by decide)) (fun h535 => ?_)
          refine C.aload (q := 540) at_538 rfl rfl rfl ?_
          refine C.iconst (q := 541) (z := (2 : Int32)) at_540 rfl rfl ?_
          refine C.callV (q := 544) 0 0 [.int (2 : Int32)] [] at_541 (hw _ (List.mem_of_getElem? (i := 38) rfl)) (hw _ (List.mem_of_getElem? (i := 39) rfl)) (hw _ (List.mem_of_getElem? (i := 40) rfl)) (hw _ (List.mem_of_getElem? (i := 41) rfl)) (hw _ (List.mem_of_getElem? (i := 3) rfl)) (hw _ (List.mem_of_getElem? (i := 42) rfl)) (own_c3 l Z a0 n0 hw [] a90 h x m (own_add (own_add (own_add (own_s0 kc) s k0) ((s + (d + 1)) % 3) k1) ((s + 2 * (d + 1)) % 3) k2) 2 (by decide) (own_fB.ok q_b2).1 (own_fB.ok q_b2).2.1 (own_fB.ok q_b2).2.2) (by decide) (by decide) (by decide) own_pd3 rfl rfl rfl rfl (Nat.le_of_eq rfl) (by decide) (by decide) rfl ?_
          rintro _ _ ⟨rfl, hE⟩
          rw [hE]
          show G 4 13 [(a90, .inr ("com/example/terms_to_transitions/termstotransitions/equivalence/TransitionLists", [("heads", "[I", .ref h), ("nexts", "[I", .ref x), ("keysMet", "[I", .ref m), ("keysMetCount", "I", .int ((own_add (own_add (own_add (own_s0 kc) s k0) ((s + (d + 1)) % 3) k1) ((s + 2 * (d + 1)) % 3) k2).2.2.2))])), (h, .inl (.int, (own_vl (own_add (own_add (own_add (own_s0 kc) s k0) ((s + (d + 1)) % 3) k1) ((s + 2 * (d + 1)) % 3) k2).1))), (x, .inl (.int, (own_vl (own_add (own_add (own_add (own_s0 kc) s k0) ((s + (d + 1)) % 3) k1) ((s + 2 * (d + 1)) % 3) k2).2.1))), (m, .inl (.int, (own_vl (own_add (own_add (own_add (own_s0 kc) s k0) ((s + (d + 1)) % 3) k1) ((s + 2 * (d + 1)) % 3) k2).2.2.1)))] 544 [.val (.int a), .val (.int b), .val (.int c), .val (.int dd), .val (.int e), .val (.int f), .val (.int (Int32.ofNat kc)), .val (.int (Int32.ofNat k0)), .val (.int (Int32.ofNat k1)), .val (.int (Int32.ofNat k2)), .val (.int (Int32.ofNat s)), .val (.int (Int32.ofNat (d + 1))), .val (.int (Int32.ofNat s)), .val (.int (Int32.ofNat ((s + (d + 1)) % 3))), .val (.int (Int32.ofNat ((s + 2 * (d + 1)) % 3))), .val (.int (3 : Int32)), .val (.ref a90), .val (.int (-1 : Int32)), .val (.int (0 : Int32)), .val (.int (0 : Int32)), .val (.int (0 : Int32)), .val (.int (3 : Int32)), .val (.int (1 : Int32)), .val (.int (Int32.ofNat ((s + (d + 1)) % 3)))] [.int ((own_add (own_add (own_add (own_s0 kc) s k0) ((s + (d + 1)) % 3) k1) ((s + 2 * (d + 1)) % 3) k2).1.getD ((own_add (own_add (own_add (own_s0 kc) s k0) ((s + (d + 1)) % 3) k1) ((s + 2 * (d + 1)) % 3) k2).2.2.1.getD 2 0).toNatClampNeg 0)]
          refine C.iload (q := 546) at_544 rfl rfl ?_
          refine C.icmpNe (q := 553) (q' := 549) at_546 (by decide) (by decide) rfl (fun h546 => ?_) (fun h546 => absurd (q_f2) h546)
          refine C.iconst (q := 550) (z := (1 : Int32)) at_549 rfl rfl ?_
          refine C.goto (q := 554) at_550 (by decide) (by decide) ?_
          refine C.istore (q := 556) (ls' := [.val (.int a), .val (.int b), .val (.int c), .val (.int dd), .val (.int e), .val (.int f), .val (.int (Int32.ofNat kc)), .val (.int (Int32.ofNat k0)), .val (.int (Int32.ofNat k1)), .val (.int (Int32.ofNat k2)), .val (.int (Int32.ofNat s)), .val (.int (Int32.ofNat (d + 1))), .val (.int (Int32.ofNat s)), .val (.int (Int32.ofNat ((s + (d + 1)) % 3))), .val (.int (Int32.ofNat ((s + 2 * (d + 1)) % 3))), .val (.int (3 : Int32)), .val (.ref a90), .val (.int (-1 : Int32)), .val (.int (0 : Int32)), .val (.int (0 : Int32)), .val (.int (0 : Int32)), .val (.int (3 : Int32)), .val (.int (1 : Int32)), .val (.int (Int32.ofNat ((s + (d + 1)) % 3)))]) at_554 rfl rfl ?_
          refine C.iload (q := 558) at_556 rfl rfl ?_
          exact C.retB (by simp) at_558 (by decide) (by decide) rfl
set_option maxRecDepth 65536 in
set_option maxHeartbeats 40000000 in
theorem comes_1 {Post : Tables → Env → Array Value → State → Outcome → State → Prop} (hpost : ∀ tb e args s v u, (limb_1_1.after args s (.returned v) u = true ∧ limb_1_2.after args s (.returned v) u = true ∧ True) → FrameEnd s (.returned v) u (Jvm.fieldLocs frame_1_writes args s ++ Jvm.arrayLocs frame_1_arrays args s ++ Jvm.staticLocs frame_1_statics s) 16 128 → Post tb e args s (.returned v) u) :
    ArmFor flags0 classFile x code maxLocals ret World_1 tables_1 room_1 Calls_1 rest_1 Pre_1 Post := by
  intro l hfl _ _ p e ha hc hk s m args below hf hA hF happ hP
  obtain ⟨hcalls, hrest, hpre⟩ := hP
  obtain ⟨-, -, -, hnamed, -, -, -, hat⟩ := (Spec.applies_iff hf).mp happ
  obtain ⟨hg, hn⟩ := and_e (Cond.before_iff.mp (show (Jvm.Cond.and given_1 narrow_1).before args s = true from hpre))
  obtain ⟨hcnt, g0⟩ := and_e hg
  obtain ⟨q0, g1⟩ := and_e g0
  obtain ⟨q1, g2⟩ := and_e g1
  obtain ⟨q2, g3⟩ := and_e g2
  obtain ⟨q3, g4⟩ := and_e g3
  obtain ⟨q4, g5⟩ := and_e g4
  obtain ⟨w0, w1, w2, w3, w4, w5, rfl⟩ : ∃ w0 w1 w2 w3 w4 w5 : Value, args = #[w0, w1, w2, w3, w4, w5] := by
    have hs : args.size = 6 := by simpa [Cond.value, given_1] using hcnt
    obtain ⟨L⟩ := args
    match L, hs with
    | [w0, w1, w2, w3, w4, w5], _ => exact ⟨w0, w1, w2, w3, w4, w5, rfl⟩
  have hw := fun d (hd : d ∈ tables_1) => atoms_spec (ws := Jvm.Cond.code x code maxLocals ret :: tables_1) hat d (List.mem_cons_of_mem _ hd)
  obtain ⟨i0, e0⟩ := is_v q0
  obtain rfl : w0 = (.int i0) := Option.some.inj e0
  obtain ⟨i1, e1⟩ := is_v q1
  obtain rfl : w1 = (.int i1) := Option.some.inj e1
  obtain ⟨i2, e2⟩ := is_v q2
  obtain rfl : w2 = (.int i2) := Option.some.inj e2
  obtain ⟨i3, e3⟩ := is_v q3
  obtain rfl : w3 = (.int i3) := Option.some.inj e3
  obtain ⟨i4, e4⟩ := is_v q4
  obtain rfl : w4 = (.int i4) := Option.some.inj e4
  obtain ⟨i5, e5⟩ := is_v g5
  obtain rfl : w5 = (.int i5) := Option.some.inj e5
  obtain ⟨n, o, h1, h2, h3, _, L, rfl, ⟨N, H', hH', hv⟩, hq⟩ := own_claw l s _ s.heap.size hw tables_1 i0 i1 i2 i3 i4 i5  s.heap ⟨Nat.le_refl _, fun i j a o o' z => by simp at z, fun i a o z => by simp at z⟩ p e ha hc hk s m _ below hf ((Spec.applies_iff_loose hf).mp happ).1 ⟨rfl, State.Warmed39.refl s, rfl⟩ trivial
  cases hv
  refine ⟨n, _, h1, h2, h3, hpost _ _ _ _ _ _ ⟨Cond.after_iff.mpr rfl, Cond.after_iff.mpr (eq_i res_at (Term.int_eval (1)) rfl), trivial⟩ ⟨hq.1, hq.2.1, (hq.2.2.sift fun y hy => Or.inr (N y hy)).mono (by decide) (by decide)⟩⟩
theorem main_1_1 : Claimed_1_1 := comes_1 fun _ _ _ _ _ _ h hF => ⟨h.1, hF⟩
theorem main_1_2 : Claimed_1_2 := comes_1 fun _ _ _ _ _ _ h hF => ⟨h.2.1, hF⟩
end Jvm.Pilot.@@N@@
namespace Jvm.Pilot.@@N@@
open Jvm Jvm.ClassFile Sem Op Lib Jvm.Free Jvm.Stand Jvm.Pilot.@@N@@.Jvm.D
/-! MADE BY PROGRAM (witnessworld.py) out of the Statement's table words and the real class files: 10 classes; the members and pool entries that the words name. The judged class is class 1, her method 1. -/
namespace start1
open Jvm.ClassFile
def u (s : String) : CpInfo := .utf8 (stringToUtf16 s)
/-- a pool by its gaps: so many unusable entries, then the entry; so many at the end -/
def gap : Nat → List CpInfo → List CpInfo
  | 0, r => r
  | n + 1, r => .unusable :: gap n r
def poolList (es : List (Nat × CpInfo)) (last : Nat) : List CpInfo := es.foldr (fun e r => gap e.1 (e.2 :: r)) (gap last [])
def pool (es : List (Nat × CpInfo)) (last : Nat) : Array CpInfo := ⟨poolList es last⟩
def fileOf (pool : Array CpInfo) (this : Nat) (attrs : Array Attribute := #[]) (ms : Array MethodInfo := #[]) (fl : Nat := 33) (sup : Nat := 0) (ifs : Array Nat := #[]) (fds : Array FieldInfo := #[]) : ClassFile where
  minorVersion := 0
  majorVersion := 65
  constantPool := pool
  accessFlags := fl
  thisClass := this
  superClass := sup
  interfaces := ifs
  fields := fds
  methods := ms
  attributes := attrs
def plain (name : String) (sup : Option ClassId) : Class where
  name := name
  kind := .ordinary
  loader := none
  accessFlags := 33
  super := sup
  interfaces := #[]
  cf := none
  fields := #[]
  methods := #[]
  instanceTypes := #[]
  staticTypes := #[]
  resolved := #[]
  callSites := []
  init := .initialized
  statics := none
  mirror := none

def pool0 : Array CpInfo := pool [(5, u "<init>"), (0, u "()V"), (1, .class_ 10), (1, u "java/lang/Object")] 113

def k0c0 : Code := { maxStack := 0, maxLocals := 1, code := object_method_1_code, exceptionTable := #[], attributes := #[] }
def k0m0 : Method := { name := "<init>", desc := "()V", sig := { parameters := [], returnType := none }, accessFlags := 1, code := some k0c0 }
/-- java/lang/Object -/
def k0 : Class := { plain "java/lang/Object" none with
  accessFlags := 33
  interfaces := #[]
  cf := some (fileOf pool0 8 #[] #[{ accessFlags := 1, nameIndex := 5, descriptorIndex := 6, attributes := #[] }] 33 0 #[] #[])
  fields := #[]
  methods := #[k0m0]
  instanceTypes := #[]
  staticTypes := #[]
  resolved := Array.replicate 124 none
  statics := none }

def pool1 : Array CpInfo := pool [(2, .class_ 4), (1, u "java/lang/Object"), (0, u "<init>"), (0, u "()V"), (0, .integer 2147483647), (0, .class_ 9), (0, u "com/example/terms_to_transitions/termstotransitions/equivalence/TransitionLists"), (0, .methodref 8 11), (0, .nameAndType 5 12), (0, u "(II)V"), (0, .methodref 8 14), (0, .nameAndType 15 12), (0, u "add"), (0, .methodref 8 17), (0, .nameAndType 18 19), (0, u "listCount"), (0, u "()I"), (0, .methodref 8 21), (0, .nameAndType 22 23), (0, u "next"), (0, u "(I)I"), (0, .methodref 8 25), (0, .nameAndType 26 23), (0, u "first"), (0, .class_ 28), (0, u "com/example/terms_to_transitions/termstotransitions/equivalence/TransitionListsAddPinLaw"), (2, u "law"), (0, u "(IIIIII)Z")] 3

def k1m0 : Method := { name := "<init>", desc := "()V", sig := { parameters := [], returnType := none }, accessFlags := 1, code := none }
def k1c1 : Code := { maxStack := 4, maxLocals := 24, code := code, exceptionTable := #[], attributes := #[] }
def k1m1 : Method := { name := "law", desc := "(IIIIII)Z", sig := { parameters := [.int, .int, .int, .int, .int, .int], returnType := some .boolean }, accessFlags := 9, code := some k1c1 }
/-- com/example/terms_to_transitions/termstotransitions/equivalence/TransitionListsAddPinLaw -/
def k1 : Class := { plain "com/example/terms_to_transitions/termstotransitions/equivalence/TransitionListsAddPinLaw" (some 0) with
  accessFlags := 49
  interfaces := #[]
  cf := some (fileOf pool1 27 #[] #[{ accessFlags := 1, nameIndex := 5, descriptorIndex := 6, attributes := #[] }, { accessFlags := 9, nameIndex := 31, descriptorIndex := 32, attributes := #[] }] 49 2 #[] #[])
  fields := #[]
  methods := #[k1m0, k1m1]
  instanceTypes := #[]
  staticTypes := #[]
  resolved := Array.replicate 36 none
  statics := none }

def pool2 : Array CpInfo := pool [(1, .methodref 2 3), (0, .class_ 4), (0, .nameAndType 5 6), (0, u "java/lang/Object"), (0, u "<init>"), (0, u "()V"), (0, .fieldref 8 9), (0, .class_ 10), (0, .nameAndType 11 12), (0, u "com/example/terms_to_transitions/termstotransitions/equivalence/TransitionLists"), (0, u "heads"), (0, u "[I"), (0, .methodref 14 15), (0, .class_ 16), (0, .nameAndType 17 18), (0, u "java/util/Arrays"), (0, u "fill"), (0, u "([II)V"), (0, .fieldref 8 20), (0, .nameAndType 21 12), (0, u "nexts"), (0, .fieldref 8 23), (0, .nameAndType 24 12), (0, u "keysMet"), (0, .fieldref 8 26), (0, .nameAndType 27 28), (0, u "keysMetCount"), (0, u "I"), (0, u "NONE"), (2, u "(II)V"), (2, u "add"), (1, u "listCount"), (0, u "()I"), (0, u "first"), (0, u "(I)I"), (0, u "next")] 3

def k2c0 : Code := { maxStack := 2, maxLocals := 3, code := prog_11_method_1_code, exceptionTable := #[], attributes := #[] }
def k2m0 : Method := { name := "<init>", desc := "(II)V", sig := { parameters := [.int, .int], returnType := none }, accessFlags := 0, code := some k2c0 }
def k2c1 : Code := { maxStack := 4, maxLocals := 3, code := prog_11_method_2_code, exceptionTable := #[], attributes := #[] }
def k2m1 : Method := { name := "add", desc := "(II)V", sig := { parameters := [.int, .int], returnType := none }, accessFlags := 0, code := some k2c1 }
def k2c2 : Code := { maxStack := 1, maxLocals := 1, code := prog_11_method_3_code, exceptionTable := #[], attributes := #[] }
def k2m2 : Method := { name := "listCount", desc := "()I", sig := { parameters := [], returnType := some .int }, accessFlags := 0, code := some k2c2 }
def k2c3 : Code := { maxStack := 3, maxLocals := 2, code := prog_11_method_4_code, exceptionTable := #[], attributes := #[] }
def k2m3 : Method := { name := "first", desc := "(I)I", sig := { parameters := [.int], returnType := some .int }, accessFlags := 0, code := some k2c3 }
def k2c4 : Code := { maxStack := 2, maxLocals := 2, code := prog_11_method_5_code, exceptionTable := #[], attributes := #[] }
def k2m4 : Method := { name := "next", desc := "(I)I", sig := { parameters := [.int], returnType := some .int }, accessFlags := 0, code := some k2c4 }
/-- com/example/terms_to_transitions/termstotransitions/equivalence/TransitionLists -/
def k2 : Class := { plain "com/example/terms_to_transitions/termstotransitions/equivalence/TransitionLists" (some 0) with
  accessFlags := 48
  interfaces := #[]
  cf := some (fileOf pool2 8 #[] #[{ accessFlags := 0, nameIndex := 5, descriptorIndex := 32, attributes := #[] }, { accessFlags := 0, nameIndex := 35, descriptorIndex := 32, attributes := #[] }, { accessFlags := 0, nameIndex := 37, descriptorIndex := 38, attributes := #[] }, { accessFlags := 0, nameIndex := 39, descriptorIndex := 40, attributes := #[] }, { accessFlags := 0, nameIndex := 41, descriptorIndex := 40, attributes := #[] }] 48 2 #[] #[{ accessFlags := 24, nameIndex := 29, descriptorIndex := 28, attributes := #[] }, { accessFlags := 18, nameIndex := 11, descriptorIndex := 12, attributes := #[] }, { accessFlags := 18, nameIndex := 21, descriptorIndex := 12, attributes := #[] }, { accessFlags := 18, nameIndex := 24, descriptorIndex := 12, attributes := #[] }, { accessFlags := 2, nameIndex := 27, descriptorIndex := 28, attributes := #[] }])
  fields := #[{ name := "NONE", type := .int, accessFlags := 24, slot := 0, constantValue := 0 }, { name := "heads", type := (.array .int), accessFlags := 18, slot := 0, constantValue := 0 }, { name := "nexts", type := (.array .int), accessFlags := 18, slot := 1, constantValue := 0 }, { name := "keysMet", type := (.array .int), accessFlags := 18, slot := 2, constantValue := 0 }, { name := "keysMetCount", type := .int, accessFlags := 2, slot := 3, constantValue := 0 }]
  methods := #[k2m0, k2m1, k2m2, k2m3, k2m4]
  instanceTypes := #[(.array .int), (.array .int), (.array .int), .int]
  staticTypes := #[.int]
  resolved := Array.replicate 45 none
  statics := none }

def pool3 : Array CpInfo := pool [(2, .class_ 4), (1, u "java/lang/Object"), (0, u "<init>"), (0, u "()V"), (7, .class_ 16), (1, u "java/util/Arrays"), (57, .class_ 76), (1, u "java/util/Arrays$NaturalOrder"), (36, .class_ 115), (1, u "java/util/Arrays$LegacyMergeSort"), (1, u "Z"), (257, .class_ 376), (0, u "java/util/Arrays$ArrayList"), (68, u "$assertionsDisabled"), (269, u "MIN_ARRAY_SORT_GRAN"), (0, u "I"), (2, u "INSERTIONSORT_THRESHOLD"), (120, u "fill"), (4, u "([II)V"), (129, .class_ 976), (0, u "java/util/Arrays$ArrayItr")] 52

def k3m0 : Method := { name := "<init>", desc := "()V", sig := { parameters := [], returnType := none }, accessFlags := 2, code := none }
def k3c1 : Code := { maxStack := 3, maxLocals := 4, code := jdk_65_method_103_code, exceptionTable := #[], attributes := #[] }
def k3m1 : Method := { name := "fill", desc := "([II)V", sig := { parameters := [(.array .int), .int], returnType := none }, accessFlags := 9, code := some k3c1 }
/-- java/util/Arrays -/
def k3 : Class := { plain "java/util/Arrays" (some 0) with
  accessFlags := 49
  interfaces := #[]
  cf := some (fileOf pool3 14 #[.nestMembers #[975, 375, 113, 74]] #[{ accessFlags := 2, nameIndex := 5, descriptorIndex := 6, attributes := #[] }, { accessFlags := 9, nameIndex := 840, descriptorIndex := 845, attributes := #[] }] 49 2 #[] #[{ accessFlags := 26, nameIndex := 715, descriptorIndex := 716, attributes := #[] }, { accessFlags := 26, nameIndex := 719, descriptorIndex := 716, attributes := #[] }, { accessFlags := 4120, nameIndex := 445, descriptorIndex := 117, attributes := #[] }])
  fields := #[{ name := "MIN_ARRAY_SORT_GRAN", type := .int, accessFlags := 26, slot := 0, constantValue := 0 }, { name := "INSERTIONSORT_THRESHOLD", type := .int, accessFlags := 26, slot := 1, constantValue := 0 }, { name := "$assertionsDisabled", type := .boolean, accessFlags := 4120, slot := 2, constantValue := 0 }]
  methods := #[k3m0, k3m1]
  instanceTypes := #[]
  staticTypes := #[.int, .int, .boolean]
  resolved := Array.replicate 1029 none
  statics := none }

def pool4 : Array CpInfo := pool [(1, u "java/lang/Cloneable"), (0, .class_ 1), (0, u "java/lang/Object"), (0, .class_ 3)] 3

/-- java/lang/Cloneable -/
def k4 : Class := { plain "java/lang/Cloneable" (some 0) with
  accessFlags := 1537
  interfaces := #[]
  cf := some (fileOf pool4 2 #[] #[] 1537 4 #[] #[])
  fields := #[]
  methods := #[]
  instanceTypes := #[]
  staticTypes := #[]
  resolved := Array.replicate 8 none
  statics := none }

def pool5 : Array CpInfo := pool [(1, u "java/io/Serializable"), (0, .class_ 1), (0, u "java/lang/Object"), (0, .class_ 3)] 3

/-- java/io/Serializable -/
def k5 : Class := { plain "java/io/Serializable" (some 0) with
  accessFlags := 1537
  interfaces := #[]
  cf := some (fileOf pool5 2 #[] #[] 1537 4 #[] #[])
  fields := #[]
  methods := #[]
  instanceTypes := #[]
  staticTypes := #[]
  resolved := Array.replicate 8 none
  statics := none }

/-- the primitive byte -/
def k6 : Class := { plain "byte" none with kind := .primitive 'B', accessFlags := 0x411 }
/-- [B -/
def k7 : Class := { plain "[B" (some 0) with kind := .array 6 .byte, interfaces := #[4, 5], accessFlags := 1041 }

/-- the primitive int -/
def k8 : Class := { plain "int" none with kind := .primitive 'I', accessFlags := 0x411 }
/-- [I -/
def k9 : Class := { plain "[I" (some 0) with kind := .array 8 .int, interfaces := #[4, 5], accessFlags := 1041 }

def heap : Heap := #[]
def classes : Array Class := #[k0, k1, k2, k3, k4, k5, k6, k7, k8, k9]
def interned : List (Array UInt16 × Addr) := []
def slotsUsed : Nat := 0
def theMethod : MethodId := ⟨1, 1⟩
def args0 : Array Value := #[.int 5, .int 7, .int 1, .int 2, .int 3, .int 4]
def aboutOver (below : List Frame) : State where
  vm := { classes := classes, interned := interned.toArray }
  heap := heap
  slotsUsed := slotsUsed
  threads := #[{ frames := .invoking theMethod args0 :: below }]
def below0 : List Frame := [.native { method := ⟨0, 0⟩, args := #[] }]
def about1 : State := aboutOver below0
def p0 : Program := .bare "" "" ""
def e0 : Env := launch0.env 0 0 0
theorem w_frames : about1.frames = Frame.invoking theMethod args0 :: below0 := rfl
set_option maxRecDepth 65536 in
theorem w_args : argsFit about1.vm theMethod args0 = true := by decide +kernel
set_option maxRecDepth 65536 in
theorem w_heap : heapFits about1 = true := by decide +kernel
set_option maxRecDepth 65536 in
theorem w_runnable : about1.curStatus? = some .runnable := by decide +kernel
set_option maxRecDepth 65536 in
theorem w_alone : about1.alone = true := by decide +kernel
set_option maxRecDepth 65536 in
theorem w_named : about1.methodNamed? x = some theMethod := by decide +kernel
set_option maxRecDepth 65536 in
theorem w_hears : about1.hears theMethod below0 = true := by decide +kernel
set_option maxRecDepth 65536 in
theorem w_ripe : about1.ripe theMethod args0 below0 = true := by decide +kernel
theorem w_running : about1.status = .running := rfl
set_option maxRecDepth 65536 in
theorem w_room : about1.hasRoom e0.platform room_1 = true :=
  launch0.hasRoom_least _ room_1 (by decide +kernel) (by decide +kernel) (by decide +kernel) (by decide +kernel) (by decide +kernel) (by decide +kernel)
theorem allAtoms_all (ts : List Jvm.Cond) (a : Array Jvm.Value) (st : Jvm.State) : (allAtoms ts).before a st = ts.all (fun c => c.before a st) := by
  induction ts with
  | nil => rfl
  | cons c t ih =>
    show (Jvm.Cond.and c (allAtoms t)).before a st = _
    rw [Jvm.Cond.before_and, ih, List.all_cons]
def words1 : List Jvm.Cond := Jvm.Cond.code x code maxLocals ret :: tables_1
/-- a 'code' word, met by the world's own term for the bytes: nothing is compared byte by byte -/
theorem code_word {y : MethodName} {bytes : ByteArray} {mx : Nat} {rt : Option FieldType} {a : Array Value} {s : State} {m : MethodId} {meth : Method} {c : Code} (h1 : s.methodNamed? y = some m) (h2 : s.vm.method? m = some meth) (h3 : meth.code = some c) (h4 : c.code = bytes)
    (h5 : (c.maxLocals == mx && c.exceptionTable.isEmpty && decide (c.maxStack ≤ mostOperands) && decide (meth.sig.returnType = rt) && !meth.locks && decide (parseMethodDescriptor y.desc = some meth.sig)) = true) : (Jvm.Cond.code y bytes mx rt).before a s = true := by
  simp only [Bool.and_eq_true, beq_iff_eq, Bool.not_eq_true', decide_eq_true_eq] at h5
  obtain ⟨⟨⟨⟨⟨g1, g2⟩, g3⟩, g4⟩, g5⟩, g6⟩ := h5
  simp [Cond.before, Cond.holds, Cond.value, h1, h2, h3, h4, g1, g2, g3, g4, g5, g6]
def isCode : Jvm.Cond → Bool
  | .code _ _ _ _ => true
  | _ => false
theorem all_split {L : List Jvm.Cond} {P : Jvm.Cond → Bool} (h1 : L.all (fun c => isCode c || P c) = true) (h2 : ∀ c ∈ L.filter isCode, P c = true) : L.all P = true := by
  refine List.all_eq_true.mpr fun c hc => ?_
  have h := List.all_eq_true.mp h1 c hc
  rcases Bool.eq_false_or_eq_true (isCode c) with hi | hi
  · exact h2 c (List.mem_filter.mpr ⟨hc, hi⟩)
  · simpa [hi] using h
set_option maxRecDepth 65536 in
theorem w_c0 : (Jvm.Cond.code x code maxLocals ret).before args0 about1 = true := code_word (m := ⟨1, 1⟩) (meth := k1m1) (c := k1c1) (by decide +kernel) rfl rfl rfl (by decide +kernel)
set_option maxRecDepth 65536 in
theorem w_c1 : (Jvm.Cond.code ({ cls := "com/example/terms_to_transitions/termstotransitions/equivalence/TransitionLists", name := "<init>", desc := "(II)V" } : Jvm.MethodName) prog_11_method_1_code (3 : Nat) (Option.none : Option Jvm.ClassFile.FieldType)).before args0 about1 = true := code_word (m := ⟨2, 0⟩) (meth := k2m0) (c := k2c0) (by decide +kernel) rfl rfl rfl (by decide +kernel)
set_option maxRecDepth 65536 in
theorem w_c2 : (Jvm.Cond.code ({ cls := "java/lang/Object", name := "<init>", desc := "()V" } : Jvm.MethodName) object_method_1_code (1 : Nat) (Option.none : Option Jvm.ClassFile.FieldType)).before args0 about1 = true := code_word (m := ⟨0, 0⟩) (meth := k0m0) (c := k0c0) (by decide +kernel) rfl rfl rfl (by decide +kernel)
set_option maxRecDepth 65536 in
theorem w_c3 : (Jvm.Cond.code ({ cls := "java/util/Arrays", name := "fill", desc := "([II)V" } : Jvm.MethodName) jdk_65_method_103_code (4 : Nat) (Option.none : Option Jvm.ClassFile.FieldType)).before args0 about1 = true := code_word (m := ⟨3, 1⟩) (meth := k3m1) (c := k3c1) (by decide +kernel) rfl rfl rfl (by decide +kernel)
set_option maxRecDepth 65536 in
theorem w_c4 : (Jvm.Cond.code ({ cls := "com/example/terms_to_transitions/termstotransitions/equivalence/TransitionLists", name := "add", desc := "(II)V" } : Jvm.MethodName) prog_11_method_2_code (3 : Nat) (Option.none : Option Jvm.ClassFile.FieldType)).before args0 about1 = true := code_word (m := ⟨2, 1⟩) (meth := k2m1) (c := k2c1) (by decide +kernel) rfl rfl rfl (by decide +kernel)
set_option maxRecDepth 65536 in
theorem w_c5 : (Jvm.Cond.code ({ cls := "com/example/terms_to_transitions/termstotransitions/equivalence/TransitionLists", name := "listCount", desc := "()I" } : Jvm.MethodName) prog_11_method_3_code (1 : Nat) (Option.some Jvm.ClassFile.FieldType.int)).before args0 about1 = true := code_word (m := ⟨2, 2⟩) (meth := k2m2) (c := k2c2) (by decide +kernel) rfl rfl rfl (by decide +kernel)
set_option maxRecDepth 65536 in
theorem w_c6 : (Jvm.Cond.code ({ cls := "com/example/terms_to_transitions/termstotransitions/equivalence/TransitionLists", name := "next", desc := "(I)I" } : Jvm.MethodName) prog_11_method_5_code (2 : Nat) (Option.some Jvm.ClassFile.FieldType.int)).before args0 about1 = true := code_word (m := ⟨2, 4⟩) (meth := k2m4) (c := k2c4) (by decide +kernel) rfl rfl rfl (by decide +kernel)
set_option maxRecDepth 65536 in
theorem w_c7 : (Jvm.Cond.code ({ cls := "com/example/terms_to_transitions/termstotransitions/equivalence/TransitionLists", name := "first", desc := "(I)I" } : Jvm.MethodName) prog_11_method_4_code (2 : Nat) (Option.some Jvm.ClassFile.FieldType.int)).before args0 about1 = true := code_word (m := ⟨2, 3⟩) (meth := k2m3) (c := k2c3) (by decide +kernel) rfl rfl rfl (by decide +kernel)
def codes1 : List Jvm.Cond := [Jvm.Cond.code x code maxLocals ret, Jvm.Cond.code ({ cls := "com/example/terms_to_transitions/termstotransitions/equivalence/TransitionLists", name := "<init>", desc := "(II)V" } : Jvm.MethodName) prog_11_method_1_code (3 : Nat) (Option.none : Option Jvm.ClassFile.FieldType), Jvm.Cond.code ({ cls := "java/lang/Object", name := "<init>", desc := "()V" } : Jvm.MethodName) object_method_1_code (1 : Nat) (Option.none : Option Jvm.ClassFile.FieldType), Jvm.Cond.code ({ cls := "java/util/Arrays", name := "fill", desc := "([II)V" } : Jvm.MethodName) jdk_65_method_103_code (4 : Nat) (Option.none : Option Jvm.ClassFile.FieldType), Jvm.Cond.code ({ cls := "com/example/terms_to_transitions/termstotransitions/equivalence/TransitionLists", name := "add", desc := "(II)V" } : Jvm.MethodName) prog_11_method_2_code (3 : Nat) (Option.none : Option Jvm.ClassFile.FieldType), Jvm.Cond.code ({ cls := "com/example/terms_to_transitions/termstotransitions/equivalence/TransitionLists", name := "listCount", desc := "()I" } : Jvm.MethodName) prog_11_method_3_code (1 : Nat) (Option.some Jvm.ClassFile.FieldType.int), Jvm.Cond.code ({ cls := "com/example/terms_to_transitions/termstotransitions/equivalence/TransitionLists", name := "next", desc := "(I)I" } : Jvm.MethodName) prog_11_method_5_code (2 : Nat) (Option.some Jvm.ClassFile.FieldType.int), Jvm.Cond.code ({ cls := "com/example/terms_to_transitions/termstotransitions/equivalence/TransitionLists", name := "first", desc := "(I)I" } : Jvm.MethodName) prog_11_method_4_code (2 : Nat) (Option.some Jvm.ClassFile.FieldType.int)]
set_option maxRecDepth 65536 in
theorem codes_eq : words1.filter isCode = codes1 := rfl
theorem w_codes : ∀ c ∈ words1.filter isCode, c.before args0 about1 = true := by
  rw [codes_eq]
  intro c hc
  simp only [codes1, List.mem_cons, List.not_mem_nil, or_false] at hc
  rcases hc with rfl | rfl | rfl | rfl | rfl | rfl | rfl | rfl
  · exact w_c0
  · exact w_c1
  · exact w_c2
  · exact w_c3
  · exact w_c4
  · exact w_c5
  · exact w_c6
  · exact w_c7
set_option maxRecDepth 65536 in
theorem w_t1 : (words1.take 24).all (fun c => isCode c || c.before args0 about1) = true := by decide +kernel
set_option maxRecDepth 65536 in
theorem w_t2 : (words1.drop 24).all (fun c => isCode c || c.before args0 about1) = true := by decide +kernel
theorem w_tables : (allAtoms (Jvm.Cond.code x code maxLocals ret :: tables_1)).before args0 about1 = true := by
  rw [allAtoms_all]
  show words1.all (fun c => c.before args0 about1) = true
  refine all_split ?_ w_codes
  rw [← List.take_append_drop 24 words1, List.all_append, w_t1, w_t2]
  rfl
set_option maxRecDepth 65536 in
theorem w_case : (Jvm.Cond.and given_1 narrow_1).before args0 about1 = true := by decide +kernel
theorem w_applies : (headSpec (Jvm.Cond.code x code maxLocals ret :: tables_1) room_1).applies x e0.platform about1 = true :=
  (Spec.applies_iff w_frames).mpr ⟨w_running, w_runnable, w_alone, w_named, w_hears, w_ripe, w_room, w_tables⟩
theorem atStart : AtStart classFile x code maxLocals ret World_1 tables_1 room_1 Calls_1 rest_1 Pre_1 launch0 p0 e0 about1 theMethod args0 below0 :=
  ⟨lists_1, trivial, launch0.admits_env _ _ _, launch0.least_env, fairChoices_fair.cas, fairChoices_fair.clock, w_frames, w_args, w_heap, w_applies, trivial, trivial, w_case⟩
end start1
theorem witness_1 : WitnessClaimed_1 := ⟨start1.p0, start1.e0, start1.about1, start1.theMethod, start1.args0, start1.below0, start1.atStart⟩
end Jvm.Pilot.@@N@@
