import JvmDerived
import JvmDerived.Pilot.@@N@@Statement
import JvmDerived.Pilot.@@N@@Code
set_option linter.unusedVariables false
set_option linter.unusedSimpArgs false
namespace Jvm.Pilot.@@N@@
open Jvm Jvm.ClassFile Sem Op Lib Jvm.Free Jvm.Stand Jvm.LawKit Jvm.RoadKit Bundle Jvm.Pilot.@@N@@.Jvm.D
-- OWN KIT: a walk over an abstract heap. 'own_Ob': an array (kind, values) or an object (class, fields).
abbrev own_Ob : Type := (FieldType × List Value) ⊕ (String × List (String × String × Value))
abbrev own_Hs : Type := List (Addr × own_Ob)
def own_is (Z : State) (h : Heap) (a : Addr) : own_Ob → Prop
  | .inl q => ∃ c : Cell, Arr Z h a c q.1 ∧ c.slots.toList = q.2
  | .inr q => Exa Z h a q.1 ∧ (∀ (i j : Nat) (f g : String × String × Value), q.2[i]? = some f → q.2[j]? = some g → RoadKit.slotOf Z q.1 f.1 f.2.1 = RoadKit.slotOf Z q.1 g.1 g.2.1 → i = j) ∧ ∀ (i : Nat) (f : String × String × Value), q.2[i]? = some f → Fld Z h a q.1 f.1 f.2.1 f.2.2
/-- the objects made since the law began, each at its own address -/
def own_Hp (Z : State) (n0 : Nat) (h : Heap) (H : own_Hs) : Prop :=
  n0 ≤ h.size ∧ (∀ (i j : Nat) (a : Addr) (o o' : own_Ob), H[i]? = some (a, o) → H[j]? = some (a, o') → i = j) ∧ ∀ (i : Nat) (a : Addr) (o : own_Ob), H[i]? = some (a, o) → n0 ≤ a ∧ a < h.size ∧ own_is Z h a o
/-- what is owed at the end -/
def own_P (Z : State) (n0 : Nat) (s : State) (below : List Frame) (R : Room) (Q : Option Value → own_Hs → Prop) (t : State) (o : Outcome) : Prop :=
  t.status = .running ∧ Ended t below o ∧ ∃ v L, o = .returned v ∧ (Fr n0 L ∧ ∃ H', own_Hp Z n0 t.heap H' ∧ Q v H') ∧ FrameEnd s o t L R.cells R.slots
def own_Go (Z : State) (n0 : Nat) (p : Program) (l : Launch) (e : Env) (R : Room) (s : State) (m : MethodId) (args : Array Value) (below : List Frame) (meth : Method) (c : Code) (P : State → Outcome → Prop)
    (k n : Nat) (H : own_Hs) (pc : Nat) (ls : List Slot) (st : List Value) : Prop :=
  ∀ T L, Stand p l e R s m args below meth c T L k n → Fr n0 L → own_Hp Z n0 T.heap H → ∃ t o, Steps p.tables e below (T.setTop (mkF m pc ⟨ls⟩ st)) t ∧ P t o
/-- G is the walk of y's body -/
def own_Wk (Z : State) (n0 : Nat) (R : Room) (y : MethodName) (bytes : ByteArray) (maxL : Nat) (ret : Option FieldType) (l : Launch) (Q : Option Value → own_Hs → Prop)
    (G : Nat → Nat → own_Hs → Nat → List Slot → List Value → Prop) : Prop :=
  ∃ p e s m args below meth c, G = own_Go Z n0 p l e R s m args below meth c (own_P Z n0 s below R Q) ∧ p.tables.exec = Jvm.exec ∧ Z.Warmed39 s.vm ∧ c.code = bytes ∧ c.maxLocals = maxL ∧
    s.vm.findClass y.cls = some m.cls ∧ meth.name = y.name ∧ meth.sig.returnType = ret ∧ meth.locks = false
/-- y's contract -/
def own_Con (l : Launch) (Z : State) (n0 : Nat) (y : MethodName) (bytes : ByteArray) (maxL : Nat) (ret : Option FieldType) (ws : List Jvm.Cond) (rm : Room) (as : Array Value) (H : own_Hs) (Q : Option Value → own_Hs → Prop) : Prop :=
  ∀ h0, own_Hp Z n0 h0 H → MetFree l y (head1 (Jvm.Cond.code y bytes maxL ret :: ws) rm) (fun a U => a = as ∧ Z.Warmed39 U.vm ∧ U.heap = h0) (fun _ _ _ _ _ => True)
    (fun _ U o U' => ∃ v L, o = .returned v ∧ (Fr n0 L ∧ ∃ H', own_Hp Z n0 U'.heap H' ∧ Q v H') ∧ FrameEnd U o U' L rm.cells rm.slots)
section OwnKit
variable {Z : State} {a0 : Array Value} {n0 : Nat} {R : Room} {y : MethodName} {bytes : ByteArray} {maxL : Nat} {ret : Option FieldType} {l : Launch} {Q : Option Value → own_Hs → Prop}
  {G : Nat → Nat → own_Hs → Nat → List Slot → List Value → Prop} {k n : Nat} {H : own_Hs} {pc q q' : Nat} {ls ls' : List Slot} {st st' : List Value}
theorem own_con {ws : List Jvm.Cond} {as : Array Value} {ls0 : List Slot} (hp : plainFor y = true) (hef : ∀ m, entryFrame m as maxL = mkF m 0 ⟨ls0⟩ []) (body : ∀ G, own_Wk Z n0 R y bytes maxL ret l Q G → G 0 0 H 0 ls0 []) :
    own_Con l Z n0 y bytes maxL ret ws R as H Q := by
  intro h0 hH
  refine MetFree.of_bodySF hp hisR ?_
  intro p e s m args below meth c s₁ Bd hml0 hP hK
  obtain ⟨ha, hZ, hh⟩ := hP
  subst ha
  have e0 : s₁.heap = h0 := by rw [← hh, Bd.state]; rfl
  have hown : s.vm.findClass y.cls = some m.cls := findClass_of_methodNamed Bd.named
  have hnm := (name_of_methodNamed Bd.named Bd.method).1
  obtain ⟨t, o, stp, P⟩ := body _ ⟨p, e, s, m, args, below, meth, c, rfl, Bd.exec, hZ, Bd.bytes, hml0, hown, hnm, Bd.returns, BodyLoose.notSynchronized Bd⟩ s₁ [] (Stand.of_body Bd) (Fr.nil n0) (by rw [e0]; exact hH)
  exact ⟨t, o, castTop (hef m) stp, P⟩
/-- a step that touches the frame alone -/
theorem own_Wk.of (C : own_Wk Z n0 R y bytes maxL ret l Q G) (K : G k n H q ls' st')
    (h : ∀ (p : Program) (e : Env) (T t : State) (m : MethodId) (below : List Frame) (c : Code), p.tables.exec = Jvm.exec → c.code = bytes → At T m c below → Steps p.tables e below (T.setTop (mkF m q ⟨ls'⟩ st')) t → Steps p.tables e below (T.setTop (mkF m pc ⟨ls⟩ st)) t) :
    G k n H pc ls st := by
  obtain ⟨p, e, s, m, args, below, meth, c, rfl, hx, hZ, hby, hml, hown, hnm, hret, hlk⟩ := C
  intro T L X N hH
  obtain ⟨t, o, stp, P⟩ := K T L X N hH
  exact ⟨t, o, h p e T t m below c hx hby X.here stp, P⟩
theorem own_Wk.more {k' n' : Nat} (C : own_Wk Z n0 R y bytes maxL ret l Q G) (hk : k ≤ k') (hn : n ≤ n') (K : G k' n' H pc ls st) : G k n H pc ls st := by
  obtain ⟨p, e, s, m, args, below, meth, c, rfl, hx, hZ, hby, hml, hown, hnm, hret, hlk⟩ := C
  exact fun T L X N hH => K T L (X.more hk hn) N hH
theorem own_Wk.iloadN (C : own_Wk Z n0 R y bytes maxL ret l Q G) {j : Fin 4} {v : Int32} (hd : decode bytes pc = .ok (.iload_n j, 1)) (hl : (Array.mk ls)[j.val]? = some (.val (.int v))) (hq : pc + 1 = q) (K : G k n H q ls (.int v :: st)) : G k n H pc ls st := by
  subst hq; exact C.of K fun _ _ _ _ _ _ _ hx hby X s => XS.iloadN X hx rfl (hb hby hd) hl s
theorem own_Wk.iload (C : own_Wk Z n0 R y bytes maxL ret l Q G) {j : Nat} {v : Int32} (hd : decode bytes pc = .ok (.iload j, 2)) (hl : (Array.mk ls)[j]? = some (.val (.int v))) (hq : pc + 2 = q) (K : G k n H q ls (.int v :: st)) : G k n H pc ls st := by
  subst hq; exact C.of K fun _ _ _ _ _ _ _ hx hby X s => XS.iload X hx rfl (hb hby hd) hl s
theorem own_Wk.lloadN (C : own_Wk Z n0 R y bytes maxL ret l Q G) {j : Fin 4} {v : Int64} (hd : decode bytes pc = .ok (.lload_n j, 1)) (hl : (Array.mk ls)[j.val]? = some (.val (.long v))) (hq : pc + 1 = q) (K : G k n H q ls (.long v :: st)) : G k n H pc ls st := by
  subst hq; exact C.of K fun _ _ _ _ _ _ _ hx hby X s => XS.lloadN X hx rfl (hb hby hd) hl s
theorem own_Wk.lload (C : own_Wk Z n0 R y bytes maxL ret l Q G) {j : Nat} {v : Int64} (hd : decode bytes pc = .ok (.lload j, 2)) (hl : (Array.mk ls)[j]? = some (.val (.long v))) (hq : pc + 2 = q) (K : G k n H q ls (.long v :: st)) : G k n H pc ls st := by
  subst hq; exact C.of K fun _ _ _ _ _ _ _ hx hby X s => XS.lload X hx rfl (hb hby hd) hl s
theorem own_Wk.aloadN (C : own_Wk Z n0 R y bytes maxL ret l Q G) {j : Fin 4} {v : Value} (hd : decode bytes pc = .ok (.aload_n j, 1)) (hl : (Array.mk ls)[j.val]? = some (.val v)) (hv : v.isRef = true) (hq : pc + 1 = q) (K : G k n H q ls (v :: st)) : G k n H pc ls st := by
  subst hq; exact C.of K fun _ _ _ _ _ _ _ hx hby X s => XS.aloadN X hx rfl (hb hby hd) hl hv s
theorem own_Wk.aload (C : own_Wk Z n0 R y bytes maxL ret l Q G) {j : Nat} {v : Value} (hd : decode bytes pc = .ok (.aload j, 2)) (hl : (Array.mk ls)[j]? = some (.val v)) (hv : v.isRef = true) (hq : pc + 2 = q) (K : G k n H q ls (v :: st)) : G k n H pc ls st := by
  subst hq; exact C.of K fun _ _ _ _ _ _ _ hx hby X s => XS.aload X hx rfl (hb hby hd) hl hv s
theorem own_Wk.istoreN (C : own_Wk Z n0 R y bytes maxL ret l Q G) {j : Fin 4} {v : Int32} (hd : decode bytes pc = .ok (.istore_n j, 1)) (hl : storeLocals (Array.mk ls) j.val (.int v) = some (Array.mk ls')) (hq : pc + 1 = q) (K : G k n H q ls' st) : G k n H pc ls (.int v :: st) := by
  subst hq; exact C.of K fun _ _ _ _ _ _ _ hx hby X s => XS.istoreN X hx rfl (hb hby hd) rfl hl s
theorem own_Wk.istore (C : own_Wk Z n0 R y bytes maxL ret l Q G) {j : Nat} {v : Int32} (hd : decode bytes pc = .ok (.istore j, 2)) (hl : storeLocals (Array.mk ls) j (.int v) = some (Array.mk ls')) (hq : pc + 2 = q) (K : G k n H q ls' st) : G k n H pc ls (.int v :: st) := by
  subst hq; exact C.of K fun _ _ _ _ _ _ _ hx hby X s => XS.istore X hx rfl (hb hby hd) rfl hl s
theorem own_Wk.lstoreN (C : own_Wk Z n0 R y bytes maxL ret l Q G) {j : Fin 4} {v : Int64} (hd : decode bytes pc = .ok (.lstore_n j, 1)) (hl : storeLocals (Array.mk ls) j.val (.long v) = some (Array.mk ls')) (hq : pc + 1 = q) (K : G k n H q ls' st) : G k n H pc ls (.long v :: st) := by
  subst hq; exact C.of K fun _ _ _ _ _ _ _ hx hby X s => XS.lstoreN X hx rfl (hb hby hd) rfl hl s
theorem own_Wk.lstore (C : own_Wk Z n0 R y bytes maxL ret l Q G) {j : Nat} {v : Int64} (hd : decode bytes pc = .ok (.lstore j, 2)) (hl : storeLocals (Array.mk ls) j (.long v) = some (Array.mk ls')) (hq : pc + 2 = q) (K : G k n H q ls' st) : G k n H pc ls (.long v :: st) := by
  subst hq; exact C.of K fun _ _ _ _ _ _ _ hx hby X s => XS.lstore X hx rfl (hb hby hd) rfl hl s
theorem own_Wk.astoreN (C : own_Wk Z n0 R y bytes maxL ret l Q G) {j : Fin 4} {v : Value} (hd : decode bytes pc = .ok (.astore_n j, 1)) (hv : v.isRef = true) (hl : storeLocals (Array.mk ls) j.val v = some (Array.mk ls')) (hq : pc + 1 = q) (K : G k n H q ls' st) : G k n H pc ls (v :: st) := by
  subst hq; exact C.of K fun _ _ _ _ _ _ _ hx hby X s => XS.astoreN X hx rfl (hb hby hd) rfl hv hl s
theorem own_Wk.astore (C : own_Wk Z n0 R y bytes maxL ret l Q G) {j : Nat} {v : Value} (hd : decode bytes pc = .ok (.astore j, 2)) (hv : v.isRef = true) (hl : storeLocals (Array.mk ls) j v = some (Array.mk ls')) (hq : pc + 2 = q) (K : G k n H q ls' st) : G k n H pc ls (v :: st) := by
  subst hq; exact C.of K fun _ _ _ _ _ _ _ hx hby X s => XS.astore X hx rfl (hb hby hd) rfl hv hl s
theorem own_Wk.iconst (C : own_Wk Z n0 R y bytes maxL ret l Q G) {i : Int} {z : Int32} (hd : decode bytes pc = .ok (.iconst i, 1)) (hz : Int32.ofInt i = z) (hq : pc + 1 = q) (K : G k n H q ls (.int z :: st)) : G k n H pc ls st := by
  subst hq hz; exact C.of K fun _ _ _ _ _ _ _ hx hby X s => XS.iconst X hx rfl (hb hby hd) s
theorem own_Wk.bipush (C : own_Wk Z n0 R y bytes maxL ret l Q G) {i : Int} {z : Int32} (hd : decode bytes pc = .ok (.bipush i, 2)) (hz : (Int8.ofInt i).toInt32 = z) (hq : pc + 2 = q) (K : G k n H q ls (.int z :: st)) : G k n H pc ls st := by
  subst hq hz; exact C.of K fun _ _ _ _ _ _ _ hx hby X s => XS.bipush X hx rfl (hb hby hd) s
theorem own_Wk.sipush (C : own_Wk Z n0 R y bytes maxL ret l Q G) {i : Int} {z : Int32} (hd : decode bytes pc = .ok (.sipush i, 3)) (hz : (Int16.ofInt i).toInt32 = z) (hq : pc + 3 = q) (K : G k n H q ls (.int z :: st)) : G k n H pc ls st := by
  subst hq hz; exact C.of K fun _ _ _ _ _ _ _ hx hby X s => XS.sipush X hx rfl (hb hby hd) s
theorem own_Wk.lconst (C : own_Wk Z n0 R y bytes maxL ret l Q G) {i : Fin 2} {z : Int64} (hd : decode bytes pc = .ok (.lconst i, 1)) (hz : Int64.ofNat i = z) (hq : pc + 1 = q) (K : G k n H q ls (.long z :: st)) : G k n H pc ls st := by
  subst hq hz; exact C.of K fun _ _ _ _ _ _ _ hx hby X s => XS.lconst X hx rfl (hb hby hd) s
theorem own_Wk.aconstNull (C : own_Wk Z n0 R y bytes maxL ret l Q G) (hd : decode bytes pc = .ok (.aconst_null, 1)) (hq : pc + 1 = q) (K : G k n H q ls (.null :: st)) : G k n H pc ls st := by
  subst hq; exact C.of K fun _ _ _ _ _ _ _ hx hby X s => XS.aconstNull X hx rfl (hb hby hd) s
theorem own_Wk.iadd (C : own_Wk Z n0 R y bytes maxL ret l Q G) {a b : Int32} (hd : decode bytes pc = .ok (.iadd, 1)) (hq : pc + 1 = q) (K : G k n H q ls (.int (a + b) :: st)) : G k n H pc ls (.int b :: .int a :: st) := by
  subst hq; exact C.of K fun _ _ _ _ _ _ _ hx hby X s => XS.iadd X hx rfl (hb hby hd) rfl s
theorem own_Wk.isub (C : own_Wk Z n0 R y bytes maxL ret l Q G) {a b : Int32} (hd : decode bytes pc = .ok (.isub, 1)) (hq : pc + 1 = q) (K : G k n H q ls (.int (a - b) :: st)) : G k n H pc ls (.int b :: .int a :: st) := by
  subst hq; exact C.of K fun _ _ _ _ _ _ _ hx hby X s => XS.isub X hx rfl (hb hby hd) rfl s
theorem own_Wk.imul (C : own_Wk Z n0 R y bytes maxL ret l Q G) {a b : Int32} (hd : decode bytes pc = .ok (.imul, 1)) (hq : pc + 1 = q) (K : G k n H q ls (.int (a * b) :: st)) : G k n H pc ls (.int b :: .int a :: st) := by
  subst hq; exact C.of K fun _ _ _ _ _ _ _ hx hby X s => XS.imul X hx rfl (hb hby hd) rfl s
theorem own_Wk.iand (C : own_Wk Z n0 R y bytes maxL ret l Q G) {a b : Int32} (hd : decode bytes pc = .ok (.iand, 1)) (hq : pc + 1 = q) (K : G k n H q ls (.int (a &&& b) :: st)) : G k n H pc ls (.int b :: .int a :: st) := by
  subst hq; exact C.of K fun _ _ _ _ _ _ _ hx hby X s => XS.iand X hx rfl (hb hby hd) rfl s
theorem own_Wk.ior (C : own_Wk Z n0 R y bytes maxL ret l Q G) {a b : Int32} (hd : decode bytes pc = .ok (.ior, 1)) (hq : pc + 1 = q) (K : G k n H q ls (.int (a ||| b) :: st)) : G k n H pc ls (.int b :: .int a :: st) := by
  subst hq; exact C.of K fun _ _ _ _ _ _ _ hx hby X s => XS.ior X hx rfl (hb hby hd) rfl s
theorem own_Wk.ixor (C : own_Wk Z n0 R y bytes maxL ret l Q G) {a b : Int32} (hd : decode bytes pc = .ok (.ixor, 1)) (hq : pc + 1 = q) (K : G k n H q ls (.int (a ^^^ b) :: st)) : G k n H pc ls (.int b :: .int a :: st) := by
  subst hq; exact C.of K fun _ _ _ _ _ _ _ hx hby X s => XS.ixor X hx rfl (hb hby hd) rfl s
theorem own_Wk.ishl (C : own_Wk Z n0 R y bytes maxL ret l Q G) {a b : Int32} (hd : decode bytes pc = .ok (.ishl, 1)) (hq : pc + 1 = q) (K : G k n H q ls (.int (a <<< (b &&& 31)) :: st)) : G k n H pc ls (.int b :: .int a :: st) := by
  subst hq; exact C.of K fun _ _ _ _ _ _ _ hx hby X s => XS.ishl X hx rfl (hb hby hd) rfl s
theorem own_Wk.ishr (C : own_Wk Z n0 R y bytes maxL ret l Q G) {a b : Int32} (hd : decode bytes pc = .ok (.ishr, 1)) (hq : pc + 1 = q) (K : G k n H q ls (.int (a >>> (b &&& 31)) :: st)) : G k n H pc ls (.int b :: .int a :: st) := by
  subst hq; exact C.of K fun _ _ _ _ _ _ _ hx hby X s => XS.ishr X hx rfl (hb hby hd) rfl s
theorem own_Wk.iushr (C : own_Wk Z n0 R y bytes maxL ret l Q G) {a b : Int32} (hd : decode bytes pc = .ok (.iushr, 1)) (hq : pc + 1 = q) (K : G k n H q ls (.int ((a.toUInt32 >>> (b &&& 31).toUInt32).toInt32) :: st)) : G k n H pc ls (.int b :: .int a :: st) := by
  subst hq; exact C.of K fun _ _ _ _ _ _ _ hx hby X s => XS.iushr X hx rfl (hb hby hd) rfl s
theorem own_Wk.ladd (C : own_Wk Z n0 R y bytes maxL ret l Q G) {a b : Int64} (hd : decode bytes pc = .ok (.ladd, 1)) (hq : pc + 1 = q) (K : G k n H q ls (.long (a + b) :: st)) : G k n H pc ls (.long b :: .long a :: st) := by
  subst hq; exact C.of K fun _ _ _ _ _ _ _ hx hby X s => XS.ladd X hx rfl (hb hby hd) rfl s
theorem own_Wk.lsub (C : own_Wk Z n0 R y bytes maxL ret l Q G) {a b : Int64} (hd : decode bytes pc = .ok (.lsub, 1)) (hq : pc + 1 = q) (K : G k n H q ls (.long (a - b) :: st)) : G k n H pc ls (.long b :: .long a :: st) := by
  subst hq; exact C.of K fun _ _ _ _ _ _ _ hx hby X s => XS.lsub X hx rfl (hb hby hd) rfl s
theorem own_Wk.lmul (C : own_Wk Z n0 R y bytes maxL ret l Q G) {a b : Int64} (hd : decode bytes pc = .ok (.lmul, 1)) (hq : pc + 1 = q) (K : G k n H q ls (.long (a * b) :: st)) : G k n H pc ls (.long b :: .long a :: st) := by
  subst hq; exact C.of K fun _ _ _ _ _ _ _ hx hby X s => XS.lmul X hx rfl (hb hby hd) rfl s
theorem own_Wk.land (C : own_Wk Z n0 R y bytes maxL ret l Q G) {a b : Int64} (hd : decode bytes pc = .ok (.land, 1)) (hq : pc + 1 = q) (K : G k n H q ls (.long (a &&& b) :: st)) : G k n H pc ls (.long b :: .long a :: st) := by
  subst hq; exact C.of K fun _ _ _ _ _ _ _ hx hby X s => XS.land X hx rfl (hb hby hd) rfl s
theorem own_Wk.lor (C : own_Wk Z n0 R y bytes maxL ret l Q G) {a b : Int64} (hd : decode bytes pc = .ok (.lor, 1)) (hq : pc + 1 = q) (K : G k n H q ls (.long (a ||| b) :: st)) : G k n H pc ls (.long b :: .long a :: st) := by
  subst hq; exact C.of K fun _ _ _ _ _ _ _ hx hby X s => XS.lor X hx rfl (hb hby hd) rfl s
theorem own_Wk.lxor (C : own_Wk Z n0 R y bytes maxL ret l Q G) {a b : Int64} (hd : decode bytes pc = .ok (.lxor, 1)) (hq : pc + 1 = q) (K : G k n H q ls (.long (a ^^^ b) :: st)) : G k n H pc ls (.long b :: .long a :: st) := by
  subst hq; exact C.of K fun _ _ _ _ _ _ _ hx hby X s => XS.lxor X hx rfl (hb hby hd) rfl s
theorem own_Wk.lshl (C : own_Wk Z n0 R y bytes maxL ret l Q G) {a : Int64} {b : Int32} (hd : decode bytes pc = .ok (.lshl, 1)) (hq : pc + 1 = q) (K : G k n H q ls (.long (a <<< (b &&& 0x3f).toInt64) :: st)) : G k n H pc ls (.int b :: .long a :: st) := by
  subst hq; exact C.of K fun _ _ _ _ _ _ _ hx hby X s => XS.lshl X hx rfl (hb hby hd) rfl s
theorem own_Wk.lshr (C : own_Wk Z n0 R y bytes maxL ret l Q G) {a : Int64} {b : Int32} (hd : decode bytes pc = .ok (.lshr, 1)) (hq : pc + 1 = q) (K : G k n H q ls (.long (a >>> (b &&& 0x3f).toInt64) :: st)) : G k n H pc ls (.int b :: .long a :: st) := by
  subst hq; exact C.of K fun _ _ _ _ _ _ _ hx hby X s => XS.lshr X hx rfl (hb hby hd) rfl s
theorem own_Wk.lushr (C : own_Wk Z n0 R y bytes maxL ret l Q G) {a : Int64} {b : Int32} (hd : decode bytes pc = .ok (.lushr, 1)) (hq : pc + 1 = q) (K : G k n H q ls (.long ((a.toUInt64 >>> (b &&& 0x3f).toInt64.toUInt64).toInt64) :: st)) : G k n H pc ls (.int b :: .long a :: st) := by
  subst hq; exact C.of K fun _ _ _ _ _ _ _ hx hby X s => XS.lushr X hx rfl (hb hby hd) rfl s
theorem own_Wk.idiv (C : own_Wk Z n0 R y bytes maxL ret l Q G) {a b : Int32} (hd : decode bytes pc = .ok (.idiv, 1)) (hy : b ≠ 0) (hq : pc + 1 = q) (K : G k n H q ls (.int (a / b) :: st)) : G k n H pc ls (.int b :: .int a :: st) := by
  subst hq; exact C.of K fun _ _ _ _ _ _ _ hx hby X s => XS.idiv X hx rfl (hb hby hd) rfl hy s
theorem own_Wk.irem (C : own_Wk Z n0 R y bytes maxL ret l Q G) {a b : Int32} (hd : decode bytes pc = .ok (.irem, 1)) (hy : b ≠ 0) (hq : pc + 1 = q) (K : G k n H q ls (.int (a % b) :: st)) : G k n H pc ls (.int b :: .int a :: st) := by
  subst hq; exact C.of K fun _ _ _ _ _ _ _ hx hby X s => XS.irem X hx rfl (hb hby hd) rfl hy (by rw [show a - a / b * b = a % b from irem_eq_mod a b]; exact s)
theorem own_Wk.ldiv (C : own_Wk Z n0 R y bytes maxL ret l Q G) {a b : Int64} (hd : decode bytes pc = .ok (.ldiv, 1)) (hy : b ≠ 0) (hq : pc + 1 = q) (K : G k n H q ls (.long (a / b) :: st)) : G k n H pc ls (.long b :: .long a :: st) := by
  subst hq; exact C.of K fun _ _ _ _ _ _ _ hx hby X s => XS.ldiv X hx rfl (hb hby hd) rfl hy s
theorem own_Wk.lrem (C : own_Wk Z n0 R y bytes maxL ret l Q G) {a b : Int64} (hd : decode bytes pc = .ok (.lrem, 1)) (hy : b ≠ 0) (hq : pc + 1 = q) (K : G k n H q ls (.long (a % b) :: st)) : G k n H pc ls (.long b :: .long a :: st) := by
  subst hq; exact C.of K fun _ _ _ _ _ _ _ hx hby X s => XS.lrem X hx rfl (hb hby hd) rfl hy (by rw [show a - a / b * b = a % b from lrem_mod a b]; exact s)
theorem own_Wk.ineg (C : own_Wk Z n0 R y bytes maxL ret l Q G) {a : Int32} (hd : decode bytes pc = .ok (.ineg, 1)) (hq : pc + 1 = q) (K : G k n H q ls (.int (-a) :: st)) : G k n H pc ls (.int a :: st) := by
  subst hq; exact C.of K fun _ _ _ _ _ _ _ hx hby X s => XS.ineg X hx rfl (hb hby hd) rfl s
theorem own_Wk.lneg (C : own_Wk Z n0 R y bytes maxL ret l Q G) {a : Int64} (hd : decode bytes pc = .ok (.lneg, 1)) (hq : pc + 1 = q) (K : G k n H q ls (.long (-a) :: st)) : G k n H pc ls (.long a :: st) := by
  subst hq; exact C.of K fun _ _ _ _ _ _ _ hx hby X s => XS.lneg X hx rfl (hb hby hd) rfl s
theorem own_Wk.i2l (C : own_Wk Z n0 R y bytes maxL ret l Q G) {a : Int32} (hd : decode bytes pc = .ok (.i2l, 1)) (hq : pc + 1 = q) (K : G k n H q ls (.long (a.toInt64) :: st)) : G k n H pc ls (.int a :: st) := by
  subst hq; exact C.of K fun _ _ _ _ _ _ _ hx hby X s => XS.i2l X hx rfl (hb hby hd) rfl s
theorem own_Wk.l2i (C : own_Wk Z n0 R y bytes maxL ret l Q G) {a : Int64} (hd : decode bytes pc = .ok (.l2i, 1)) (hq : pc + 1 = q) (K : G k n H q ls (.int (a.toInt32) :: st)) : G k n H pc ls (.long a :: st) := by
  subst hq; exact C.of K fun _ _ _ _ _ _ _ hx hby X s => XS.l2i X hx rfl (hb hby hd) rfl s
theorem own_Wk.i2b (C : own_Wk Z n0 R y bytes maxL ret l Q G) {a : Int32} (hd : decode bytes pc = .ok (.i2b, 1)) (hq : pc + 1 = q) (K : G k n H q ls (.int (a.toInt8.toInt32) :: st)) : G k n H pc ls (.int a :: st) := by
  subst hq; exact C.of K fun _ _ _ _ _ _ _ hx hby X s => XS.i2b X hx rfl (hb hby hd) rfl s
theorem own_Wk.dup (C : own_Wk Z n0 R y bytes maxL ret l Q G) {v : Value} (hd : decode bytes pc = .ok (.dup, 1)) (hc : v.category = 1) (hq : pc + 1 = q) (K : G k n H q ls (v :: v :: st)) : G k n H pc ls (v :: st) := by
  subst hq; exact C.of K fun _ _ _ _ _ _ _ hx hby X s => XS.dup X hx rfl (hb hby hd) rfl hc s
theorem own_Wk.pop (C : own_Wk Z n0 R y bytes maxL ret l Q G) {v : Value} (hd : decode bytes pc = .ok (.pop, 1)) (hc : v.category = 1) (hq : pc + 1 = q) (K : G k n H q ls st) : G k n H pc ls (v :: st) := by
  subst hq; exact C.of K fun _ _ _ _ _ _ _ hx hby X s => XS.pop X hx rfl (hb hby hd) rfl hc s
theorem own_Wk.iinc (C : own_Wk Z n0 R y bytes maxL ret l Q G) {j : Nat} {i : Int} {v z : Int32} (hd : decode bytes pc = .ok (.iinc j i, 3)) (hl : (Array.mk ls)[j]? = some (.val (.int v))) (hz : Int32.ofInt i = z) (hl' : storeLocals (Array.mk ls) j (.int (v + z)) = some (Array.mk ls')) (hq : pc + 3 = q) (K : G k n H q ls' st) : G k n H pc ls st := by
  subst hq hz; exact C.of K fun _ _ _ _ _ _ _ hx hby X s => XS.iinc X hx rfl (hb hby hd) hl hl' s
theorem own_Wk.goto (C : own_Wk Z n0 R y bytes maxL ret l Q G) {o : Int} (hd : decode bytes pc = .ok (.goto o, 3)) (ho : 0 ≤ (pc : Int) + o) (hq : ((pc : Int) + o).toNat = q) (K : G k n H q ls st) : G k n H pc ls st := by
  exact C.of K fun _ _ _ _ _ _ _ hx hby X s => XS.goto X hx rfl rfl (hb hby hd) ho hq s
theorem own_Wk.icmpLt (C : own_Wk Z n0 R y bytes maxL ret l Q G) {a b : Int32} {o : Int} (hd : decode bytes pc = .ok (.if_icmp .lt o, 3)) (ho : 0 ≤ (pc : Int) + o) (hq : ((pc : Int) + o).toNat = q) (hq' : pc + 3 = q') (T : a < b → G k n H q ls st) (F : ¬ a < b → G k n H q' ls st) : G k n H pc ls (.int b :: .int a :: st) := by
  subst hq hq'
  by_cases h : a < b
  · exact C.of (T h) fun _ _ _ _ _ _ _ hx hby X s => XS.icmpYes X hx rfl rfl (hb hby hd) rfl (tlt h).1 ho rfl s
  · exact C.of (F h) fun _ _ _ _ _ _ _ hx hby X s => XS.icmpNo X hx rfl (hb hby hd) rfl (flt h).1 s
theorem own_Wk.ifLt (C : own_Wk Z n0 R y bytes maxL ret l Q G) {a : Int32} {o : Int} (hd : decode bytes pc = .ok (.ifCond .lt o, 3)) (ho : 0 ≤ (pc : Int) + o) (hq : ((pc : Int) + o).toNat = q) (hq' : pc + 3 = q') (T : a < 0 → G k n H q ls st) (F : ¬ a < 0 → G k n H q' ls st) : G k n H pc ls (.int a :: st) := by
  subst hq hq'
  by_cases h : a < 0
  · exact C.of (T h) fun _ _ _ _ _ _ _ hx hby X s => XS.ifYes X hx rfl rfl (hb hby hd) rfl ((if0 _ _).trans (tlt h).1) ho rfl s
  · exact C.of (F h) fun _ _ _ _ _ _ _ hx hby X s => XS.ifNo X hx rfl (hb hby hd) rfl ((if0 _ _).trans (flt h).1) s
theorem own_Wk.icmpGe (C : own_Wk Z n0 R y bytes maxL ret l Q G) {a b : Int32} {o : Int} (hd : decode bytes pc = .ok (.if_icmp .ge o, 3)) (ho : 0 ≤ (pc : Int) + o) (hq : ((pc : Int) + o).toNat = q) (hq' : pc + 3 = q') (T : a < b → G k n H q' ls st) (F : ¬ a < b → G k n H q ls st) : G k n H pc ls (.int b :: .int a :: st) := by
  subst hq hq'
  by_cases h : a < b
  · exact C.of (T h) fun _ _ _ _ _ _ _ hx hby X s => XS.icmpNo X hx rfl (hb hby hd) rfl (tlt h).2.1 s
  · exact C.of (F h) fun _ _ _ _ _ _ _ hx hby X s => XS.icmpYes X hx rfl rfl (hb hby hd) rfl (flt h).2.1 ho rfl s
theorem own_Wk.ifGe (C : own_Wk Z n0 R y bytes maxL ret l Q G) {a : Int32} {o : Int} (hd : decode bytes pc = .ok (.ifCond .ge o, 3)) (ho : 0 ≤ (pc : Int) + o) (hq : ((pc : Int) + o).toNat = q) (hq' : pc + 3 = q') (T : a < 0 → G k n H q' ls st) (F : ¬ a < 0 → G k n H q ls st) : G k n H pc ls (.int a :: st) := by
  subst hq hq'
  by_cases h : a < 0
  · exact C.of (T h) fun _ _ _ _ _ _ _ hx hby X s => XS.ifNo X hx rfl (hb hby hd) rfl ((if0 _ _).trans (tlt h).2.1) s
  · exact C.of (F h) fun _ _ _ _ _ _ _ hx hby X s => XS.ifYes X hx rfl rfl (hb hby hd) rfl ((if0 _ _).trans (flt h).2.1) ho rfl s
theorem own_Wk.icmpGt (C : own_Wk Z n0 R y bytes maxL ret l Q G) {a b : Int32} {o : Int} (hd : decode bytes pc = .ok (.if_icmp .gt o, 3)) (ho : 0 ≤ (pc : Int) + o) (hq : ((pc : Int) + o).toNat = q) (hq' : pc + 3 = q') (T : b < a → G k n H q ls st) (F : ¬ b < a → G k n H q' ls st) : G k n H pc ls (.int b :: .int a :: st) := by
  subst hq hq'
  by_cases h : b < a
  · exact C.of (T h) fun _ _ _ _ _ _ _ hx hby X s => XS.icmpYes X hx rfl rfl (hb hby hd) rfl (tlt h).2.2.1 ho rfl s
  · exact C.of (F h) fun _ _ _ _ _ _ _ hx hby X s => XS.icmpNo X hx rfl (hb hby hd) rfl (flt h).2.2.1 s
theorem own_Wk.ifGt (C : own_Wk Z n0 R y bytes maxL ret l Q G) {a : Int32} {o : Int} (hd : decode bytes pc = .ok (.ifCond .gt o, 3)) (ho : 0 ≤ (pc : Int) + o) (hq : ((pc : Int) + o).toNat = q) (hq' : pc + 3 = q') (T : 0 < a → G k n H q ls st) (F : ¬ 0 < a → G k n H q' ls st) : G k n H pc ls (.int a :: st) := by
  subst hq hq'
  by_cases h : 0 < a
  · exact C.of (T h) fun _ _ _ _ _ _ _ hx hby X s => XS.ifYes X hx rfl rfl (hb hby hd) rfl ((if0 _ _).trans (tlt h).2.2.1) ho rfl s
  · exact C.of (F h) fun _ _ _ _ _ _ _ hx hby X s => XS.ifNo X hx rfl (hb hby hd) rfl ((if0 _ _).trans (flt h).2.2.1) s
theorem own_Wk.icmpLe (C : own_Wk Z n0 R y bytes maxL ret l Q G) {a b : Int32} {o : Int} (hd : decode bytes pc = .ok (.if_icmp .le o, 3)) (ho : 0 ≤ (pc : Int) + o) (hq : ((pc : Int) + o).toNat = q) (hq' : pc + 3 = q') (T : b < a → G k n H q' ls st) (F : ¬ b < a → G k n H q ls st) : G k n H pc ls (.int b :: .int a :: st) := by
  subst hq hq'
  by_cases h : b < a
  · exact C.of (T h) fun _ _ _ _ _ _ _ hx hby X s => XS.icmpNo X hx rfl (hb hby hd) rfl (tlt h).2.2.2 s
  · exact C.of (F h) fun _ _ _ _ _ _ _ hx hby X s => XS.icmpYes X hx rfl rfl (hb hby hd) rfl (flt h).2.2.2 ho rfl s
theorem own_Wk.ifLe (C : own_Wk Z n0 R y bytes maxL ret l Q G) {a : Int32} {o : Int} (hd : decode bytes pc = .ok (.ifCond .le o, 3)) (ho : 0 ≤ (pc : Int) + o) (hq : ((pc : Int) + o).toNat = q) (hq' : pc + 3 = q') (T : 0 < a → G k n H q' ls st) (F : ¬ 0 < a → G k n H q ls st) : G k n H pc ls (.int a :: st) := by
  subst hq hq'
  by_cases h : 0 < a
  · exact C.of (T h) fun _ _ _ _ _ _ _ hx hby X s => XS.ifNo X hx rfl (hb hby hd) rfl ((if0 _ _).trans (tlt h).2.2.2) s
  · exact C.of (F h) fun _ _ _ _ _ _ _ hx hby X s => XS.ifYes X hx rfl rfl (hb hby hd) rfl ((if0 _ _).trans (flt h).2.2.2) ho rfl s
theorem own_Wk.icmpEq (C : own_Wk Z n0 R y bytes maxL ret l Q G) {a b : Int32} {o : Int} (hd : decode bytes pc = .ok (.if_icmp .eq o, 3)) (ho : 0 ≤ (pc : Int) + o) (hq : ((pc : Int) + o).toNat = q) (hq' : pc + 3 = q') (T : a = b → G k n H q ls st) (F : ¬ a = b → G k n H q' ls st) : G k n H pc ls (.int b :: .int a :: st) := by
  subst hq hq'
  by_cases h : a = b
  · exact C.of (T h) fun _ _ _ _ _ _ _ hx hby X s => XS.icmpYes X hx rfl rfl (hb hby hd) rfl (teq h).1 ho rfl s
  · exact C.of (F h) fun _ _ _ _ _ _ _ hx hby X s => XS.icmpNo X hx rfl (hb hby hd) rfl (feq h).1 s
theorem own_Wk.ifEq (C : own_Wk Z n0 R y bytes maxL ret l Q G) {a : Int32} {o : Int} (hd : decode bytes pc = .ok (.ifCond .eq o, 3)) (ho : 0 ≤ (pc : Int) + o) (hq : ((pc : Int) + o).toNat = q) (hq' : pc + 3 = q') (T : a = 0 → G k n H q ls st) (F : ¬ a = 0 → G k n H q' ls st) : G k n H pc ls (.int a :: st) := by
  subst hq hq'
  by_cases h : a = 0
  · exact C.of (T h) fun _ _ _ _ _ _ _ hx hby X s => XS.ifYes X hx rfl rfl (hb hby hd) rfl ((if0 _ _).trans (teq h).1) ho rfl s
  · exact C.of (F h) fun _ _ _ _ _ _ _ hx hby X s => XS.ifNo X hx rfl (hb hby hd) rfl ((if0 _ _).trans (feq h).1) s
theorem own_Wk.icmpNe (C : own_Wk Z n0 R y bytes maxL ret l Q G) {a b : Int32} {o : Int} (hd : decode bytes pc = .ok (.if_icmp .ne o, 3)) (ho : 0 ≤ (pc : Int) + o) (hq : ((pc : Int) + o).toNat = q) (hq' : pc + 3 = q') (T : a = b → G k n H q' ls st) (F : ¬ a = b → G k n H q ls st) : G k n H pc ls (.int b :: .int a :: st) := by
  subst hq hq'
  by_cases h : a = b
  · exact C.of (T h) fun _ _ _ _ _ _ _ hx hby X s => XS.icmpNo X hx rfl (hb hby hd) rfl (teq h).2 s
  · exact C.of (F h) fun _ _ _ _ _ _ _ hx hby X s => XS.icmpYes X hx rfl rfl (hb hby hd) rfl (feq h).2 ho rfl s
theorem own_Wk.ifNe (C : own_Wk Z n0 R y bytes maxL ret l Q G) {a : Int32} {o : Int} (hd : decode bytes pc = .ok (.ifCond .ne o, 3)) (ho : 0 ≤ (pc : Int) + o) (hq : ((pc : Int) + o).toNat = q) (hq' : pc + 3 = q') (T : a = 0 → G k n H q' ls st) (F : ¬ a = 0 → G k n H q ls st) : G k n H pc ls (.int a :: st) := by
  subst hq hq'
  by_cases h : a = 0
  · exact C.of (T h) fun _ _ _ _ _ _ _ hx hby X s => XS.ifNo X hx rfl (hb hby hd) rfl ((if0 _ _).trans (teq h).2) s
  · exact C.of (F h) fun _ _ _ _ _ _ _ hx hby X s => XS.ifYes X hx rfl rfl (hb hby hd) rfl ((if0 _ _).trans (feq h).2) ho rfl s
theorem own_Wk.lcmp0 (C : own_Wk Z n0 R y bytes maxL ret l Q G) {a b : Int64} (hd : decode bytes pc = .ok (.lcmp, 1)) (hq : pc + 1 = q) (K : G k n H q ls (.int (lcmpW a b) :: st)) : G k n H pc ls (.long b :: .long a :: st) := by
  subst hq; exact C.of K fun _ _ _ _ _ _ _ hx hby X s => XS.lcmp X hx rfl (hb hby hd) rfl s
theorem own_Wk.lcmpLt (C : own_Wk Z n0 R y bytes maxL ret l Q G) {a b : Int64} {o : Int} (hd : decode bytes pc = .ok (.lcmp, 1)) {q1 : Nat} (h1 : pc + 1 = q1) (hd1 : decode bytes q1 = .ok (.ifCond .lt o, 3)) (ho : 0 ≤ (q1 : Int) + o) (hq : ((q1 : Int) + o).toNat = q) (hq' : q1 + 3 = q') (T : a < b → G k n H q ls st) (F : ¬ a < b → G k n H q' ls st) : G k n H pc ls (.long b :: .long a :: st) :=
  C.lcmp0 hd h1 (C.ifLt hd1 ho hq hq' (fun h => T ((lw_lt a b).mp h)) (fun h => F fun h' => h ((lw_lt a b).mpr h')))
theorem own_Wk.lcmpGe (C : own_Wk Z n0 R y bytes maxL ret l Q G) {a b : Int64} {o : Int} (hd : decode bytes pc = .ok (.lcmp, 1)) {q1 : Nat} (h1 : pc + 1 = q1) (hd1 : decode bytes q1 = .ok (.ifCond .ge o, 3)) (ho : 0 ≤ (q1 : Int) + o) (hq : ((q1 : Int) + o).toNat = q) (hq' : q1 + 3 = q') (T : a < b → G k n H q' ls st) (F : ¬ a < b → G k n H q ls st) : G k n H pc ls (.long b :: .long a :: st) :=
  C.lcmp0 hd h1 (C.ifGe hd1 ho hq hq' (fun h => T ((lw_lt a b).mp h)) (fun h => F fun h' => h ((lw_lt a b).mpr h')))
theorem own_Wk.lcmpGt (C : own_Wk Z n0 R y bytes maxL ret l Q G) {a b : Int64} {o : Int} (hd : decode bytes pc = .ok (.lcmp, 1)) {q1 : Nat} (h1 : pc + 1 = q1) (hd1 : decode bytes q1 = .ok (.ifCond .gt o, 3)) (ho : 0 ≤ (q1 : Int) + o) (hq : ((q1 : Int) + o).toNat = q) (hq' : q1 + 3 = q') (T : b < a → G k n H q ls st) (F : ¬ b < a → G k n H q' ls st) : G k n H pc ls (.long b :: .long a :: st) :=
  C.lcmp0 hd h1 (C.ifGt hd1 ho hq hq' (fun h => T ((lw_gt a b).mp h)) (fun h => F fun h' => h ((lw_gt a b).mpr h')))
theorem own_Wk.lcmpLe (C : own_Wk Z n0 R y bytes maxL ret l Q G) {a b : Int64} {o : Int} (hd : decode bytes pc = .ok (.lcmp, 1)) {q1 : Nat} (h1 : pc + 1 = q1) (hd1 : decode bytes q1 = .ok (.ifCond .le o, 3)) (ho : 0 ≤ (q1 : Int) + o) (hq : ((q1 : Int) + o).toNat = q) (hq' : q1 + 3 = q') (T : b < a → G k n H q' ls st) (F : ¬ b < a → G k n H q ls st) : G k n H pc ls (.long b :: .long a :: st) :=
  C.lcmp0 hd h1 (C.ifLe hd1 ho hq hq' (fun h => T ((lw_gt a b).mp h)) (fun h => F fun h' => h ((lw_gt a b).mpr h')))
theorem own_Wk.lcmpEq (C : own_Wk Z n0 R y bytes maxL ret l Q G) {a b : Int64} {o : Int} (hd : decode bytes pc = .ok (.lcmp, 1)) {q1 : Nat} (h1 : pc + 1 = q1) (hd1 : decode bytes q1 = .ok (.ifCond .eq o, 3)) (ho : 0 ≤ (q1 : Int) + o) (hq : ((q1 : Int) + o).toNat = q) (hq' : q1 + 3 = q') (T : a = b → G k n H q ls st) (F : ¬ a = b → G k n H q' ls st) : G k n H pc ls (.long b :: .long a :: st) :=
  C.lcmp0 hd h1 (C.ifEq hd1 ho hq hq' (fun h => T ((lw_eq a b).mp h)) (fun h => F fun h' => h ((lw_eq a b).mpr h')))
theorem own_Wk.lcmpNe (C : own_Wk Z n0 R y bytes maxL ret l Q G) {a b : Int64} {o : Int} (hd : decode bytes pc = .ok (.lcmp, 1)) {q1 : Nat} (h1 : pc + 1 = q1) (hd1 : decode bytes q1 = .ok (.ifCond .ne o, 3)) (ho : 0 ≤ (q1 : Int) + o) (hq : ((q1 : Int) + o).toNat = q) (hq' : q1 + 3 = q') (T : a = b → G k n H q' ls st) (F : ¬ a = b → G k n H q ls st) : G k n H pc ls (.long b :: .long a :: st) :=
  C.lcmp0 hd h1 (C.ifNe hd1 ho hq hq' (fun h => T ((lw_eq a b).mp h)) (fun h => F fun h' => h ((lw_eq a b).mpr h')))
theorem own_Wk.nonnullY (C : own_Wk Z n0 R y bytes maxL ret l Q G) {b : Addr} {o : Int} (hd : decode bytes pc = .ok (.ifnonnull o, 3)) (ho : 0 ≤ (pc : Int) + o) (hq : ((pc : Int) + o).toNat = q) (K : G k n H q ls st) : G k n H pc ls (.ref b :: st) := by
  exact C.of K fun _ _ _ _ _ _ _ hx hby X s => XS.ifnonnullYes X hx rfl rfl (hb hby hd) rfl ho hq s
theorem own_Wk.nonnullN (C : own_Wk Z n0 R y bytes maxL ret l Q G) {o : Int} (hd : decode bytes pc = .ok (.ifnonnull o, 3)) (hq : pc + 3 = q) (K : G k n H q ls st) : G k n H pc ls (.null :: st) := by
  subst hq; exact C.of K fun _ _ _ _ _ _ _ hx hby X s => XS.ifnonnullNo X hx rfl (hb hby hd) rfl s
theorem own_Wk.ldc (C : own_Wk Z n0 R y bytes maxL ret l Q G) {i : Nat} {v : Int32} (hd : decode bytes pc = .ok (.ldc i, 2)) (w : (Jvm.Cond.constant y.cls i v).before a0 Z = true) (hq : pc + 2 = q) (K : G k n H q ls (.int v :: st)) : G k n H pc ls st := by
  subst hq
  obtain ⟨p, e, s, m, args, below, meth, c, rfl, hx, hZ, hby, hml, hown, hnm, hret, hlk⟩ := C
  intro T L X N hH
  obtain ⟨t, o, stp, P⟩ := K T L X N hH
  exact ⟨t, o, X.ldcInt hx hown (mvT hZ w) (g := mkF m pc ⟨ls⟩ st) rfl (hb hby hd) _ stp, P⟩
theorem own_Wk.ldc2 (C : own_Wk Z n0 R y bytes maxL ret l Q G) {i : Nat} {v : Int64} (hd : decode bytes pc = .ok (.ldc2_w i, 3)) (w : (Jvm.Cond.constantLong y.cls i v).before a0 Z = true) (hq : pc + 3 = q) (K : G k n H q ls (.long v :: st)) : G k n H pc ls st := by
  subst hq
  obtain ⟨p, e, s, m, args, below, meth, c, rfl, hx, hZ, hby, hml, hown, hnm, hret, hlk⟩ := C
  intro T L X N hH
  obtain ⟨t, o, stp, P⟩ := K T L X N hH
  exact ⟨t, o, X.ldc2Long hx hown (mvT hZ w) (g := mkF m pc ⟨ls⟩ st) rfl (hb hby hd) _ stp, P⟩
-- returns
theorem own_Wk.retI {z : Int32} (C : own_Wk Z n0 R y bytes maxL (some .int) l Q G) (hd : decode bytes pc = .ok (.ireturn, 1)) (hk : k ≤ R.cells) (hn : n ≤ R.slots) (hQ : Q (some (.int z)) H) : G k n H pc ls (.int z :: st) := by
  obtain ⟨p, e, s, m, args, below, meth, c, rfl, hx, hZ, hby, hml, hown, hnm, hret, hlk⟩ := C
  intro T L X N hH
  obtain ⟨fs, hr, hrun, hended, hW, hsame⟩ := X.leave (v := some (.int z)) (fun h => by rw [hret] at h; cases h) hlk
  exact ⟨_, _, retOut X hx hret rfl (Or.inl ⟨rfl, Or.inl rfl, z, rfl⟩) (hb hby hd) hr, hrun, hended, _, _, rfl, ⟨N, H, hH, hQ⟩, ⟨_, rfl⟩, hW, hsame.mono hk hn⟩
theorem own_Wk.retJ {z : Int64} (C : own_Wk Z n0 R y bytes maxL (some .long) l Q G) (hd : decode bytes pc = .ok (.lreturn, 1)) (hk : k ≤ R.cells) (hn : n ≤ R.slots) (hQ : Q (some (.long z)) H) : G k n H pc ls (.long z :: st) := by
  obtain ⟨p, e, s, m, args, below, meth, c, rfl, hx, hZ, hby, hml, hown, hnm, hret, hlk⟩ := C
  intro T L X N hH
  obtain ⟨fs, hr, hrun, hended, hW, hsame⟩ := X.leave (v := some (.long z)) (fun h => by rw [hret] at h; cases h) hlk
  exact ⟨_, _, retOut X hx hret rfl (Or.inr (Or.inl ⟨rfl, rfl, z, rfl⟩)) (hb hby hd) hr, hrun, hended, _, _, rfl, ⟨N, H, hH, hQ⟩, ⟨_, rfl⟩, hW, hsame.mono hk hn⟩
theorem own_Wk.retA {t : FieldType} {v : Value} (C : own_Wk Z n0 R y bytes maxL (some t) l Q G) (ht : t.isReference = true) (hn' : narrow t v = v) (hv : v.isRef = true) (hd : decode bytes pc = .ok (.areturn, 1)) (hk : k ≤ R.cells) (hn : n ≤ R.slots) (hQ : Q (some v) H) : G k n H pc ls (v :: st) := by
  obtain ⟨p, e, s, m, args, below, meth, c, rfl, hx, hZ, hby, hml, hown, hnm, hret, hlk⟩ := C
  intro T L X N hH
  obtain ⟨fs, hr, hrun, hended, hW, hsame⟩ := X.leave (v := some v) (fun h => by rw [hret] at h; cases h) hlk
  exact ⟨_, _, retOut X hx hret hn' (Or.inr (Or.inr (Or.inr (Or.inr ⟨rfl, ht, hv⟩)))) (hb hby hd) hr, hrun, hended, _, _, rfl, ⟨N, H, hH, hQ⟩, ⟨_, rfl⟩, hW, hsame.mono hk hn⟩
theorem own_Wk.retB {t : FieldType} {z : Int32} (C : own_Wk Z n0 R y bytes maxL (some t) l Q G) (ht : t = .boolean ∨ t = .byte ∨ t = .char ∨ t = .short) (hd : decode bytes pc = .ok (.ireturn, 1)) (hk : k ≤ R.cells) (hn : n ≤ R.slots) (hQ : Q (some (.int (nar t z))) H) : G k n H pc ls (.int z :: st) := by
  obtain ⟨p, e, s, m, args, below, meth, c, rfl, hx, hZ, hby, hml, hown, hnm, hret, hlk⟩ := C
  intro T L X N hH
  obtain ⟨fs, hr, hrun, hended, hW, hsame⟩ := X.leave (v := some (.int (nar t z))) (fun h => by rw [hret] at h; cases h) hlk
  exact ⟨_, _, retN X hx hret ht (hb hby hd) hr, hrun, hended, _, _, rfl, ⟨N, H, hH, hQ⟩, ⟨_, rfl⟩, hW, hsame.mono hk hn⟩
theorem own_Wk.retV (C : own_Wk Z n0 R y bytes maxL none l Q G) (hd : decode bytes pc = .ok (.return_, 1)) (hk : k ≤ R.cells) (hn : n ≤ R.slots) (hQ : Q none H) : G k n H pc ls [] := by
  obtain ⟨p, e, s, m, args, below, meth, c, rfl, hx, hZ, hby, hml, hown, hnm, hret, hlk⟩ := C
  intro T L X N hH
  obtain ⟨fs, hr, hrun, hended, hW, hsame⟩ := X.leave (v := none) (fun _ => rfl) hlk
  exact ⟨_, _, X.returnOut hx hret (hb hby hd) hr, hrun, hended, _, _, rfl, ⟨N, H, hH, hQ⟩, ⟨_, rfl⟩, hW, hsame.mono hk hn⟩
-- the abstract heap
theorem own_is_ext {h h' : Heap} {a : Addr} {o : own_Ob} (E : Ext h h') (F : own_is Z h a o) : own_is Z h' a o := by
  match o, F with
  | .inl q, F => obtain ⟨c, A, r⟩ := F; exact ⟨c, A.ext E, r⟩
  | .inr q, F => exact ⟨F.1.ext E, F.2.1, fun i f hf => (F.2.2 i f hf).ext E⟩
theorem own_is_ne {h h' : Heap} {a b : Addr} {sl : Nat} {v : Value} {o : own_Ob} (W : Wr h h' a sl v) (hne : b ≠ a) (F : own_is Z h b o) : own_is Z h' b o := by
  match o, F with
  | .inl q, F => obtain ⟨c, A, r⟩ := F; exact ⟨c, A.other W hne, r⟩
  | .inr q, F => exact ⟨F.1.wr W, F.2.1, fun i f hf => (F.2.2 i f hf).other W (Or.inl hne)⟩
theorem own_Hp_new {h h' : Heap} {o : own_Ob} (P : own_Hp Z n0 h H) (E : Ext h h') (hlt : h.size < h'.size) (F : own_is Z h' h.size o) : own_Hp Z n0 h' (H ++ [(h.size, o)]) := by
  obtain ⟨p1, p2, p3⟩ := P
  have key : ∀ (i : Nat) (a : Addr) (o' : own_Ob), (H ++ [(h.size, o)])[i]? = some (a, o') → (H[i]? = some (a, o') ∧ i < H.length) ∨ (i = H.length ∧ a = h.size ∧ o' = o) := by
    intro i a o' hi
    by_cases q : i < H.length
    · rw [List.getElem?_append_left q] at hi; exact Or.inl ⟨hi, q⟩
    · rw [List.getElem?_append_right (by omega)] at hi
      obtain ⟨j, hj⟩ : ∃ j, j = i - H.length := ⟨_, rfl⟩
      rw [← hj] at hi
      match j, hj, hi with
      | 0, hj, hi => exact Or.inr ⟨by omega, by simpa using (Prod.mk.inj (Option.some.inj hi)).1.symm, by simpa using (Prod.mk.inj (Option.some.inj hi)).2.symm⟩
      | j + 1, _, hi => simp at hi
  refine ⟨Nat.le_trans p1 E.1, fun i j a o1 o2 hi hj => ?_, fun i a o' hi => ?_⟩
  · rcases key i a o1 hi with ⟨h1, l1⟩ | ⟨h1, h2, -⟩ <;> rcases key j a o2 hj with ⟨g1, l2⟩ | ⟨g1, g2, -⟩
    · exact p2 i j a o1 o2 h1 g1
    · exact absurd (p3 i a o1 h1).2.1 (by rw [g2]; exact Nat.lt_irrefl _)
    · exact absurd (p3 j a o2 g1).2.1 (by rw [h2]; exact Nat.lt_irrefl _)
    · rw [h1, g1]
  · rcases key i a o' hi with ⟨h1, -⟩ | ⟨-, rfl, rfl⟩
    · obtain ⟨r1, r2, r3⟩ := p3 i a o' h1
      exact ⟨r1, Nat.lt_of_lt_of_le r2 E.1, own_is_ext E r3⟩
    · exact ⟨p1, hlt, F⟩
theorem own_Hp_set {h h' : Heap} {i : Nat} {a : Addr} {o o' : own_Ob} {sl : Nat} {v : Value} (P : own_Hp Z n0 h H) (hi : H[i]? = some (a, o)) (W : Wr h h' a sl v) (F : own_is Z h' a o') : own_Hp Z n0 h' (H.set i (a, o')) := by
  obtain ⟨p1, p2, p3⟩ := P
  have key : ∀ (j : Nat) (b : Addr) (ob : own_Ob), (H.set i (a, o'))[j]? = some (b, ob) → (j = i ∧ b = a ∧ ob = o') ∨ (j ≠ i ∧ H[j]? = some (b, ob)) := by
    intro j b ob hj
    rw [List.getElem?_set] at hj
    by_cases q : i = j
    · subst q
      rw [if_pos rfl] at hj
      split at hj
      · exact Or.inl ⟨rfl, (Prod.mk.inj (Option.some.inj hj)).1.symm, (Prod.mk.inj (Option.some.inj hj)).2.symm⟩
      · cases hj
    · rw [if_neg q] at hj; exact Or.inr ⟨fun z => q z.symm, hj⟩
  refine ⟨by rw [W.size]; exact p1, fun j j' b o1 o2 hj hj' => ?_, fun j b ob hj => ?_⟩
  · rcases key j b o1 hj with ⟨h1, h2, -⟩ | ⟨h1, h2⟩ <;> rcases key j' b o2 hj' with ⟨g1, g2, -⟩ | ⟨g1, g2⟩
    · rw [h1, g1]
    · subst h2; rw [h1]; exact p2 i j' _ o o2 hi g2
    · subst g2; rw [g1]; exact (p2 i j _ o o1 hi h2).symm
    · exact p2 j j' b o1 o2 h2 g2
  · rw [W.size]
    rcases key j b ob hj with ⟨-, rfl, rfl⟩ | ⟨h1, h2⟩
    · obtain ⟨r1, r2, -⟩ := p3 i _ _ hi; exact ⟨r1, r2, F⟩
    · obtain ⟨r1, r2, r3⟩ := p3 j b ob h2
      exact ⟨r1, r2, own_is_ne W (fun z => h1 (by subst z; exact (p2 i j _ o ob hi h2).symm)) r3⟩
-- arrays
theorem own_Wk.alen (C : own_Wk Z n0 R y bytes maxL ret l Q G) (i : Nat) {a : Addr} {ty : FieldType} {vs : List Value} {z : Int32} (hd : decode bytes pc = .ok (.arraylength, 1)) (hi : H[i]? = some (a, .inl (ty, vs))) (hz : vs.length.toInt32 = z) (hq : pc + 1 = q) (K : G k n H q ls (.int z :: st)) : G k n H pc ls (.ref a :: st) := by
  subst hq hz
  obtain ⟨p, e, s, m, args, below, meth, c, rfl, hx, hZ, hby, hml, hown, hnm, hret, hlk⟩ := C
  intro T L X N hH
  obtain ⟨-, -, cl, A, hc⟩ := hH.2.2 i _ _ hi
  obtain ⟨t, o, stp, P⟩ := K T L X N hH
  have hc' : cl.slots.toList = vs := hc
  refine ⟨t, o, X.arraylength hx (cell := cl) A.1 (State.isArrayOf_alike hZ.alike A.2.1) (g := mkF m pc ⟨ls⟩ (.ref a :: st)) rfl rfl (hb hby hd) _ ?_, P⟩
  rw [show cl.slots.size = vs.length by rw [← hc', Array.length_toList]]
  exact stp
theorem own_at {cl : Cell} {vs : List Value} {j : Int32} {v : Value} (hc : cl.slots.toList = vs) (h0 : ¬ j < 0) (hv : vs[j.toNatClampNeg]? = some v) : ¬ (j < 0 ∨ cl.slots.size ≤ j.toNatClampNeg) ∧ cl.slots[j.toNatClampNeg]? = some v := by
  rw [← hc, Array.getElem?_toList] at hv
  exact ⟨fun z => z.elim h0 fun z => by have := (Array.getElem?_eq_some_iff.mp hv).1; omega, hv⟩
theorem own_in {cl : Cell} {vs : List Value} {j : Int32} (hc : cl.slots.toList = vs) (h0 : ¬ j < 0) (hj : j.toNatClampNeg < vs.length) : ¬ (j < 0 ∨ cl.slots.size ≤ j.toNatClampNeg) :=
  fun z => z.elim h0 fun z => by rw [← hc, Array.length_toList] at hj; omega
theorem own_Wk.iaload (C : own_Wk Z n0 R y bytes maxL ret l Q G) (i : Nat) {a : Addr} {vs : List Value} {j : Int32} {v : Value} (hd : decode bytes pc = .ok (.iaload, 1)) (hi : H[i]? = some (a, .inl (.int, vs))) (h0 : ¬ j < 0) (hv : vs[j.toNatClampNeg]? = some v) (hq : pc + 1 = q) (K : G k n H q ls (v :: st)) : G k n H pc ls (.int j :: .ref a :: st) := by
  subst hq
  obtain ⟨p, e, s, m, args, below, meth, c, rfl, hx, hZ, hby, hml, hown, hnm, hret, hlk⟩ := C
  intro T L X N hH
  obtain ⟨-, -, cl, A, hc⟩ := hH.2.2 i _ _ hi
  obtain ⟨t, o, stp, P⟩ := K T L X N hH
  have q2 := own_at hc h0 hv
  exact ⟨t, o, X.iaload hx (j := j) (v := v) A.1 (State.isArrayOf_alike hZ.alike A.2.1) A.2.2 q2.1 q2.2 (g := mkF m pc ⟨ls⟩ (.int j :: .ref a :: st)) rfl rfl (hb hby hd) _ stp, P⟩
theorem own_Wk.laload (C : own_Wk Z n0 R y bytes maxL ret l Q G) (i : Nat) {a : Addr} {vs : List Value} {j : Int32} {v : Value} (hd : decode bytes pc = .ok (.laload, 1)) (hi : H[i]? = some (a, .inl (.long, vs))) (h0 : ¬ j < 0) (hv : vs[j.toNatClampNeg]? = some v) (hq : pc + 1 = q) (K : G k n H q ls (v :: st)) : G k n H pc ls (.int j :: .ref a :: st) := by
  subst hq
  obtain ⟨p, e, s, m, args, below, meth, c, rfl, hx, hZ, hby, hml, hown, hnm, hret, hlk⟩ := C
  intro T L X N hH
  obtain ⟨-, -, cl, A, hc⟩ := hH.2.2 i _ _ hi
  obtain ⟨t, o, stp, P⟩ := K T L X N hH
  have q2 := own_at hc h0 hv
  exact ⟨t, o, X.laload hx (j := j) (v := v) A.1 (State.isArrayOf_alike hZ.alike A.2.1) A.2.2 q2.1 q2.2 (g := mkF m pc ⟨ls⟩ (.int j :: .ref a :: st)) rfl rfl (hb hby hd) _ stp, P⟩
theorem own_Wk.baload (C : own_Wk Z n0 R y bytes maxL ret l Q G) (i : Nat) {a : Addr} {vs : List Value} {j : Int32} {v : Value} (hd : decode bytes pc = .ok (.baload, 1)) (hi : H[i]? = some (a, .inl (.byte, vs))) (h0 : ¬ j < 0) (hv : vs[j.toNatClampNeg]? = some v) (hq : pc + 1 = q) (K : G k n H q ls (v :: st)) : G k n H pc ls (.int j :: .ref a :: st) := by
  subst hq
  obtain ⟨p, e, s, m, args, below, meth, c, rfl, hx, hZ, hby, hml, hown, hnm, hret, hlk⟩ := C
  intro T L X N hH
  obtain ⟨-, -, cl, A, hc⟩ := hH.2.2 i _ _ hi
  obtain ⟨t, o, stp, P⟩ := K T L X N hH
  have q2 := own_at hc h0 hv
  exact ⟨t, o, X.baloadBytes hx (j := j) (v := v) A.1 (State.isArrayOf_alike hZ.alike A.2.1) A.2.2 q2.1 q2.2 (g := mkF m pc ⟨ls⟩ (.int j :: .ref a :: st)) rfl rfl (hb hby hd) _ stp, P⟩
theorem own_arr_set {h h' : Heap} {a : Addr} {cl : Cell} {ty : FieldType} {vs : List Value} {j : Nat} {v : Value} (A : Arr Z h a cl ty) (hc : cl.slots.toList = vs) (W : Wr h h' a j v) : own_is Z h' a (.inl (ty, vs.set j v)) := by
  refine ⟨cl.setSlot j v, A.same W, ?_⟩
  show (cl.slots.setIfInBounds j v).toList = vs.set j v
  rw [Array.toList_setIfInBounds, hc]
theorem own_Wk.iastore (C : own_Wk Z n0 R y bytes maxL ret l Q G) (i : Nat) {a : Addr} {vs : List Value} {j x : Int32} {H' : own_Hs} (hd : decode bytes pc = .ok (.iastore, 1)) (hi : H[i]? = some (a, .inl (.int, vs))) (h0 : ¬ j < 0) (hj : j.toNatClampNeg < vs.length) (hH' : H.set i (a, .inl (.int, vs.set j.toNatClampNeg (.int x))) = H') (hq : pc + 1 = q) (K : G k n H' q ls st) : G k n H pc ls (.int x :: .int j :: .ref a :: st) := by
  subst hq hH'
  obtain ⟨p, e, s, m, args, below, meth, c, rfl, hx, hZ, hby, hml, hown, hnm, hret, hlk⟩ := C
  intro T L X N hH
  obtain ⟨g1, -, cl, A, hc⟩ := hH.2.2 i _ _ hi
  obtain ⟨T', h', X', e', W, stp⟩ := stI X hx hZ rfl A (own_in hc h0 hj) (g := mkF m pc ⟨ls⟩ (.int x :: .int j :: .ref a :: st)) rfl rfl (hb hby hd)
  obtain ⟨t, o, st2, P⟩ := K T' _ X' (Fr.snoc X' N g1) (by rw [e']; exact own_Hp_set hH hi W (own_arr_set A hc W))
  exact ⟨t, o, stp _ st2, P⟩
theorem own_Wk.lastore (C : own_Wk Z n0 R y bytes maxL ret l Q G) (i : Nat) {a : Addr} {vs : List Value} {j : Int32} {x : Int64} {H' : own_Hs} (hd : decode bytes pc = .ok (.lastore, 1)) (hi : H[i]? = some (a, .inl (.long, vs))) (h0 : ¬ j < 0) (hj : j.toNatClampNeg < vs.length) (hH' : H.set i (a, .inl (.long, vs.set j.toNatClampNeg (.long x))) = H') (hq : pc + 1 = q) (K : G k n H' q ls st) : G k n H pc ls (.long x :: .int j :: .ref a :: st) := by
  subst hq hH'
  obtain ⟨p, e, s, m, args, below, meth, c, rfl, hx, hZ, hby, hml, hown, hnm, hret, hlk⟩ := C
  intro T L X N hH
  obtain ⟨g1, -, cl, A, hc⟩ := hH.2.2 i _ _ hi
  obtain ⟨T', h', X', e', W, stp⟩ := stJ X hx hZ rfl A (own_in hc h0 hj) (g := mkF m pc ⟨ls⟩ (.long x :: .int j :: .ref a :: st)) rfl rfl (hb hby hd)
  obtain ⟨t, o, st2, P⟩ := K T' _ X' (Fr.snoc X' N g1) (by rw [e']; exact own_Hp_set hH hi W (own_arr_set A hc W))
  exact ⟨t, o, stp _ st2, P⟩
theorem own_Wk.bastore (C : own_Wk Z n0 R y bytes maxL ret l Q G) (i : Nat) {a : Addr} {vs : List Value} {j x : Int32} {H' : own_Hs} (hd : decode bytes pc = .ok (.bastore, 1)) (hi : H[i]? = some (a, .inl (.byte, vs))) (h0 : ¬ j < 0) (hj : j.toNatClampNeg < vs.length) (hH' : H.set i (a, .inl (.byte, vs.set j.toNatClampNeg (.int (nar .byte x)))) = H') (hq : pc + 1 = q) (K : G k n H' q ls st) : G k n H pc ls (.int x :: .int j :: .ref a :: st) := by
  subst hq hH'
  obtain ⟨p, e, s, m, args, below, meth, c, rfl, hx, hZ, hby, hml, hown, hnm, hret, hlk⟩ := C
  intro T L X N hH
  obtain ⟨g1, -, cl, A, hc⟩ := hH.2.2 i _ _ hi
  obtain ⟨T', h', X', e', W, stp⟩ := stB X hx hZ rfl A (own_in hc h0 hj) (g := mkF m pc ⟨ls⟩ (.int x :: .int j :: .ref a :: st)) rfl rfl (hb hby hd)
  obtain ⟨t, o, st2, P⟩ := K T' _ X' (Fr.snoc X' N g1) (by rw [e']; exact own_Hp_set hH hi W (own_arr_set A hc W))
  exact ⟨t, o, stp _ st2, P⟩
theorem own_Wk.newarr (C : own_Wk Z n0 R y bytes maxL ret l Q G) (cap : Nat) {aty : ArrayType} {z : Int32} {ty : FieldType} {vs : List Value} {k' n' : Nat} (hd : decode bytes pc = .ok (.newarray aty, 2)) (w : (Jvm.Cond.arrayClass (newarray.typeOf aty)).before a0 Z = true) (hz : ¬ z < 0) (hcap : z.toNatClampNeg ≤ cap) (hb8 : cap * 8 ≤ 536870912) (hc : k + 1 ≤ R.cells) (hl : n + cap ≤ R.slots)
    (hty : newarray.typeOf aty = ty) (hvs : List.replicate z.toNatClampNeg (defaultValue ty) = vs) (hk' : k + 1 = k') (hn' : n + cap = n') (hq : pc + 2 = q) (K : ∀ a, G k' n' (H ++ [(a, .inl (ty, vs))]) q ls (.ref a :: st)) : G k n H pc ls (.int z :: st) := by
  subst hq hvs hty hk' hn'
  obtain ⟨p, e, s, m, args, below, meth, c, rfl, hx, hZ, hby, hml, hown, hnm, hret, hlk⟩ := C
  intro T L X N hH
  obtain ⟨T', h', cA, X', e', E, A, stp⟩ := newP X hx hZ w rfl (g := mkF m pc ⟨ls⟩ (.int z :: st)) rfl (hb hby hd) rfl hz hcap hb8 hc hl
  obtain ⟨t, o, st2, P⟩ := K T.heap.size T' _ X' N (by
    rw [e']
    refine own_Hp_new hH E A.lt ⟨_, A, ?_⟩
    show (newA cA (newarray.typeOf aty) z).slots.toList = _
    simp only [newA, Array.toList_replicate])
  exact ⟨t, o, stp _ st2, P⟩
-- objects
def own_Laid (Z : State) (a0 : Array Value) (Cn : String) : List (String × String × FieldType) → Prop
  | [] => True
  | d :: r => (Laid Z a0 Cn Cn d.1 d.2.1 ∧ parseFieldDescriptor d.2.1 = some d.2.2) ∧ own_Laid Z a0 Cn r
theorem own_Laid.at {Cn : String} : ∀ {ds : List (String × String × FieldType)} {i : Nat} {d : String × String × FieldType}, own_Laid Z a0 Cn ds → ds[i]? = some d → Laid Z a0 Cn Cn d.1 d.2.1 ∧ parseFieldDescriptor d.2.1 = some d.2.2
  | [], _, _, _, h => by simp at h
  | d0 :: r, 0, d, L, h => by cases Option.some.inj h; exact L.1
  | d0 :: r, i + 1, d, L, h => own_Laid.at L.2 (by simpa using h)
def own_diff : List String → Bool
  | [] => true
  | x :: r => (r.all fun z => z != x) && own_diff r
theorem own_diff.inj : ∀ {xs : List String} {i j : Nat} {s : String}, own_diff xs = true → xs[i]? = some s → xs[j]? = some s → i = j
  | [], _, _, _, _, h, _ => by simp at h
  | x :: r, 0, 0, _, _, _, _ => rfl
  | x :: r, 0, j + 1, s, D, h, g => by
    simp only [own_diff, Bool.and_eq_true, List.all_eq_true, bne_iff_ne] at D
    cases Option.some.inj h
    exact absurd rfl (D.1 _ (List.mem_of_getElem? (by simpa using g)))
  | x :: r, i + 1, 0, s, D, h, g => by
    simp only [own_diff, Bool.and_eq_true, List.all_eq_true, bne_iff_ne] at D
    cases Option.some.inj g
    exact absurd rfl (D.1 _ (List.mem_of_getElem? (by simpa using h)))
  | x :: r, i + 1, j + 1, s, D, h, g => by
    simp only [own_diff, Bool.and_eq_true] at D
    exact congrArg (· + 1) (own_diff.inj (s := s) D.2 (by simpa using h) (by simpa using g))
theorem own_Wk.newobj (C : own_Wk Z n0 R y bytes maxL ret l Q G) (ds : List (String × String × FieldType)) {Cn : String} {ix nn k' n' : Nat} {fs : List (String × String × Value)} (hd : decode bytes pc = .ok (.new ix, 3)) (w1 : (Jvm.Cond.classLink y.cls ix Cn).before a0 Z = true) (w2 : (Jvm.Cond.instantiable Cn nn).before a0 Z = true) (w3 : (Jvm.Cond.initialized Cn).before a0 Z = true)
    (hL : own_Laid Z a0 Cn ds) (hdf : own_diff (ds.map fun d => d.1) = true) (hc : k + 1 ≤ R.cells) (hl : n + nn ≤ R.slots) (hfs : ds.map (fun d => (d.1, d.2.1, defaultValue d.2.2)) = fs) (hk' : k + 1 = k') (hn' : n + nn = n') (hq : pc + 3 = q)
    (K : ∀ a, G k' n' (H ++ [(a, .inr (Cn, fs))]) q ls (.ref a :: st)) : G k n H pc ls st := by
  subst hq hfs hk' hn'
  obtain ⟨p, e, s, m, args, below, meth, c, rfl, hx, hZ, hby, hml, hown, hnm, hret, hlk⟩ := C
  intro T L X N hH
  obtain ⟨T', h', X', e', E, A, D, -, stp⟩ := newO X hx hZ hown w1 w2 w3 rfl (g := mkF m pc ⟨ls⟩ st) rfl (hb hby hd) hc hl
  have at_ : ∀ (i : Nat) (f : String × String × Value), (ds.map (fun d => (d.1, d.2.1, defaultValue d.2.2)))[i]? = some f → ∃ d : String × String × FieldType, ds[i]? = some d ∧ f = (d.1, d.2.1, defaultValue d.2.2) := by
    intro i f hf
    rw [List.getElem?_map] at hf
    obtain ⟨d, h1, h2⟩ := Option.map_eq_some_iff.mp hf
    exact ⟨d, h1, h2.symm⟩
  obtain ⟨t, o, st2, P⟩ := K T.heap.size T' _ X' N (by
    rw [e']
    refine own_Hp_new hH E A.lt ⟨A, fun i j f g hf hg hs => ?_, fun i f hf => ?_⟩
    · obtain ⟨d, h1, rfl⟩ := at_ i f hf
      obtain ⟨d', h1', rfl⟩ := at_ j g hg
      by_cases hn : d.1 = d'.1
      · exact own_diff.inj hdf (s := d.1) (by rw [List.getElem?_map, h1]; rfl) (by rw [List.getElem?_map, h1', hn]; rfl)
      · exact absurd hs (slot_ne (hL.at h1).1 (hL.at h1').1 hn (hL.at h1).2 (hL.at h1').2)
    · obtain ⟨d, h1, rfl⟩ := at_ i f hf
      exact D (hL.at h1).1 (hL.at h1).2)
  exact ⟨t, o, stp _ st2, P⟩
theorem own_Wk.getf (C : own_Wk Z n0 R y bytes maxL ret l Q G) (i j : Nat) {ix : Nat} {Cn nm ds : String} {a : Addr} {fs : List (String × String × Value)} {v : Value} (hd : decode bytes pc = .ok (.getfield ix, 3)) (w : (Jvm.Cond.fieldLink y.cls ix Cn nm ds).before a0 Z = true)
    (hi : H[i]? = some (a, .inr (Cn, fs))) (hj : fs[j]? = some (nm, ds, v)) (hq : pc + 3 = q) (K : G k n H q ls (v :: st)) : G k n H pc ls (.ref a :: st) := by
  subst hq
  obtain ⟨p, e, s, m, args, below, meth, c, rfl, hx, hZ, hby, hml, hown, hnm, hret, hlk⟩ := C
  intro T L X N hH
  obtain ⟨-, -, hE, hS, hF⟩ := hH.2.2 i _ _ hi
  obtain ⟨T', X', e', stp⟩ := getF X hx hZ hown (host := "") (Or.inl w) Via.refl rfl (hF j _ hj) (g := mkF m pc ⟨ls⟩ (.ref a :: st)) rfl rfl (hb hby hd)
  obtain ⟨t, o, st2, P⟩ := K T' _ X' N (by rw [e']; exact hH)
  exact ⟨t, o, stp _ st2, P⟩
theorem own_Wk.putf (C : own_Wk Z n0 R y bytes maxL ret l Q G) (i j : Nat) {ix kk : Nat} {Cn nm ds : String} {a : Addr} {fs : List (String × String × Value)} {v old : Value} {ty : FieldType} {H' : own_Hs} (hd : decode bytes pc = .ok (.putfield ix, 3)) (w : (Jvm.Cond.fieldLink y.cls ix Cn nm ds).before a0 Z = true)
    (hL : (Jvm.Cond.lays Cn Cn nm ds).before a0 Z = true ∨ ((Jvm.Cond.laysFinal Cn Cn nm ds).before a0 Z = true ∧ y.cls = Cn ∧ y.name = "<init>")) (wi : (Jvm.Cond.instantiable Cn kk).before a0 Z = true)
    (hi : H[i]? = some (a, .inr (Cn, fs))) (hj : fs[j]? = some (nm, ds, old)) (hty : parseFieldDescriptor ds = some ty) (hn' : narrow ty v = v) (hf : fits ty v = true) (hH' : H.set i (a, .inr (Cn, fs.set j (nm, ds, v))) = H') (hq : pc + 3 = q) (K : G k n H' q ls st) : G k n H pc ls (v :: .ref a :: st) := by
  subst hq hH'
  obtain ⟨p, e, s, m, args, below, meth, c, rfl, hx, hZ, hby, hml, hown, hnm, hret, hlk⟩ := C
  intro T L X N hH
  obtain ⟨g1, -, hE, hS, hF⟩ := hH.2.2 i _ _ hi
  obtain ⟨T', h', X', e', W, stp⟩ := putF X hx hZ hown (host := "") (Or.inl w) Via.refl rfl (hF j _ hj) hE (hL.imp id fun z => ⟨z.1, z.2.1, hnm.trans z.2.2⟩) wi hty hn' hf (g := mkF m pc ⟨ls⟩ (v :: .ref a :: st)) rfl rfl (hb hby hd)
  have key : ∀ (i' : Nat) (f : String × String × Value), (fs.set j (nm, ds, v))[i']? = some f → (i' = j ∧ f = (nm, ds, v)) ∨ (i' ≠ j ∧ fs[i']? = some f) := by
    intro i' f hf'
    rw [List.getElem?_set] at hf'
    by_cases q : j = i'
    · subst q
      rw [if_pos rfl] at hf'
      split at hf'
      · exact Or.inl ⟨rfl, (Option.some.inj hf').symm⟩
      · cases hf'
    · rw [if_neg q] at hf'; exact Or.inr ⟨fun z => q z.symm, hf'⟩
  obtain ⟨t, o, st2, P⟩ := K T' _ X' (Fr.snoc X' N g1) (by
    rw [e']
    refine own_Hp_set hH hi W ⟨hE.wr W, fun i1 j1 f g h1 h2 hs => ?_, fun i1 f h1 => ?_⟩
    · rcases key i1 f h1 with ⟨z1, rfl⟩ | ⟨z1, z2⟩ <;> rcases key j1 g h2 with ⟨y1, rfl⟩ | ⟨y1, y2⟩
      · rw [z1, y1]
      · rw [z1]; exact hS j j1 (nm, ds, old) g hj y2 hs
      · rw [y1]; exact hS i1 j f (nm, ds, old) z2 hj hs
      · exact hS i1 j1 f g z2 y2 hs
    · rcases key i1 f h1 with ⟨z1, rfl⟩ | ⟨z1, z2⟩
      · exact (hF j _ hj).same W
      · exact (hF i1 f z2).other W (Or.inr fun z => z1 (hS i1 j f (nm, ds, old) z2 hj z)))
  exact ⟨t, o, stp _ st2, P⟩
theorem own_Wk.initO (C : own_Wk Z n0 R y bytes maxL ret l Q G) (W : Nat) {ix : Nat} {a : Addr} (hd : decode bytes pc = .ok (.invokespecial ix, 3)) (w1 : (Jvm.Cond.methodLink y.cls ix Lib.objectInit).before a0 Z = true) (w2 : (Jvm.Cond.instanceMethod Lib.objectInit).before a0 Z = true) (w3 : (Jvm.Cond.code Lib.objectInit ⟨#[0xb1]⟩ 1 none).before a0 Z = true)
    (hls : ls.length = maxL) (hf : 1 ≤ R.frames) (hW : (st.map fun v => v.category).sum ≤ W) (hl : W + 12 ≤ R.locals) (hq : pc + 3 = q) (K : G k n H q ls st) : G k n H pc ls (.ref a :: st) := by
  subst hq
  obtain ⟨p, e, s, m, args, below, meth, c, rfl, hx, hZ, hby, hml, hown, hnm, hret, hlk⟩ := C
  intro T L X N hH
  obtain ⟨T', X', e', stp⟩ := RoadKit.initO X hx hZ hown w1 w2 w3 rfl (g := mkF m pc ⟨ls⟩ (.ref a :: st)) rfl (by rw [hml]; exact hls) rfl (hb hby hd) hf (W := W) (by show 2 * 0 + _ ≤ _; rw [Nat.mul_zero, Nat.zero_add]; exact hW) hl
  obtain ⟨t, o, st2, P⟩ := K T' _ X' N (by rw [e']; exact hH)
  exact ⟨t, o, stp _ st2, P⟩
-- calls
theorem own_Wk.callS (C : own_Wk Z n0 R y bytes maxL ret l Q G) (W : Nat) (argsL rest : List Value) {ix : Nat} {y' : MethodName} {bytes' : ByteArray} {maxL' : Nat} {ret' r : Option FieldType} {ps : List FieldType} {rm : Room} {Q' : Option Value → own_Hs → Prop}
    (hd : decode bytes pc = .ok (.invokestatic ix, 3)) (w1 : (Jvm.Cond.methodLink y.cls ix y').before a0 Z = true) (w2 : (Jvm.Cond.static y').before a0 Z = true) (w3 : (Jvm.Cond.initialized y'.cls).before a0 Z = true) (w4 : (Jvm.Cond.code y' bytes' maxL' ret').before a0 Z = true)
    (hM : own_Con l Z n0 y' bytes' maxL' ret' [] rm argsL.toArray H Q') (hy : y'.cls ≠ "java/lang/invoke/MethodHandle" ∧ y'.cls ≠ "java/lang/invoke/VarHandle") (hfr : rm.frames + 1 ≤ R.frames) (hlo : W + (maxL' + 11) + rm.locals ≤ R.locals) (hds : parseMethodDescriptor y'.desc = some ⟨ps, r⟩) (hln : argsL.length = ps.length)
    (hls : ls.length = maxL) (hst : st = argsL.reverse ++ rest) (hW : (rest.map fun v => v.category).sum ≤ W) (hc : k + rm.cells ≤ R.cells) (hs : n + rm.slots ≤ R.slots) (hq : pc + 3 = q) (K : ∀ v H', Q' v H' → G (k + rm.cells) (n + rm.slots) H' q ls (v.toList ++ rest)) : G k n H pc ls st := by
  subst hq
  obtain ⟨p, e, s, m, args, below, meth, c, rfl, hx, hZ, hby, hml, hown, hnm, hret, hlk⟩ := C
  intro T L X N hH
  obtain ⟨v, vm₁, ⟨T', L', k', n'⟩, -, X', ⟨Lc, hQ, l', c', s'⟩, stp⟩ := Jvm.LawKit.callS X hx (y := y') hown (mvT hZ w1) (mvT hZ w2) (mvT hZ w3) (mvT hZ w4) hy
    (backOf (W := W) (Q := fun v h L => Fr n0 L ∧ ∃ H', own_Hp Z n0 h H' ∧ Q' v H') (hM T.heap hH) hZ w4 w3 hfr hlo) (g := mkF m pc ⟨ls⟩ st) rfl (by rw [hml]; exact hls) (argsL := argsL) (rest := rest) (lenOf hds hln) hst (by show 2 * 0 + _ ≤ _; rw [Nat.mul_zero, Nat.zero_add]; exact hW) (hb hby hd) (fun _ _ => ⟨rfl, rfl, hc, hs⟩)
  dsimp only [Pt.U, Pt.locs, Pt.cells, Pt.slots] at X' l' c' s' stp hQ
  subst l' c' s'
  obtain ⟨N', H', hH', hQ'⟩ := hQ
  obtain ⟨t, o, st2, P⟩ := K v H' hQ' T' _ X' (Fr.app N N') hH'
  exact ⟨t, o, stp _ st2, P⟩
theorem own_Wk.callI (C : own_Wk Z n0 R y bytes maxL ret l Q G) (W : Nat) (a : Addr) (argsL rest : List Value) {ix : Nat} {y' : MethodName} {bytes' : ByteArray} {maxL' : Nat} {r : Option FieldType} {ps : List FieldType} {rm : Room} {Q' : Option Value → own_Hs → Prop}
    (hd : decode bytes pc = .ok (.invokespecial ix, 3)) (w1 : (Jvm.Cond.methodLink y.cls ix y').before a0 Z = true) (w2 : (Jvm.Cond.instanceMethod y').before a0 Z = true) (w3 : (Jvm.Cond.initialized y'.cls).before a0 Z = true) (w4 : (Jvm.Cond.code y' bytes' maxL' none).before a0 Z = true)
    (hM : own_Con l Z n0 y' bytes' maxL' none [] rm (.ref a :: argsL).toArray H Q') (hnm' : y'.name = "<init>") (hy : y'.cls ≠ "java/lang/invoke/MethodHandle" ∧ y'.cls ≠ "java/lang/invoke/VarHandle") (hfr : rm.frames + 1 ≤ R.frames) (hlo : W + (maxL' + 11) + rm.locals ≤ R.locals) (hds : parseMethodDescriptor y'.desc = some ⟨ps, r⟩) (hln : argsL.length = ps.length)
    (hls : ls.length = maxL) (hst : st = argsL.reverse ++ .ref a :: rest) (hW : (rest.map fun v => v.category).sum ≤ W) (hc : k + rm.cells ≤ R.cells) (hs : n + rm.slots ≤ R.slots) (hq : pc + 3 = q) (K : ∀ v H', Q' v H' → G (k + rm.cells) (n + rm.slots) H' q ls (v.toList ++ rest)) : G k n H pc ls st := by
  subst hq
  obtain ⟨p, e, s, m, args, below, meth, c, rfl, hx, hZ, hby, hml, hown, hnm, hret, hlk⟩ := C
  intro T L X N hH
  obtain ⟨v, vm₁, ⟨T', L', k', n'⟩, -, X', ⟨Lc, hQ, l', c', s'⟩, stp⟩ := X.specialBack hx (y := y') hnm' hown (mvT hZ w1) (mvT hZ w2) (mvT hZ w4) hy
    (backOf (W := W) (Q := fun v h L => Fr n0 L ∧ ∃ H', own_Hp Z n0 h H' ∧ Q' v H') (hM T.heap hH) hZ w4 w3 hfr hlo) (g := mkF m pc ⟨ls⟩ st) rfl (by rw [hml]; exact hls) (Steps.refl _) (a := a) (argsL := argsL) (rest := rest) (lenOf hds hln) hst (by show 2 * 0 + _ ≤ _; rw [Nat.mul_zero, Nat.zero_add]; exact hW) (hb hby hd) (fun _ _ => ⟨rfl, rfl, hc, hs⟩)
  dsimp only [Pt.U, Pt.locs, Pt.cells, Pt.slots] at X' l' c' s' stp hQ
  subst l' c' s'
  obtain ⟨N', H', hH', hQ'⟩ := hQ
  obtain ⟨t, o, st2, P⟩ := K v H' hQ' T' _ X' (Fr.app N N') hH'
  exact ⟨t, o, stp.trans st2, P⟩
theorem own_Wk.callV (C : own_Wk Z n0 R y bytes maxL ret l Q G) (W i : Nat) (argsL rest : List Value) {a : Addr} {ix : Nat} {y' : MethodName} {bytes' : ByteArray} {maxL' : Nat} {ret' r : Option FieldType} {ps : List FieldType} {fs : List (String × String × Value)} {rm : Room} {Q' : Option Value → own_Hs → Prop}
    (hd : decode bytes pc = .ok (.invokevirtual ix, 3)) (w1 : (Jvm.Cond.methodLink y.cls ix y').before a0 Z = true) (w2 : (Jvm.Cond.declares y').before a0 Z = true) (w5 : (Jvm.Cond.instanceMethod y').before a0 Z = true) (w6 : (Jvm.Cond.selects y'.cls y' y').before a0 Z = true) (w3 : (Jvm.Cond.initialized y'.cls).before a0 Z = true) (w4 : (Jvm.Cond.code y' bytes' maxL' ret').before a0 Z = true)
    (hM : own_Con l Z n0 y' bytes' maxL' ret' [] rm (.ref a :: argsL).toArray H Q') (hy : y'.cls ≠ "java/lang/invoke/MethodHandle" ∧ y'.cls ≠ "java/lang/invoke/VarHandle") (hfr : rm.frames + 1 ≤ R.frames) (hlo : W + (maxL' + 11) + rm.locals ≤ R.locals) (hds : parseMethodDescriptor y'.desc = some ⟨ps, r⟩) (hln : argsL.length = ps.length)
    (hi : H[i]? = some (a, .inr (y'.cls, fs))) (hls : ls.length = maxL) (hst : st = argsL.reverse ++ .ref a :: rest) (hW : (rest.map fun v => v.category).sum ≤ W) (hc : k + rm.cells ≤ R.cells) (hs : n + rm.slots ≤ R.slots) (hq : pc + 3 = q) (K : ∀ v H', Q' v H' → G (k + rm.cells) (n + rm.slots) H' q ls (v.toList ++ rest)) : G k n H pc ls st := by
  subst hq
  obtain ⟨p, e, s, m, args, below, meth, c, rfl, hx, hZ, hby, hml, hown, hnm, hret, hlk⟩ := C
  intro T L X N hH
  obtain ⟨-, -, hE, -, -⟩ := hH.2.2 i _ _ hi
  obtain ⟨cB, kB, b1, -, b3⟩ := isOf hZ rfl hE
  obtain ⟨v, vm₁, ⟨T', L', k', n'⟩, -, X', ⟨Lc, hQ, l', c', s'⟩, stp⟩ := X.virtualBack hx (y := y') (z := y') hown (mvT hZ w1) (mvT hZ w2) (notFace_of_selects (args := #[]) (mvT hZ w6)) (mvT hZ w6) (mvT hZ w5) hy
    (backOf (W := W) (Q := fun v h L => Fr n0 L ∧ ∃ H', own_Hp Z n0 h H' ∧ Q' v H') (hM T.heap hH) hZ w4 w3 hfr hlo) b1 b3 (g := mkF m pc ⟨ls⟩ st) rfl (by rw [hml]; exact hls) (Steps.refl _) (argsL := argsL) (rest := rest) (lenOf hds hln) hst (by show 2 * 0 + _ ≤ _; rw [Nat.mul_zero, Nat.zero_add]; exact hW) (hb hby hd) (fun _ _ => ⟨rfl, rfl, hc, hs⟩)
  dsimp only [Pt.U, Pt.locs, Pt.cells, Pt.slots] at X' l' c' s' stp hQ
  subst l' c' s'
  obtain ⟨N', H', hH', hQ'⟩ := hQ
  obtain ⟨t, o, st2, P⟩ := K v H' hQ' T' _ X' (Fr.app N N') hH'
  exact ⟨t, o, stp.trans st2, P⟩
theorem own_Wk.callF (C : own_Wk Z n0 R y bytes maxL ret l Q G) (W i : Nat) (argsL rest : List Value) {a : Addr} {ix cnt : Nat} {xi y' : MethodName} {bytes' : ByteArray} {maxL' : Nat} {ret' r : Option FieldType} {ps : List FieldType} {fs : List (String × String × Value)} {rm : Room} {Q' : Option Value → own_Hs → Prop}
    (hd : decode bytes pc = .ok (.invokeinterface ix cnt, 5)) (w1 : (Jvm.Cond.methodLink y.cls ix xi).before a0 Z = true) (w2 : (Jvm.Cond.declares xi).before a0 Z = true) (w7 : ∀ {s : State} {args : Array Value}, Z.Warmed39 s.vm → (Jvm.Cond.interfaceMethod xi.cls xi.cls xi.name xi.desc).before args s = true) (w6 : (Jvm.Cond.selects y'.cls xi y').before a0 Z = true) (w5 : (Jvm.Cond.instanceMethod y').before a0 Z = true)
    (w8 : (Jvm.Cond.publicMethod y').before a0 Z = true) (w9 : (Jvm.Cond.unhidden y'.cls xi.name xi.desc).before a0 Z = true) (w10 : (Jvm.Cond.castable y'.cls xi.cls).before a0 Z = true) (w3 : (Jvm.Cond.initialized y'.cls).before a0 Z = true) (w4 : (Jvm.Cond.code y' bytes' maxL' ret').before a0 Z = true)
    (hM : own_Con l Z n0 y' bytes' maxL' ret' [] rm (.ref a :: argsL).toArray H Q') (hy : xi.cls ≠ "java/lang/invoke/MethodHandle" ∧ xi.cls ≠ "java/lang/invoke/VarHandle") (hfr : rm.frames + 1 ≤ R.frames) (hlo : W + (maxL' + 11) + rm.locals ≤ R.locals) (hds : parseMethodDescriptor xi.desc = some ⟨ps, r⟩) (hln : argsL.length = ps.length)
    (hi : H[i]? = some (a, .inr (y'.cls, fs))) (hls : ls.length = maxL) (hst : st = argsL.reverse ++ .ref a :: rest) (hW : (rest.map fun v => v.category).sum ≤ W) (hc : k + rm.cells ≤ R.cells) (hs : n + rm.slots ≤ R.slots) (hq : pc + 5 = q) (K : ∀ v H', Q' v H' → G (k + rm.cells) (n + rm.slots) H' q ls (v.toList ++ rest)) : G k n H pc ls st := by
  subst hq
  obtain ⟨p, e, s, m, args, below, meth, c, rfl, hx, hZ, hby, hml, hown, hnm, hret, hlk⟩ := C
  intro T L X N hH
  obtain ⟨-, -, hE, -, -⟩ := hH.2.2 i _ _ hi
  obtain ⟨cB, kB, b1, b2, b3⟩ := isOf hZ rfl hE
  obtain ⟨v, vm₁, ⟨T', L', k', n'⟩, -, X', ⟨Lc, hQ, l', c', s'⟩, stp⟩ := X.interfaceBack hx (xi := xi) (y := y') hown (mvT hZ w1) (mvT hZ w2) (w7 hZ) (mvT hZ w6) (mvT hZ w5) (mvT hZ w8) (mvT hZ w9) (mvT hZ w10) hy
    (backOf (W := W) (Q := fun v h L => Fr n0 L ∧ ∃ H', own_Hp Z n0 h H' ∧ Q' v H') (hM T.heap hH) hZ w4 w3 hfr hlo) b1 b2 b3 (g := mkF m pc ⟨ls⟩ st) rfl (by rw [hml]; exact hls) (Steps.refl _) (argsL := argsL) (rest := rest) (lenOf hds hln) hst (by show 2 * 0 + _ ≤ _; rw [Nat.mul_zero, Nat.zero_add]; exact hW) (hb hby hd) (fun _ _ => ⟨rfl, rfl, hc, hs⟩)
  dsimp only [Pt.U, Pt.locs, Pt.cells, Pt.slots] at X' l' c' s' stp hQ
  subst l' c' s'
  obtain ⟨N', H', hH', hQ'⟩ := hQ
  obtain ⟨t, o, st2, P⟩ := K v H' hQ' T' _ X' (Fr.app N N') hH'
  exact ⟨t, o, stp.trans st2, P⟩
end OwnKit
theorem own_pd0 : parseMethodDescriptor "([II)V" = some ⟨[(.array .int), .int], none⟩ := by decide +kernel
theorem own_pd1 : parseMethodDescriptor "(II)V" = some ⟨[.int, .int], none⟩ := by decide +kernel
theorem own_pd2 : parseMethodDescriptor "()V" = some ⟨[], none⟩ := by decide +kernel
theorem own_pd3 : parseMethodDescriptor "()I" = some ⟨[], some .int⟩ := by decide +kernel
theorem own_pd4 : parseMethodDescriptor "(I)I" = some ⟨[.int], some .int⟩ := by decide +kernel
abbrev own_TL : Type := List Int32 × List Int32 × List Int32 × Int32
def own_vl (xs : List Int32) : List Value := xs.map Value.int
theorem own_vl_at {xs : List Int32} {i : Nat} (h : i < xs.length) : (own_vl xs)[i]? = some (.int (xs.getD i 0)) := by
  rw [own_vl, List.getElem?_map, List.getD_eq_getElem?_getD, List.getElem?_eq_getElem h]; rfl
theorem own_vl_set (xs : List Int32) (i : Nat) (x : Int32) : (own_vl xs).set i (.int x) = own_vl (xs.set i x) := by
  rw [own_vl, own_vl, List.map_set]
theorem own_vl_len (xs : List Int32) : (own_vl xs).length = xs.length := by rw [own_vl, List.length_map]
def own_add (s : own_TL) (t k : Nat) : own_TL :=
  (s.1.set k (Int32.ofNat t), s.2.1.set t (s.1.getD k 0), (if s.1.getD k 0 = -1 then s.2.2.1.set s.2.2.2.toNatClampNeg (Int32.ofNat k) else s.2.2.1), (if s.1.getD k 0 = -1 then s.2.2.2 + 1 else s.2.2.2))
/-- what an add asks -/
def own_ok (s : own_TL) (t k : Nat) : Prop := k < s.1.length ∧ t < s.2.1.length ∧ (s.1.getD k 0 = -1 → ¬ s.2.2.2 < 0 ∧ s.2.2.2.toNatClampNeg < s.2.2.1.length)
theorem own_ti {n : Nat} (h : n < 1000) : (Int32.ofNat n).toInt = n := Int32.toInt_ofNat_of_lt (by omega)
theorem own_nn {n : Nat} (h : n < 1000) : ¬ Int32.ofNat n < 0 := by rw [Int32.lt_iff_toInt_lt, own_ti h]; simp only [Int32.reduceToInt]; omega
theorem own_lt {i n : Nat} (h : i < 1000) (g : n < 1000) : Int32.ofNat i < Int32.ofNat n ↔ i < n := by rw [Int32.lt_iff_toInt_lt, own_ti h, own_ti g]; omega
theorem own_cn {n : Nat} (h : n < 1000) : (Int32.ofNat n).toNatClampNeg = n := by rw [Int32.toNatClampNeg, own_ti h]; rfl
theorem own_sc (n : Nat) : Int32.ofNat n + (1 : Int32) = Int32.ofNat (n + 1) := (Int32.ofNat_add n 1).symm
theorem own_ofInt {x : Int32} {n : Nat} (h : x.toInt = n) (hn : n < 1000) : x = Int32.ofNat n := by apply Int32.toInt_inj.mp; rw [own_ti hn, h]
theorem d1_0 : decode prog_11_method_2_code 0 = .ok (.aload_n 0, 1) := by decide +kernel
theorem d1_1 : decode prog_11_method_2_code 1 = .ok (.getfield 7, 3) := by decide +kernel
theorem d1_4 : decode prog_11_method_2_code 4 = .ok (.iload_n 2, 1) := by decide +kernel
theorem d1_5 : decode prog_11_method_2_code 5 = .ok (.iaload, 1) := by decide +kernel
theorem d1_6 : decode prog_11_method_2_code 6 = .ok (.iconst (-1), 1) := by decide +kernel
theorem d1_7 : decode prog_11_method_2_code 7 = .ok (.if_icmp .ne 23, 3) := by decide +kernel
theorem d1_10 : decode prog_11_method_2_code 10 = .ok (.aload_n 0, 1) := by decide +kernel
theorem d1_11 : decode prog_11_method_2_code 11 = .ok (.getfield 22, 3) := by decide +kernel
theorem d1_14 : decode prog_11_method_2_code 14 = .ok (.aload_n 0, 1) := by decide +kernel
theorem d1_15 : decode prog_11_method_2_code 15 = .ok (.getfield 25, 3) := by decide +kernel
theorem d1_18 : decode prog_11_method_2_code 18 = .ok (.iload_n 2, 1) := by decide +kernel
theorem d1_19 : decode prog_11_method_2_code 19 = .ok (.iastore, 1) := by decide +kernel
theorem d1_20 : decode prog_11_method_2_code 20 = .ok (.aload_n 0, 1) := by decide +kernel
theorem d1_21 : decode prog_11_method_2_code 21 = .ok (.dup, 1) := by decide +kernel
theorem d1_22 : decode prog_11_method_2_code 22 = .ok (.getfield 25, 3) := by decide +kernel
theorem d1_25 : decode prog_11_method_2_code 25 = .ok (.iconst 1, 1) := by decide +kernel
theorem d1_26 : decode prog_11_method_2_code 26 = .ok (.iadd, 1) := by decide +kernel
theorem d1_27 : decode prog_11_method_2_code 27 = .ok (.putfield 25, 3) := by decide +kernel
theorem d1_30 : decode prog_11_method_2_code 30 = .ok (.aload_n 0, 1) := by decide +kernel
theorem d1_31 : decode prog_11_method_2_code 31 = .ok (.getfield 19, 3) := by decide +kernel
theorem d1_34 : decode prog_11_method_2_code 34 = .ok (.iload_n 1, 1) := by decide +kernel
theorem d1_35 : decode prog_11_method_2_code 35 = .ok (.aload_n 0, 1) := by decide +kernel
theorem d1_36 : decode prog_11_method_2_code 36 = .ok (.getfield 7, 3) := by decide +kernel
theorem d1_39 : decode prog_11_method_2_code 39 = .ok (.iload_n 2, 1) := by decide +kernel
theorem d1_40 : decode prog_11_method_2_code 40 = .ok (.iaload, 1) := by decide +kernel
theorem d1_41 : decode prog_11_method_2_code 41 = .ok (.iastore, 1) := by decide +kernel
theorem d1_42 : decode prog_11_method_2_code 42 = .ok (.aload_n 0, 1) := by decide +kernel
theorem d1_43 : decode prog_11_method_2_code 43 = .ok (.getfield 7, 3) := by decide +kernel
theorem d1_46 : decode prog_11_method_2_code 46 = .ok (.iload_n 2, 1) := by decide +kernel
theorem d1_47 : decode prog_11_method_2_code 47 = .ok (.iload_n 1, 1) := by decide +kernel
theorem d1_48 : decode prog_11_method_2_code 48 = .ok (.iastore, 1) := by decide +kernel
theorem d1_49 : decode prog_11_method_2_code 49 = .ok (.return_, 1) := by decide +kernel
theorem own_pn1 : plainFor (⟨"com/example/terms_to_transitions/termstotransitions/equivalence/TransitionLists", "add", "(II)V"⟩ : MethodName) = true := by first | exact plainFor_of_name (by first | (simp [plainName, overriddenIn]; done) | decide +kernel) | decide +kernel
set_option maxHeartbeats 4000000 in
theorem own_ef1 (m : MethodId) (x0 : Addr) (x1 : Int32) (x2 : Int32) : entryFrame m #[.ref x0, .int x1, .int x2] 3 = mkF m 0 #[.val (.ref x0), .val (.int x1), .val (.int x2)] [] := by first | (simp [entryFrame, mkF, argsToLocals, Value.category, maxLocals]; done) | rfl
set_option maxRecDepth 65536 in
set_option maxHeartbeats 40000000 in
theorem own_c1 (l : Launch) (Z : State) (a0 : Array Value) (n0 : Nat) (hw : ∀ d ∈ tables_1, d.before a0 Z = true) (ws : List Jvm.Cond) (o h x m : Addr) (s : own_TL) (t k : Nat) (ht : t < 1000) (hk : k < 1000) (ok : own_ok s t k) :
    own_Con l Z n0 (⟨"com/example/terms_to_transitions/termstotransitions/equivalence/TransitionLists", "add", "(II)V"⟩ : MethodName) prog_11_method_2_code 3 none ws ({ frames := 0, cells := 0, slots := 0, locals := 0 } : Room) #[.ref o, .int (Int32.ofNat t), .int (Int32.ofNat k)] [(o, .inr ("com/example/terms_to_transitions/termstotransitions/equivalence/TransitionLists", [("heads", "[I", .ref h), ("nexts", "[I", .ref x), ("keysMet", "[I", .ref m), ("keysMetCount", "I", .int s.2.2.2)])), (h, .inl (.int, (own_vl s.1))), (x, .inl (.int, (own_vl s.2.1))), (m, .inl (.int, (own_vl s.2.2.1)))] (fun v H' => v = none ∧ H' = [(o, .inr ("com/example/terms_to_transitions/termstotransitions/equivalence/TransitionLists", [("heads", "[I", .ref h), ("nexts", "[I", .ref x), ("keysMet", "[I", .ref m), ("keysMetCount", "I", .int ((own_add s t k).2.2.2))])), (h, .inl (.int, (own_vl (own_add s t k).1))), (x, .inl (.int, (own_vl (own_add s t k).2.1))), (m, .inl (.int, (own_vl (own_add s t k).2.2.1)))]) := by
  refine own_con own_pn1 (fun m_ => own_ef1 m_ o (Int32.ofNat t) (Int32.ofNat k)) ?_
  intro G C
  refine C.aloadN (q := 1) d1_0 rfl rfl rfl ?_
  refine C.getf (q := 4) 0 0 (v := .ref h) d1_1 (hw _ (List.mem_of_getElem? (i := 10) rfl)) rfl rfl rfl ?_
  refine C.iloadN (q := 5) d1_4 rfl rfl ?_
  refine C.iaload (q := 6) 1 (v := .int (s.1.getD k 0)) d1_5 rfl (own_nn hk) (by rw [own_cn hk]; exact own_vl_at ok.1) rfl ?_
  refine C.iconst (q := 7) (z := (-1 : Int32)) d1_6 rfl rfl ?_
  refine C.icmpNe (q := 30) (q' := 10) d1_7 (by decide) (by decide) rfl (fun h7 => ?_) (fun h7 => ?_)
  · refine C.aloadN (q := 11) d1_10 rfl rfl rfl ?_
    refine C.getf (q := 14) 0 2 (v := .ref m) d1_11 (hw _ (List.mem_of_getElem? (i := 18) rfl)) rfl rfl rfl ?_
    refine C.aloadN (q := 15) d1_14 rfl rfl rfl ?_
    refine C.getf (q := 18) 0 3 (v := .int s.2.2.2) d1_15 (hw _ (List.mem_of_getElem? (i := 25) rfl)) rfl rfl rfl ?_
    refine C.iloadN (q := 19) d1_18 rfl rfl ?_
    refine C.iastore (q := 20) 3 (H' := [(o, .inr ("com/example/terms_to_transitions/termstotransitions/equivalence/TransitionLists", [("heads", "[I", .ref h), ("nexts", "[I", .ref x), ("keysMet", "[I", .ref m), ("keysMetCount", "I", .int s.2.2.2)])), (h, .inl (.int, (own_vl s.1))), (x, .inl (.int, (own_vl s.2.1))), (m, .inl (.int, (own_vl (s.2.2.1.set s.2.2.2.toNatClampNeg (Int32.ofNat k)))))]) d1_19 rfl (ok.2.2 h7).1 (by rw [own_vl_len]; exact (ok.2.2 h7).2) (by rw [own_vl_set]; rfl) rfl ?_
    refine C.aloadN (q := 21) d1_20 rfl rfl rfl ?_
    refine C.dup (q := 22) d1_21 rfl rfl ?_
    refine C.getf (q := 25) 0 3 (v := .int s.2.2.2) d1_22 (hw _ (List.mem_of_getElem? (i := 25) rfl)) rfl rfl rfl ?_
    refine C.iconst (q := 26) (z := (1 : Int32)) d1_25 rfl rfl ?_
    refine C.iadd (q := 27) d1_26 rfl ?_
    refine C.putf (q := 30) 0 3 (ty := .int) (H' := [(o, .inr ("com/example/terms_to_transitions/termstotransitions/equivalence/TransitionLists", [("heads", "[I", .ref h), ("nexts", "[I", .ref x), ("keysMet", "[I", .ref m), ("keysMetCount", "I", .int (s.2.2.2 + (1 : Int32)))])), (h, .inl (.int, (own_vl s.1))), (x, .inl (.int, (own_vl s.2.1))), (m, .inl (.int, (own_vl (s.2.2.1.set s.2.2.2.toNatClampNeg (Int32.ofNat k)))))]) d1_27 (hw _ (List.mem_of_getElem? (i := 25) rfl)) (Or.inl (hw _ (List.mem_of_getElem? (i := 26) rfl))) (hw _ (List.mem_of_getElem? (i := 1) rfl)) rfl rfl (by decide) rfl rfl rfl rfl ?_
    refine C.aloadN (q := 31) d1_30 rfl rfl rfl ?_
    refine C.getf (q := 34) 0 1 (v := .ref x) d1_31 (hw _ (List.mem_of_getElem? (i := 16) rfl)) rfl rfl rfl ?_
    refine C.iloadN (q := 35) d1_34 rfl rfl ?_
    refine C.aloadN (q := 36) d1_35 rfl rfl rfl ?_
    refine C.getf (q := 39) 0 0 (v := .ref h) d1_36 (hw _ (List.mem_of_getElem? (i := 10) rfl)) rfl rfl rfl ?_
    refine C.iloadN (q := 40) d1_39 rfl rfl ?_
    refine C.iaload (q := 41) 1 (v := .int (s.1.getD k 0)) d1_40 rfl (own_nn hk) (by rw [own_cn hk]; exact own_vl_at ok.1) rfl ?_
    refine C.iastore (q := 42) 2 (H' := [(o, .inr ("com/example/terms_to_transitions/termstotransitions/equivalence/TransitionLists", [("heads", "[I", .ref h), ("nexts", "[I", .ref x), ("keysMet", "[I", .ref m), ("keysMetCount", "I", .int (s.2.2.2 + (1 : Int32)))])), (h, .inl (.int, (own_vl s.1))), (x, .inl (.int, (own_vl (s.2.1.set t (s.1.getD k 0))))), (m, .inl (.int, (own_vl (s.2.2.1.set s.2.2.2.toNatClampNeg (Int32.ofNat k)))))]) d1_41 rfl (own_nn ht) (by rw [own_vl_len, own_cn ht]; exact ok.2.1) (by rw [own_vl_set, own_cn ht]; rfl) rfl ?_
    refine C.aloadN (q := 43) d1_42 rfl rfl rfl ?_
    refine C.getf (q := 46) 0 0 (v := .ref h) d1_43 (hw _ (List.mem_of_getElem? (i := 10) rfl)) rfl rfl rfl ?_
    refine C.iloadN (q := 47) d1_46 rfl rfl ?_
    refine C.iloadN (q := 48) d1_47 rfl rfl ?_
    refine C.iastore (q := 49) 1 (H' := [(o, .inr ("com/example/terms_to_transitions/termstotransitions/equivalence/TransitionLists", [("heads", "[I", .ref h), ("nexts", "[I", .ref x), ("keysMet", "[I", .ref m), ("keysMetCount", "I", .int (s.2.2.2 + (1 : Int32)))])), (h, .inl (.int, (own_vl (s.1.set k (Int32.ofNat t))))), (x, .inl (.int, (own_vl (s.2.1.set t (s.1.getD k 0))))), (m, .inl (.int, (own_vl (s.2.2.1.set s.2.2.2.toNatClampNeg (Int32.ofNat k)))))]) d1_48 rfl (own_nn hk) (by rw [own_vl_len, own_cn hk]; exact ok.1) (by rw [own_vl_set, own_cn hk]; rfl) rfl ?_
    exact C.retV d1_49 (by decide) (by decide) ⟨rfl, by first | (simp only [own_add, if_pos h7]; done) | (simp only [own_add, if_neg h7]; done)⟩
  · refine C.aloadN (q := 31) d1_30 rfl rfl rfl ?_
    refine C.getf (q := 34) 0 1 (v := .ref x) d1_31 (hw _ (List.mem_of_getElem? (i := 16) rfl)) rfl rfl rfl ?_
    refine C.iloadN (q := 35) d1_34 rfl rfl ?_
    refine C.aloadN (q := 36) d1_35 rfl rfl rfl ?_
    refine C.getf (q := 39) 0 0 (v := .ref h) d1_36 (hw _ (List.mem_of_getElem? (i := 10) rfl)) rfl rfl rfl ?_
    refine C.iloadN (q := 40) d1_39 rfl rfl ?_
    refine C.iaload (q := 41) 1 (v := .int (s.1.getD k 0)) d1_40 rfl (own_nn hk) (by rw [own_cn hk]; exact own_vl_at ok.1) rfl ?_
    refine C.iastore (q := 42) 2 (H' := [(o, .inr ("com/example/terms_to_transitions/termstotransitions/equivalence/TransitionLists", [("heads", "[I", .ref h), ("nexts", "[I", .ref x), ("keysMet", "[I", .ref m), ("keysMetCount", "I", .int s.2.2.2)])), (h, .inl (.int, (own_vl s.1))), (x, .inl (.int, (own_vl (s.2.1.set t (s.1.getD k 0))))), (m, .inl (.int, (own_vl s.2.2.1)))]) d1_41 rfl (own_nn ht) (by rw [own_vl_len, own_cn ht]; exact ok.2.1) (by rw [own_vl_set, own_cn ht]; rfl) rfl ?_
    refine C.aloadN (q := 43) d1_42 rfl rfl rfl ?_
    refine C.getf (q := 46) 0 0 (v := .ref h) d1_43 (hw _ (List.mem_of_getElem? (i := 10) rfl)) rfl rfl rfl ?_
    refine C.iloadN (q := 47) d1_46 rfl rfl ?_
    refine C.iloadN (q := 48) d1_47 rfl rfl ?_
    refine C.iastore (q := 49) 1 (H' := [(o, .inr ("com/example/terms_to_transitions/termstotransitions/equivalence/TransitionLists", [("heads", "[I", .ref h), ("nexts", "[I", .ref x), ("keysMet", "[I", .ref m), ("keysMetCount", "I", .int s.2.2.2)])), (h, .inl (.int, (own_vl (s.1.set k (Int32.ofNat t))))), (x, .inl (.int, (own_vl (s.2.1.set t (s.1.getD k 0))))), (m, .inl (.int, (own_vl s.2.2.1)))]) d1_48 rfl (own_nn hk) (by rw [own_vl_len, own_cn hk]; exact ok.1) (by rw [own_vl_set, own_cn hk]; rfl) rfl ?_
    exact C.retV d1_49 (by decide) (by decide) ⟨rfl, by first | (simp only [own_add, if_pos h7]; done) | (simp only [own_add, if_neg h7]; done)⟩
theorem d2_0 : decode prog_11_method_3_code 0 = .ok (.aload_n 0, 1) := by decide +kernel
theorem d2_1 : decode prog_11_method_3_code 1 = .ok (.getfield 25, 3) := by decide +kernel
theorem d2_4 : decode prog_11_method_3_code 4 = .ok (.ireturn, 1) := by decide +kernel
theorem own_pn2 : plainFor (⟨"com/example/terms_to_transitions/termstotransitions/equivalence/TransitionLists", "listCount", "()I"⟩ : MethodName) = true := by first | exact plainFor_of_name (by first | (simp [plainName, overriddenIn]; done) | decide +kernel) | decide +kernel
set_option maxHeartbeats 4000000 in
theorem own_ef2 (m : MethodId) (x0 : Addr) : entryFrame m #[.ref x0] 1 = mkF m 0 #[.val (.ref x0)] [] := by first | (simp [entryFrame, mkF, argsToLocals, Value.category, maxLocals]; done) | rfl
set_option maxRecDepth 65536 in
set_option maxHeartbeats 40000000 in
theorem own_c2 (l : Launch) (Z : State) (a0 : Array Value) (n0 : Nat) (hw : ∀ d ∈ tables_1, d.before a0 Z = true) (ws : List Jvm.Cond) (o h x m : Addr) (s : own_TL)  :
    own_Con l Z n0 (⟨"com/example/terms_to_transitions/termstotransitions/equivalence/TransitionLists", "listCount", "()I"⟩ : MethodName) prog_11_method_3_code 1 (some .int) ws ({ frames := 0, cells := 0, slots := 0, locals := 0 } : Room) #[.ref o] [(o, .inr ("com/example/terms_to_transitions/termstotransitions/equivalence/TransitionLists", [("heads", "[I", .ref h), ("nexts", "[I", .ref x), ("keysMet", "[I", .ref m), ("keysMetCount", "I", .int s.2.2.2)])), (h, .inl (.int, (own_vl s.1))), (x, .inl (.int, (own_vl s.2.1))), (m, .inl (.int, (own_vl s.2.2.1)))] (fun v H' => v = some (.int s.2.2.2) ∧ H' = [(o, .inr ("com/example/terms_to_transitions/termstotransitions/equivalence/TransitionLists", [("heads", "[I", .ref h), ("nexts", "[I", .ref x), ("keysMet", "[I", .ref m), ("keysMetCount", "I", .int s.2.2.2)])), (h, .inl (.int, (own_vl s.1))), (x, .inl (.int, (own_vl s.2.1))), (m, .inl (.int, (own_vl s.2.2.1)))]) := by
  refine own_con own_pn2 (fun m_ => own_ef2 m_ o) ?_
  intro G C
  refine C.aloadN (q := 1) d2_0 rfl rfl rfl ?_
  refine C.getf (q := 4) 0 3 (v := .int s.2.2.2) d2_1 (hw _ (List.mem_of_getElem? (i := 25) rfl)) rfl rfl rfl ?_
  exact C.retI d2_4 (by decide) (by decide) ⟨rfl, rfl⟩
theorem d3_0 : decode prog_11_method_4_code 0 = .ok (.aload_n 0, 1) := by decide +kernel
theorem d3_1 : decode prog_11_method_4_code 1 = .ok (.getfield 7, 3) := by decide +kernel
theorem d3_4 : decode prog_11_method_4_code 4 = .ok (.aload_n 0, 1) := by decide +kernel
theorem d3_5 : decode prog_11_method_4_code 5 = .ok (.getfield 22, 3) := by decide +kernel
theorem d3_8 : decode prog_11_method_4_code 8 = .ok (.iload_n 1, 1) := by decide +kernel
theorem d3_9 : decode prog_11_method_4_code 9 = .ok (.iaload, 1) := by decide +kernel
theorem d3_10 : decode prog_11_method_4_code 10 = .ok (.iaload, 1) := by decide +kernel
theorem d3_11 : decode prog_11_method_4_code 11 = .ok (.ireturn, 1) := by decide +kernel
theorem own_pn3 : plainFor (⟨"com/example/terms_to_transitions/termstotransitions/equivalence/TransitionLists", "first", "(I)I"⟩ : MethodName) = true := by first | exact plainFor_of_name (by first | (simp [plainName, overriddenIn]; done) | decide +kernel) | decide +kernel
set_option maxHeartbeats 4000000 in
theorem own_ef3 (m : MethodId) (x0 : Addr) (x1 : Int32) : entryFrame m #[.ref x0, .int x1] 2 = mkF m 0 #[.val (.ref x0), .val (.int x1)] [] := by first | (simp [entryFrame, mkF, argsToLocals, Value.category, maxLocals]; done) | rfl
set_option maxRecDepth 65536 in
set_option maxHeartbeats 40000000 in
theorem own_c3 (l : Launch) (Z : State) (a0 : Array Value) (n0 : Nat) (hw : ∀ d ∈ tables_1, d.before a0 Z = true) (ws : List Jvm.Cond) (o h x m : Addr) (s : own_TL) (i : Nat) (hi : i < 1000) (h1 : i < s.2.2.1.length) (h2 : ¬ (s.2.2.1.getD i 0) < 0) (h3 : (s.2.2.1.getD i 0).toNatClampNeg < s.1.length) :
    own_Con l Z n0 (⟨"com/example/terms_to_transitions/termstotransitions/equivalence/TransitionLists", "first", "(I)I"⟩ : MethodName) prog_11_method_4_code 2 (some .int) ws ({ frames := 0, cells := 0, slots := 0, locals := 0 } : Room) #[.ref o, .int (Int32.ofNat i)] [(o, .inr ("com/example/terms_to_transitions/termstotransitions/equivalence/TransitionLists", [("heads", "[I", .ref h), ("nexts", "[I", .ref x), ("keysMet", "[I", .ref m), ("keysMetCount", "I", .int s.2.2.2)])), (h, .inl (.int, (own_vl s.1))), (x, .inl (.int, (own_vl s.2.1))), (m, .inl (.int, (own_vl s.2.2.1)))] (fun v H' => v = some (.int (s.1.getD (s.2.2.1.getD i 0).toNatClampNeg 0)) ∧ H' = [(o, .inr ("com/example/terms_to_transitions/termstotransitions/equivalence/TransitionLists", [("heads", "[I", .ref h), ("nexts", "[I", .ref x), ("keysMet", "[I", .ref m), ("keysMetCount", "I", .int s.2.2.2)])), (h, .inl (.int, (own_vl s.1))), (x, .inl (.int, (own_vl s.2.1))), (m, .inl (.int, (own_vl s.2.2.1)))]) := by
  refine own_con own_pn3 (fun m_ => own_ef3 m_ o (Int32.ofNat i)) ?_
  intro G C
  refine C.aloadN (q := 1) d3_0 rfl rfl rfl ?_
  refine C.getf (q := 4) 0 0 (v := .ref h) d3_1 (hw _ (List.mem_of_getElem? (i := 10) rfl)) rfl rfl rfl ?_
  refine C.aloadN (q := 5) d3_4 rfl rfl rfl ?_
  refine C.getf (q := 8) 0 2 (v := .ref m) d3_5 (hw _ (List.mem_of_getElem? (i := 18) rfl)) rfl rfl rfl ?_
  refine C.iloadN (q := 9) d3_8 rfl rfl ?_
  refine C.iaload (q := 10) 3 (v := .int (s.2.2.1.getD i 0)) d3_9 rfl (own_nn hi) (by rw [own_cn hi]; exact own_vl_at h1) rfl ?_
  refine C.iaload (q := 11) 1 (v := .int (s.1.getD (s.2.2.1.getD i 0).toNatClampNeg 0)) d3_10 rfl h2 (own_vl_at h3) rfl ?_
  exact C.retI d3_11 (by decide) (by decide) ⟨rfl, rfl⟩
theorem d4_0 : decode prog_11_method_5_code 0 = .ok (.aload_n 0, 1) := by decide +kernel
theorem d4_1 : decode prog_11_method_5_code 1 = .ok (.getfield 19, 3) := by decide +kernel
theorem d4_4 : decode prog_11_method_5_code 4 = .ok (.iload_n 1, 1) := by decide +kernel
theorem d4_5 : decode prog_11_method_5_code 5 = .ok (.iaload, 1) := by decide +kernel
theorem d4_6 : decode prog_11_method_5_code 6 = .ok (.ireturn, 1) := by decide +kernel
theorem own_pn4 : plainFor (⟨"com/example/terms_to_transitions/termstotransitions/equivalence/TransitionLists", "next", "(I)I"⟩ : MethodName) = true := by first | exact plainFor_of_name (by first | (simp [plainName, overriddenIn]; done) | decide +kernel) | decide +kernel
set_option maxHeartbeats 4000000 in
theorem own_ef4 (m : MethodId) (x0 : Addr) (x1 : Int32) : entryFrame m #[.ref x0, .int x1] 2 = mkF m 0 #[.val (.ref x0), .val (.int x1)] [] := by first | (simp [entryFrame, mkF, argsToLocals, Value.category, maxLocals]; done) | rfl
set_option maxRecDepth 65536 in
set_option maxHeartbeats 40000000 in
theorem own_c4 (l : Launch) (Z : State) (a0 : Array Value) (n0 : Nat) (hw : ∀ d ∈ tables_1, d.before a0 Z = true) (ws : List Jvm.Cond) (o h x m : Addr) (s : own_TL) (i : Nat) (hi : i < 1000) (h1 : i < s.2.1.length) :
    own_Con l Z n0 (⟨"com/example/terms_to_transitions/termstotransitions/equivalence/TransitionLists", "next", "(I)I"⟩ : MethodName) prog_11_method_5_code 2 (some .int) ws ({ frames := 0, cells := 0, slots := 0, locals := 0 } : Room) #[.ref o, .int (Int32.ofNat i)] [(o, .inr ("com/example/terms_to_transitions/termstotransitions/equivalence/TransitionLists", [("heads", "[I", .ref h), ("nexts", "[I", .ref x), ("keysMet", "[I", .ref m), ("keysMetCount", "I", .int s.2.2.2)])), (h, .inl (.int, (own_vl s.1))), (x, .inl (.int, (own_vl s.2.1))), (m, .inl (.int, (own_vl s.2.2.1)))] (fun v H' => v = some (.int (s.2.1.getD i 0)) ∧ H' = [(o, .inr ("com/example/terms_to_transitions/termstotransitions/equivalence/TransitionLists", [("heads", "[I", .ref h), ("nexts", "[I", .ref x), ("keysMet", "[I", .ref m), ("keysMetCount", "I", .int s.2.2.2)])), (h, .inl (.int, (own_vl s.1))), (x, .inl (.int, (own_vl s.2.1))), (m, .inl (.int, (own_vl s.2.2.1)))]) := by
  refine own_con own_pn4 (fun m_ => own_ef4 m_ o (Int32.ofNat i)) ?_
  intro G C
  refine C.aloadN (q := 1) d4_0 rfl rfl rfl ?_
  refine C.getf (q := 4) 0 1 (v := .ref x) d4_1 (hw _ (List.mem_of_getElem? (i := 16) rfl)) rfl rfl rfl ?_
  refine C.iloadN (q := 5) d4_4 rfl rfl ?_
  refine C.iaload (q := 6) 2 (v := .int (s.2.1.getD i 0)) d4_5 rfl (own_nn hi) (by rw [own_cn hi]; exact own_vl_at h1) rfl ?_
  exact C.retI d4_6 (by decide) (by decide) ⟨rfl, rfl⟩
theorem df_0 : decode jdk_65_method_103_code 0 = .ok (.iconst 0, 1) := by decide +kernel
theorem df_1 : decode jdk_65_method_103_code 1 = .ok (.istore_n 2, 1) := by decide +kernel
theorem df_2 : decode jdk_65_method_103_code 2 = .ok (.aload_n 0, 1) := by decide +kernel
theorem df_3 : decode jdk_65_method_103_code 3 = .ok (.arraylength, 1) := by decide +kernel
theorem df_4 : decode jdk_65_method_103_code 4 = .ok (.istore_n 3, 1) := by decide +kernel
theorem df_5 : decode jdk_65_method_103_code 5 = .ok (.iload_n 2, 1) := by decide +kernel
theorem df_6 : decode jdk_65_method_103_code 6 = .ok (.iload_n 3, 1) := by decide +kernel
theorem df_7 : decode jdk_65_method_103_code 7 = .ok (.if_icmp .ge 13, 3) := by decide +kernel
theorem df_10 : decode jdk_65_method_103_code 10 = .ok (.aload_n 0, 1) := by decide +kernel
theorem df_11 : decode jdk_65_method_103_code 11 = .ok (.iload_n 2, 1) := by decide +kernel
theorem df_12 : decode jdk_65_method_103_code 12 = .ok (.iload_n 1, 1) := by decide +kernel
theorem df_13 : decode jdk_65_method_103_code 13 = .ok (.iastore, 1) := by decide +kernel
theorem df_14 : decode jdk_65_method_103_code 14 = .ok (.iinc 2 1, 3) := by decide +kernel
theorem df_17 : decode jdk_65_method_103_code 17 = .ok (.goto (-12), 3) := by decide +kernel
theorem df_20 : decode jdk_65_method_103_code 20 = .ok (.return_, 1) := by decide +kernel
theorem own_pn5f : plainFor (⟨"java/util/Arrays", "fill", "([II)V"⟩ : MethodName) = true := by first | exact plainFor_of_name (by first | (simp [plainName, overriddenIn]; done) | decide +kernel) | decide +kernel
set_option maxHeartbeats 4000000 in
theorem own_ef5f (m : MethodId) (x0 : Addr) (x1 : Int32) : entryFrame m #[.ref x0, .int x1] 4 = mkF m 0 #[.val (.ref x0), .val (.int x1), .unset, .unset] [] := by first | (simp [entryFrame, mkF, argsToLocals, Value.category, maxLocals]; done) | rfl
set_option maxRecDepth 65536 in
set_option maxHeartbeats 40000000 in
theorem own_c5f (l : Launch) (Z : State) (a0 : Array Value) (n0 : Nat) (hw : ∀ d ∈ tables_1, d.before a0 Z = true) (ws : List Jvm.Cond) (h : Addr) (e0 : Addr × own_Ob)  :
    own_Con l Z n0 (⟨"java/util/Arrays", "fill", "([II)V"⟩ : MethodName) jdk_65_method_103_code 4 none ws ({ frames := 0, cells := 0, slots := 0, locals := 0 } : Room) #[.ref h, .int (-1 : Int32)] [e0, (h, .inl (.int, [.int (0 : Int32), .int (0 : Int32), .int (0 : Int32), .int (0 : Int32)]))] (fun v H' => v = none ∧ H' = [e0, (h, .inl (.int, [.int (-1 : Int32), .int (-1 : Int32), .int (-1 : Int32), .int (-1 : Int32)]))]) := by
  refine own_con own_pn5f (fun m_ => own_ef5f m_ h (-1 : Int32)) ?_
  intro G C
  refine C.iconst (q := 1) (z := (0 : Int32)) df_0 rfl rfl ?_
  refine C.istoreN (q := 2) (ls' := [.val (.ref h), .val (.int (-1 : Int32)), .val (.int (0 : Int32)), .unset]) df_1 rfl rfl ?_
  refine C.aloadN (q := 3) df_2 rfl rfl rfl ?_
  refine C.alen (q := 4) 1 (z := (4 : Int32)) df_3 rfl rfl rfl ?_
  refine C.istoreN (q := 5) (ls' := [.val (.ref h), .val (.int (-1 : Int32)), .val (.int (0 : Int32)), .val (.int (4 : Int32))]) df_4 rfl rfl ?_
  refine C.iloadN (q := 6) df_5 rfl rfl ?_
  refine C.iloadN (q := 7) df_6 rfl rfl ?_
  refine C.icmpGe (q := 20) (q' := 10) df_7 (by decide) (by decide) rfl (fun h7 => ?_) (fun h7 => absurd (by decide) h7)
  refine C.aloadN (q := 11) df_10 rfl rfl rfl ?_
  refine C.iloadN (q := 12) df_11 rfl rfl ?_
  refine C.iloadN (q := 13) df_12 rfl rfl ?_
  refine C.iastore (q := 14) 1 (H' := [e0, (h, .inl (.int, [.int (-1 : Int32), .int (0 : Int32), .int (0 : Int32), .int (0 : Int32)]))]) df_13 rfl (by decide) (by show _ < 4; decide) rfl rfl ?_
  refine C.iinc (q := 17) (z := (1 : Int32)) (ls' := [.val (.ref h), .val (.int (-1 : Int32)), .val (.int ((0 : Int32) + (1 : Int32))), .val (.int (4 : Int32))]) df_14 rfl rfl rfl rfl ?_
  show G 0 0 [e0, (h, .inl (.int, [.int (-1 : Int32), .int (0 : Int32), .int (0 : Int32), .int (0 : Int32)]))] 17 [.val (.ref h), .val (.int (-1 : Int32)), .val (.int (1 : Int32)), .val (.int (4 : Int32))] []
  refine C.goto (q := 5) df_17 (by decide) (by decide) ?_
  refine C.iloadN (q := 6) df_5 rfl rfl ?_
  refine C.iloadN (q := 7) df_6 rfl rfl ?_
  refine C.icmpGe (q := 20) (q' := 10) df_7 (by decide) (by decide) rfl (fun h7 => ?_) (fun h7 => absurd (by decide) h7)
  refine C.aloadN (q := 11) df_10 rfl rfl rfl ?_
  refine C.iloadN (q := 12) df_11 rfl rfl ?_
  refine C.iloadN (q := 13) df_12 rfl rfl ?_
  refine C.iastore (q := 14) 1 (H' := [e0, (h, .inl (.int, [.int (-1 : Int32), .int (-1 : Int32), .int (0 : Int32), .int (0 : Int32)]))]) df_13 rfl (by decide) (by show _ < 4; decide) rfl rfl ?_
  refine C.iinc (q := 17) (z := (1 : Int32)) (ls' := [.val (.ref h), .val (.int (-1 : Int32)), .val (.int ((1 : Int32) + (1 : Int32))), .val (.int (4 : Int32))]) df_14 rfl rfl rfl rfl ?_
  show G 0 0 [e0, (h, .inl (.int, [.int (-1 : Int32), .int (-1 : Int32), .int (0 : Int32), .int (0 : Int32)]))] 17 [.val (.ref h), .val (.int (-1 : Int32)), .val (.int (2 : Int32)), .val (.int (4 : Int32))] []
  refine C.goto (q := 5) df_17 (by decide) (by decide) ?_
  refine C.iloadN (q := 6) df_5 rfl rfl ?_
  refine C.iloadN (q := 7) df_6 rfl rfl ?_
  refine C.icmpGe (q := 20) (q' := 10) df_7 (by decide) (by decide) rfl (fun h7 => ?_) (fun h7 => absurd (by decide) h7)
  refine C.aloadN (q := 11) df_10 rfl rfl rfl ?_
  refine C.iloadN (q := 12) df_11 rfl rfl ?_
  refine C.iloadN (q := 13) df_12 rfl rfl ?_
  refine C.iastore (q := 14) 1 (H' := [e0, (h, .inl (.int, [.int (-1 : Int32), .int (-1 : Int32), .int (-1 : Int32), .int (0 : Int32)]))]) df_13 rfl (by decide) (by show _ < 4; decide) rfl rfl ?_
  refine C.iinc (q := 17) (z := (1 : Int32)) (ls' := [.val (.ref h), .val (.int (-1 : Int32)), .val (.int ((2 : Int32) + (1 : Int32))), .val (.int (4 : Int32))]) df_14 rfl rfl rfl rfl ?_
  show G 0 0 [e0, (h, .inl (.int, [.int (-1 : Int32), .int (-1 : Int32), .int (-1 : Int32), .int (0 : Int32)]))] 17 [.val (.ref h), .val (.int (-1 : Int32)), .val (.int (3 : Int32)), .val (.int (4 : Int32))] []
  refine C.goto (q := 5) df_17 (by decide) (by decide) ?_
  refine C.iloadN (q := 6) df_5 rfl rfl ?_
  refine C.iloadN (q := 7) df_6 rfl rfl ?_
  refine C.icmpGe (q := 20) (q' := 10) df_7 (by decide) (by decide) rfl (fun h7 => ?_) (fun h7 => absurd (by decide) h7)
  refine C.aloadN (q := 11) df_10 rfl rfl rfl ?_
  refine C.iloadN (q := 12) df_11 rfl rfl ?_
  refine C.iloadN (q := 13) df_12 rfl rfl ?_
  refine C.iastore (q := 14) 1 (H' := [e0, (h, .inl (.int, [.int (-1 : Int32), .int (-1 : Int32), .int (-1 : Int32), .int (-1 : Int32)]))]) df_13 rfl (by decide) (by show _ < 4; decide) rfl rfl ?_
  refine C.iinc (q := 17) (z := (1 : Int32)) (ls' := [.val (.ref h), .val (.int (-1 : Int32)), .val (.int ((3 : Int32) + (1 : Int32))), .val (.int (4 : Int32))]) df_14 rfl rfl rfl rfl ?_
  show G 0 0 [e0, (h, .inl (.int, [.int (-1 : Int32), .int (-1 : Int32), .int (-1 : Int32), .int (-1 : Int32)]))] 17 [.val (.ref h), .val (.int (-1 : Int32)), .val (.int (4 : Int32)), .val (.int (4 : Int32))] []
  refine C.goto (q := 5) df_17 (by decide) (by decide) ?_
  refine C.iloadN (q := 6) df_5 rfl rfl ?_
  refine C.iloadN (q := 7) df_6 rfl rfl ?_
  refine C.icmpGe (q := 20) (q' := 10) df_7 (by decide) (by decide) rfl (fun h7 => absurd h7 (by decide)) (fun h7 => ?_)
  exact C.retV df_20 (by decide) (by decide) ⟨rfl, rfl⟩
def own_z4 : own_TL := ([-1, -1, -1, -1], [0, 0, 0, 0, 0], [0, 0, 0, 0], 0)
theorem di_0 : decode prog_11_method_1_code 0 = .ok (.aload_n 0, 1) := by decide +kernel
theorem di_1 : decode prog_11_method_1_code 1 = .ok (.invokespecial 1, 3) := by decide +kernel
theorem di_4 : decode prog_11_method_1_code 4 = .ok (.aload_n 0, 1) := by decide +kernel
theorem di_5 : decode prog_11_method_1_code 5 = .ok (.iload_n 1, 1) := by decide +kernel
theorem di_6 : decode prog_11_method_1_code 6 = .ok (.newarray .int, 2) := by decide +kernel
theorem di_8 : decode prog_11_method_1_code 8 = .ok (.putfield 7, 3) := by decide +kernel
theorem di_11 : decode prog_11_method_1_code 11 = .ok (.aload_n 0, 1) := by decide +kernel
theorem di_12 : decode prog_11_method_1_code 12 = .ok (.getfield 7, 3) := by decide +kernel
theorem di_15 : decode prog_11_method_1_code 15 = .ok (.iconst (-1), 1) := by decide +kernel
theorem di_16 : decode prog_11_method_1_code 16 = .ok (.invokestatic 13, 3) := by decide +kernel
theorem di_19 : decode prog_11_method_1_code 19 = .ok (.aload_n 0, 1) := by decide +kernel
theorem di_20 : decode prog_11_method_1_code 20 = .ok (.iload_n 2, 1) := by decide +kernel
theorem di_21 : decode prog_11_method_1_code 21 = .ok (.newarray .int, 2) := by decide +kernel
theorem di_23 : decode prog_11_method_1_code 23 = .ok (.putfield 19, 3) := by decide +kernel
theorem di_26 : decode prog_11_method_1_code 26 = .ok (.aload_n 0, 1) := by decide +kernel
theorem di_27 : decode prog_11_method_1_code 27 = .ok (.iload_n 1, 1) := by decide +kernel
theorem di_28 : decode prog_11_method_1_code 28 = .ok (.newarray .int, 2) := by decide +kernel
theorem di_30 : decode prog_11_method_1_code 30 = .ok (.putfield 22, 3) := by decide +kernel
theorem di_33 : decode prog_11_method_1_code 33 = .ok (.return_, 1) := by decide +kernel
theorem own_pn5 : plainFor (⟨"com/example/terms_to_transitions/termstotransitions/equivalence/TransitionLists", "<init>", "(II)V"⟩ : MethodName) = true := by first | exact plainFor_of_name (by first | (simp [plainName, overriddenIn]; done) | decide +kernel) | decide +kernel
set_option maxHeartbeats 4000000 in
theorem own_ef5 (m : MethodId) (x0 : Addr) (x1 : Int32) (x2 : Int32) : entryFrame m #[.ref x0, .int x1, .int x2] 3 = mkF m 0 #[.val (.ref x0), .val (.int x1), .val (.int x2)] [] := by first | (simp [entryFrame, mkF, argsToLocals, Value.category, maxLocals]; done) | rfl
set_option maxRecDepth 65536 in
set_option maxHeartbeats 40000000 in
theorem own_c5 (l : Launch) (Z : State) (a0 : Array Value) (n0 : Nat) (hw : ∀ d ∈ tables_1, d.before a0 Z = true) (ws : List Jvm.Cond) (o : Addr)  :
    own_Con l Z n0 (⟨"com/example/terms_to_transitions/termstotransitions/equivalence/TransitionLists", "<init>", "(II)V"⟩ : MethodName) prog_11_method_1_code 3 none ws ({ frames := 1, cells := 3, slots := 13, locals := 20 } : Room) #[.ref o, .int (4 : Int32), .int (5 : Int32)] [(o, .inr ("com/example/terms_to_transitions/termstotransitions/equivalence/TransitionLists", [("heads", "[I", .null), ("nexts", "[I", .null), ("keysMet", "[I", .null), ("keysMetCount", "I", .int (0 : Int32))]))] (fun v H' => v = none ∧ ∃ h x m, H' = [(o, .inr ("com/example/terms_to_transitions/termstotransitions/equivalence/TransitionLists", [("heads", "[I", .ref h), ("nexts", "[I", .ref x), ("keysMet", "[I", .ref m), ("keysMetCount", "I", .int own_z4.2.2.2)])), (h, .inl (.int, (own_vl own_z4.1))), (x, .inl (.int, (own_vl own_z4.2.1))), (m, .inl (.int, (own_vl own_z4.2.2.1)))]) := by
  refine own_con own_pn5 (fun m_ => own_ef5 m_ o (4 : Int32) (5 : Int32)) ?_
  intro G C
  refine C.aloadN (q := 1) di_0 rfl rfl rfl ?_
  refine C.initO (q := 4) 0 di_1 (hw _ (List.mem_of_getElem? (i := 6) rfl)) (hw _ (List.mem_of_getElem? (i := 7) rfl)) (hw _ (List.mem_of_getElem? (i := 8) rfl)) rfl (by decide) (Nat.le_of_eq rfl) (by decide) rfl ?_
  refine C.aloadN (q := 5) di_4 rfl rfl rfl ?_
  refine C.iloadN (q := 6) di_5 rfl rfl ?_
  refine C.newarr (q := 8) 4 (ty := .int) (vs := [.int (0 : Int32), .int (0 : Int32), .int (0 : Int32), .int (0 : Int32)]) (k' := 1) (n' := 4) di_6 (hw _ (List.mem_of_getElem? (i := 9) rfl)) (by decide) (by decide) (by decide) (by decide) (by decide) rfl rfl rfl rfl rfl (fun a6 => ?_)
  show G 1 4 [(o, .inr ("com/example/terms_to_transitions/termstotransitions/equivalence/TransitionLists", [("heads", "[I", .null), ("nexts", "[I", .null), ("keysMet", "[I", .null), ("keysMetCount", "I", .int (0 : Int32))])), (a6, .inl (.int, [.int (0 : Int32), .int (0 : Int32), .int (0 : Int32), .int (0 : Int32)]))] 8 [.val (.ref o), .val (.int (4 : Int32)), .val (.int (5 : Int32))] [.ref a6, .ref o]
  refine C.putf (q := 11) 0 0 (ty := (.array .int)) (H' := [(o, .inr ("com/example/terms_to_transitions/termstotransitions/equivalence/TransitionLists", [("heads", "[I", .ref a6), ("nexts", "[I", .null), ("keysMet", "[I", .null), ("keysMetCount", "I", .int (0 : Int32))])), (a6, .inl (.int, [.int (0 : Int32), .int (0 : Int32), .int (0 : Int32), .int (0 : Int32)]))]) di_8 (hw _ (List.mem_of_getElem? (i := 10) rfl)) (Or.inr ⟨(hw _ (List.mem_of_getElem? (i := 11) rfl)), rfl, rfl⟩) (hw _ (List.mem_of_getElem? (i := 1) rfl)) rfl rfl (by decide) rfl rfl rfl rfl ?_
  refine C.aloadN (q := 12) di_11 rfl rfl rfl ?_
  refine C.getf (q := 15) 0 0 (v := .ref a6) di_12 (hw _ (List.mem_of_getElem? (i := 10) rfl)) rfl rfl rfl ?_
  refine C.iconst (q := 16) (z := (-1 : Int32)) di_15 rfl rfl ?_
  refine C.callS (q := 19) 0 [.ref a6, .int (-1 : Int32)] [] di_16 (hw _ (List.mem_of_getElem? (i := 12) rfl)) (hw _ (List.mem_of_getElem? (i := 13) rfl)) (hw _ (List.mem_of_getElem? (i := 14) rfl)) (hw _ (List.mem_of_getElem? (i := 15) rfl)) (own_c5f l Z a0 n0 hw [] a6 _) (by decide) (by decide) (by decide) own_pd0 rfl rfl rfl (Nat.le_of_eq rfl) (by decide) (by decide) rfl ?_
  rintro _ _ ⟨rfl, hE⟩
  rw [hE]
  show G 1 4 [(o, .inr ("com/example/terms_to_transitions/termstotransitions/equivalence/TransitionLists", [("heads", "[I", .ref a6), ("nexts", "[I", .null), ("keysMet", "[I", .null), ("keysMetCount", "I", .int (0 : Int32))])), (a6, .inl (.int, [.int (-1 : Int32), .int (-1 : Int32), .int (-1 : Int32), .int (-1 : Int32)]))] 19 [.val (.ref o), .val (.int (4 : Int32)), .val (.int (5 : Int32))] []
  refine C.aloadN (q := 20) di_19 rfl rfl rfl ?_
  refine C.iloadN (q := 21) di_20 rfl rfl ?_
  refine C.newarr (q := 23) 5 (ty := .int) (vs := [.int (0 : Int32), .int (0 : Int32), .int (0 : Int32), .int (0 : Int32), .int (0 : Int32)]) (k' := 2) (n' := 9) di_21 (hw _ (List.mem_of_getElem? (i := 9) rfl)) (by decide) (by decide) (by decide) (by decide) (by decide) rfl rfl rfl rfl rfl (fun a21 => ?_)
  show G 2 9 [(o, .inr ("com/example/terms_to_transitions/termstotransitions/equivalence/TransitionLists", [("heads", "[I", .ref a6), ("nexts", "[I", .null), ("keysMet", "[I", .null), ("keysMetCount", "I", .int (0 : Int32))])), (a6, .inl (.int, [.int (-1 : Int32), .int (-1 : Int32), .int (-1 : Int32), .int (-1 : Int32)])), (a21, .inl (.int, [.int (0 : Int32), .int (0 : Int32), .int (0 : Int32), .int (0 : Int32), .int (0 : Int32)]))] 23 [.val (.ref o), .val (.int (4 : Int32)), .val (.int (5 : Int32))] [.ref a21, .ref o]
  refine C.putf (q := 26) 0 1 (ty := (.array .int)) (H' := [(o, .inr ("com/example/terms_to_transitions/termstotransitions/equivalence/TransitionLists", [("heads", "[I", .ref a6), ("nexts", "[I", .ref a21), ("keysMet", "[I", .null), ("keysMetCount", "I", .int (0 : Int32))])), (a6, .inl (.int, [.int (-1 : Int32), .int (-1 : Int32), .int (-1 : Int32), .int (-1 : Int32)])), (a21, .inl (.int, [.int (0 : Int32), .int (0 : Int32), .int (0 : Int32), .int (0 : Int32), .int (0 : Int32)]))]) di_23 (hw _ (List.mem_of_getElem? (i := 16) rfl)) (Or.inr ⟨(hw _ (List.mem_of_getElem? (i := 17) rfl)), rfl, rfl⟩) (hw _ (List.mem_of_getElem? (i := 1) rfl)) rfl rfl (by decide) rfl rfl rfl rfl ?_
  refine C.aloadN (q := 27) di_26 rfl rfl rfl ?_
  refine C.iloadN (q := 28) di_27 rfl rfl ?_
  refine C.newarr (q := 30) 4 (ty := .int) (vs := [.int (0 : Int32), .int (0 : Int32), .int (0 : Int32), .int (0 : Int32)]) (k' := 3) (n' := 13) di_28 (hw _ (List.mem_of_getElem? (i := 9) rfl)) (by decide) (by decide) (by decide) (by decide) (by decide) rfl rfl rfl rfl rfl (fun a28 => ?_)
  show G 3 13 [(o, .inr ("com/example/terms_to_transitions/termstotransitions/equivalence/TransitionLists", [("heads", "[I", .ref a6), ("nexts", "[I", .ref a21), ("keysMet", "[I", .null), ("keysMetCount", "I", .int (0 : Int32))])), (a6, .inl (.int, [.int (-1 : Int32), .int (-1 : Int32), .int (-1 : Int32), .int (-1 : Int32)])), (a21, .inl (.int, [.int (0 : Int32), .int (0 : Int32), .int (0 : Int32), .int (0 : Int32), .int (0 : Int32)])), (a28, .inl (.int, [.int (0 : Int32), .int (0 : Int32), .int (0 : Int32), .int (0 : Int32)]))] 30 [.val (.ref o), .val (.int (4 : Int32)), .val (.int (5 : Int32))] [.ref a28, .ref o]
  refine C.putf (q := 33) 0 2 (ty := (.array .int)) (H' := [(o, .inr ("com/example/terms_to_transitions/termstotransitions/equivalence/TransitionLists", [("heads", "[I", .ref a6), ("nexts", "[I", .ref a21), ("keysMet", "[I", .ref a28), ("keysMetCount", "I", .int (0 : Int32))])), (a6, .inl (.int, [.int (-1 : Int32), .int (-1 : Int32), .int (-1 : Int32), .int (-1 : Int32)])), (a21, .inl (.int, [.int (0 : Int32), .int (0 : Int32), .int (0 : Int32), .int (0 : Int32), .int (0 : Int32)])), (a28, .inl (.int, [.int (0 : Int32), .int (0 : Int32), .int (0 : Int32), .int (0 : Int32)]))]) di_30 (hw _ (List.mem_of_getElem? (i := 18) rfl)) (Or.inr ⟨(hw _ (List.mem_of_getElem? (i := 19) rfl)), rfl, rfl⟩) (hw _ (List.mem_of_getElem? (i := 1) rfl)) rfl rfl (by decide) rfl rfl rfl rfl ?_
  exact C.retV di_33 (by decide) (by decide) ⟨rfl, a6, a21, a28, rfl⟩
def own_cl (ks : List Int32) : Nat → List Int32 → Nat → List Int32
  | 0, hs, _ => hs
  | k + 1, hs, i => own_cl ks k (hs.set (ks.getD i 0).toNatClampNeg (-1)) (i + 1)
def own_clr (s : own_TL) : own_TL := (own_cl s.2.2.1 s.2.2.2.toNatClampNeg s.1 0, s.2.1, s.2.2.1, 0)
def own_ko (s : own_TL) : Prop := (0 ≤ s.2.2.2.toInt ∧ s.2.2.2.toNatClampNeg ≤ s.2.2.1.length ∧ s.2.2.1.length < 1000) ∧ ∀ i, i < s.2.2.2.toNatClampNeg → ¬ s.2.2.1.getD i 0 < 0 ∧ (s.2.2.1.getD i 0).toNatClampNeg < s.1.length
theorem d6_2 : decode prog_11_method_6_code 2 = .ok (.iload_n 1, 1) := by decide +kernel
theorem d6_3 : decode prog_11_method_6_code 3 = .ok (.aload_n 0, 1) := by decide +kernel
theorem d6_4 : decode prog_11_method_6_code 4 = .ok (.getfield 25, 3) := by decide +kernel
theorem d6_7 : decode prog_11_method_6_code 7 = .ok (.if_icmp .ge 21, 3) := by decide +kernel
theorem d6_10 : decode prog_11_method_6_code 10 = .ok (.aload_n 0, 1) := by decide +kernel
theorem d6_11 : decode prog_11_method_6_code 11 = .ok (.getfield 7, 3) := by decide +kernel
theorem d6_14 : decode prog_11_method_6_code 14 = .ok (.aload_n 0, 1) := by decide +kernel
theorem d6_15 : decode prog_11_method_6_code 15 = .ok (.getfield 22, 3) := by decide +kernel
theorem d6_18 : decode prog_11_method_6_code 18 = .ok (.iload_n 1, 1) := by decide +kernel
theorem d6_19 : decode prog_11_method_6_code 19 = .ok (.iaload, 1) := by decide +kernel
theorem d6_20 : decode prog_11_method_6_code 20 = .ok (.iconst (-1), 1) := by decide +kernel
theorem d6_21 : decode prog_11_method_6_code 21 = .ok (.iastore, 1) := by decide +kernel
theorem d6_22 : decode prog_11_method_6_code 22 = .ok (.iinc 1 1, 3) := by decide +kernel
theorem d6_25 : decode prog_11_method_6_code 25 = .ok (.goto (-23), 3) := by decide +kernel
set_option maxRecDepth 65536 in
theorem own_tc {Z : State} {a0 : Array Value} {n0 : Nat} {R : Room} {l : Launch} {Q : Option Value → own_Hs → Prop} {G : Nat → Nat → own_Hs → Nat → List Slot → List Value → Prop} (hw : ∀ d ∈ tables_1, d.before a0 Z = true)
    (C : own_Wk Z n0 R (⟨"com/example/terms_to_transitions/termstotransitions/equivalence/TransitionLists", "clear", "()V"⟩ : MethodName) prog_11_method_6_code 2 none l Q G) (o h x m : Addr) (s : own_TL) (hs : List Int32) (i : Nat) (hi : i < 1000) (hb : Int32.ofNat i < s.2.2.2 → i < s.2.2.1.length ∧ ¬ s.2.2.1.getD i 0 < 0 ∧ (s.2.2.1.getD i 0).toNatClampNeg < hs.length)
    (K0 : ¬ Int32.ofNat i < s.2.2.2 → G 0 0 [(o, .inr ("com/example/terms_to_transitions/termstotransitions/equivalence/TransitionLists", [("heads", "[I", .ref h), ("nexts", "[I", .ref x), ("keysMet", "[I", .ref m), ("keysMetCount", "I", .int s.2.2.2)])), (h, .inl (.int, (own_vl hs))), (x, .inl (.int, (own_vl s.2.1))), (m, .inl (.int, (own_vl s.2.2.1)))] 28 [.val (.ref o), .val (.int (Int32.ofNat i))] []) (K1 : Int32.ofNat i < s.2.2.2 → G 0 0 [(o, .inr ("com/example/terms_to_transitions/termstotransitions/equivalence/TransitionLists", [("heads", "[I", .ref h), ("nexts", "[I", .ref x), ("keysMet", "[I", .ref m), ("keysMetCount", "I", .int s.2.2.2)])), (h, .inl (.int, (own_vl (hs.set (s.2.2.1.getD i 0).toNatClampNeg (-1))))), (x, .inl (.int, (own_vl s.2.1))), (m, .inl (.int, (own_vl s.2.2.1)))] 2 [.val (.ref o), .val (.int ((Int32.ofNat i) + (1 : Int32)))] []) : G 0 0 [(o, .inr ("com/example/terms_to_transitions/termstotransitions/equivalence/TransitionLists", [("heads", "[I", .ref h), ("nexts", "[I", .ref x), ("keysMet", "[I", .ref m), ("keysMetCount", "I", .int s.2.2.2)])), (h, .inl (.int, (own_vl hs))), (x, .inl (.int, (own_vl s.2.1))), (m, .inl (.int, (own_vl s.2.2.1)))] 2 [.val (.ref o), .val (.int (Int32.ofNat i))] [] := by
  refine C.iloadN (q := 3) d6_2 rfl rfl ?_
  refine C.aloadN (q := 4) d6_3 rfl rfl rfl ?_
  refine C.getf (q := 7) 0 3 (v := .int s.2.2.2) d6_4 (hw _ (List.mem_of_getElem? (i := 25) rfl)) rfl rfl rfl ?_
  refine C.icmpGe (q := 28) (q' := 10) d6_7 (by decide) (by decide) rfl (fun h7 => ?_) (fun h7 => ?_)
  · refine C.aloadN (q := 11) d6_10 rfl rfl rfl ?_
    refine C.getf (q := 14) 0 0 (v := .ref h) d6_11 (hw _ (List.mem_of_getElem? (i := 10) rfl)) rfl rfl rfl ?_
    refine C.aloadN (q := 15) d6_14 rfl rfl rfl ?_
    refine C.getf (q := 18) 0 2 (v := .ref m) d6_15 (hw _ (List.mem_of_getElem? (i := 18) rfl)) rfl rfl rfl ?_
    refine C.iloadN (q := 19) d6_18 rfl rfl ?_
    refine C.iaload (q := 20) 3 (v := .int (s.2.2.1.getD i 0)) d6_19 rfl (own_nn hi) (by rw [own_cn hi]; exact own_vl_at (hb h7).1) rfl ?_
    refine C.iconst (q := 21) (z := (-1 : Int32)) d6_20 rfl rfl ?_
    refine C.iastore (q := 22) 1 (H' := [(o, .inr ("com/example/terms_to_transitions/termstotransitions/equivalence/TransitionLists", [("heads", "[I", .ref h), ("nexts", "[I", .ref x), ("keysMet", "[I", .ref m), ("keysMetCount", "I", .int s.2.2.2)])), (h, .inl (.int, (own_vl (hs.set (s.2.2.1.getD i 0).toNatClampNeg (-1))))), (x, .inl (.int, (own_vl s.2.1))), (m, .inl (.int, (own_vl s.2.2.1)))]) d6_21 rfl (hb h7).2.1 (by rw [own_vl_len]; exact (hb h7).2.2) (by rw [own_vl_set]; rfl) rfl ?_
    refine C.iinc (q := 25) (z := (1 : Int32)) (ls' := [.val (.ref o), .val (.int ((Int32.ofNat i) + (1 : Int32)))]) d6_22 rfl rfl rfl rfl ?_
    refine C.goto (q := 2) d6_25 (by decide) (by decide) ?_
    exact K1 h7
  · exact K0 h7
theorem own_lpc {Z : State} {a0 : Array Value} {n0 : Nat} {R : Room} {l : Launch} {Q : Option Value → own_Hs → Prop} {G : Nat → Nat → own_Hs → Nat → List Slot → List Value → Prop} (hw : ∀ d ∈ tables_1, d.before a0 Z = true)
    (C : own_Wk Z n0 R (⟨"com/example/terms_to_transitions/termstotransitions/equivalence/TransitionLists", "clear", "()V"⟩ : MethodName) prog_11_method_6_code 2 none l Q G) (o h x m : Addr) (s : own_TL) (hok : own_ko s) :
    ∀ (k i : Nat) (hs : List Int32), hs.length = s.1.length → i + k = s.2.2.2.toNatClampNeg → (∀ z, G 0 0 [(o, .inr ("com/example/terms_to_transitions/termstotransitions/equivalence/TransitionLists", [("heads", "[I", .ref h), ("nexts", "[I", .ref x), ("keysMet", "[I", .ref m), ("keysMetCount", "I", .int s.2.2.2)])), (h, .inl (.int, (own_vl (own_cl s.2.2.1 k hs i)))), (x, .inl (.int, (own_vl s.2.1))), (m, .inl (.int, (own_vl s.2.2.1)))] 28 [.val (.ref o), .val (.int z)] []) → G 0 0 [(o, .inr ("com/example/terms_to_transitions/termstotransitions/equivalence/TransitionLists", [("heads", "[I", .ref h), ("nexts", "[I", .ref x), ("keysMet", "[I", .ref m), ("keysMetCount", "I", .int s.2.2.2)])), (h, .inl (.int, (own_vl hs))), (x, .inl (.int, (own_vl s.2.1))), (m, .inl (.int, (own_vl s.2.2.1)))] 2 [.val (.ref o), .val (.int (Int32.ofNat i))] [] := by
  have hc : s.2.2.2.toInt = s.2.2.2.toNatClampNeg := by have := hok.1.1; rw [Int32.toNatClampNeg]; omega
  have hlt : ∀ i : Nat, i < 1000 → (Int32.ofNat i < s.2.2.2 ↔ i < s.2.2.2.toNatClampNeg) := fun i hi => by rw [Int32.lt_iff_toInt_lt, own_ti hi, hc]; omega
  intro k
  induction k with
  | zero =>
    intro i hs hl hk K
    have hn : ¬ Int32.ofNat i < s.2.2.2 := by rw [hlt i (by have := hok.1; omega)]; omega
    exact own_tc hw C o h x m s hs i (by have := hok.1; omega) (fun z => absurd z hn) (fun _ => K _) (fun z => absurd z hn)
  | succ k ih =>
    intro i hs hl hk K
    have hb := hok.1
    have hy : Int32.ofNat i < s.2.2.2 := by rw [hlt i (by omega)]; omega
    refine own_tc hw C o h x m s hs i (by omega) (fun _ => ⟨by omega, (hok.2 i (by omega)).1, by rw [hl]; exact (hok.2 i (by omega)).2⟩) (fun z => absurd hy z) (fun _ => ?_)
    rw [own_sc]
    exact ih (i + 1) _ (by rw [List.length_set, hl]) (by omega) K
theorem d6_0 : decode prog_11_method_6_code 0 = .ok (.iconst 0, 1) := by decide +kernel
theorem d6_1 : decode prog_11_method_6_code 1 = .ok (.istore_n 1, 1) := by decide +kernel
theorem d6_28 : decode prog_11_method_6_code 28 = .ok (.aload_n 0, 1) := by decide +kernel
theorem d6_29 : decode prog_11_method_6_code 29 = .ok (.iconst 0, 1) := by decide +kernel
theorem d6_30 : decode prog_11_method_6_code 30 = .ok (.putfield 25, 3) := by decide +kernel
theorem d6_33 : decode prog_11_method_6_code 33 = .ok (.return_, 1) := by decide +kernel
theorem own_pn6 : plainFor (⟨"com/example/terms_to_transitions/termstotransitions/equivalence/TransitionLists", "clear", "()V"⟩ : MethodName) = true := by first | exact plainFor_of_name (by first | (simp [plainName, overriddenIn]; done) | decide +kernel) | decide +kernel
set_option maxHeartbeats 4000000 in
theorem own_ef6 (m : MethodId) (x0 : Addr) : entryFrame m #[.ref x0] 2 = mkF m 0 #[.val (.ref x0), .unset] [] := by first | (simp [entryFrame, mkF, argsToLocals, Value.category, maxLocals]; done) | rfl
set_option maxRecDepth 65536 in
set_option maxHeartbeats 40000000 in
theorem own_c6 (l : Launch) (Z : State) (a0 : Array Value) (n0 : Nat) (hw : ∀ d ∈ tables_1, d.before a0 Z = true) (ws : List Jvm.Cond) (o h x m : Addr) (s : own_TL) (hok : own_ko s) :
    own_Con l Z n0 (⟨"com/example/terms_to_transitions/termstotransitions/equivalence/TransitionLists", "clear", "()V"⟩ : MethodName) prog_11_method_6_code 2 none ws ({ frames := 0, cells := 0, slots := 0, locals := 0 } : Room) #[.ref o] [(o, .inr ("com/example/terms_to_transitions/termstotransitions/equivalence/TransitionLists", [("heads", "[I", .ref h), ("nexts", "[I", .ref x), ("keysMet", "[I", .ref m), ("keysMetCount", "I", .int s.2.2.2)])), (h, .inl (.int, (own_vl s.1))), (x, .inl (.int, (own_vl s.2.1))), (m, .inl (.int, (own_vl s.2.2.1)))] (fun v H' => v = none ∧ H' = [(o, .inr ("com/example/terms_to_transitions/termstotransitions/equivalence/TransitionLists", [("heads", "[I", .ref h), ("nexts", "[I", .ref x), ("keysMet", "[I", .ref m), ("keysMetCount", "I", .int ((own_clr s).2.2.2))])), (h, .inl (.int, (own_vl (own_clr s).1))), (x, .inl (.int, (own_vl (own_clr s).2.1))), (m, .inl (.int, (own_vl (own_clr s).2.2.1)))]) := by
  refine own_con own_pn6 (fun m_ => own_ef6 m_ o) ?_
  intro G C
  refine C.iconst (q := 1) (z := (0 : Int32)) d6_0 rfl rfl ?_
  refine C.istoreN (q := 2) (ls' := [.val (.ref o), .val (.int (0 : Int32))]) d6_1 rfl rfl ?_
  refine own_lpc hw C o h x m s hok s.2.2.2.toNatClampNeg 0 s.1 rfl (Nat.zero_add _) (fun z => ?_)
  refine C.aloadN (q := 29) d6_28 rfl rfl rfl ?_
  refine C.iconst (q := 30) (z := (0 : Int32)) d6_29 rfl rfl ?_
  refine C.putf (q := 33) 0 3 (ty := .int) (H' := [(o, .inr ("com/example/terms_to_transitions/termstotransitions/equivalence/TransitionLists", [("heads", "[I", .ref h), ("nexts", "[I", .ref x), ("keysMet", "[I", .ref m), ("keysMetCount", "I", .int (0 : Int32))])), (h, .inl (.int, (own_vl (own_cl s.2.2.1 s.2.2.2.toNatClampNeg s.1 0)))), (x, .inl (.int, (own_vl s.2.1))), (m, .inl (.int, (own_vl s.2.2.1)))]) d6_30 (hw _ (List.mem_of_getElem? (i := 25) rfl)) (Or.inl (hw _ (List.mem_of_getElem? (i := 26) rfl))) (hw _ (List.mem_of_getElem? (i := 1) rfl)) rfl rfl (by decide) rfl rfl rfl rfl ?_
  exact C.retV d6_33 (by decide) (by decide) ⟨rfl, rfl⟩
def own_okB (s : own_TL) (t k : Nat) : Bool := decide (k < s.1.length) && decide (t < s.2.1.length) && (!decide (s.1.getD k 0 = -1) || (!decide (s.2.2.2 < 0) && decide (s.2.2.2.toNatClampNeg < s.2.2.1.length)))
theorem own_okB.ok {s : own_TL} {t k : Nat} (h : own_okB s t k = true) : own_ok s t k := by
  simp only [own_okB, Bool.and_eq_true, Bool.or_eq_true, Bool.not_eq_true', decide_eq_true_eq, decide_eq_false_iff_not] at h
  exact ⟨h.1.1, h.1.2, fun z => h.2.elim (fun q => absurd z q) id⟩
def own_koB (s : own_TL) : Bool := decide (0 ≤ s.2.2.2.toInt) && decide (s.2.2.2.toNatClampNeg ≤ s.2.2.1.length) && decide (s.2.2.1.length < 1000) && (List.range s.2.2.2.toNatClampNeg).all fun i => !decide (s.2.2.1.getD i 0 < 0) && decide ((s.2.2.1.getD i 0).toNatClampNeg < s.1.length)
theorem own_koB.ok {s : own_TL} (h : own_koB s = true) : own_ko s := by
  simp only [own_koB, Bool.and_eq_true, Bool.not_eq_true', decide_eq_true_eq, decide_eq_false_iff_not, List.all_eq_true, List.mem_range] at h
  exact ⟨⟨h.1.1.1, h.1.1.2, h.1.2⟩, h.2⟩
def own_fB (s : own_TL) (i : Nat) : Bool := decide (i < s.2.2.1.length) && !decide (s.2.2.1.getD i 0 < 0) && decide ((s.2.2.1.getD i 0).toNatClampNeg < s.1.length)
theorem own_fB.ok {s : own_TL} {i : Nat} (h : own_fB s i = true) : i < s.2.2.1.length ∧ ¬ s.2.2.1.getD i 0 < 0 ∧ (s.2.2.1.getD i 0).toNatClampNeg < s.1.length := by
  simp only [own_fB, Bool.and_eq_true, Bool.not_eq_true', decide_eq_true_eq, decide_eq_false_iff_not] at h
  exact ⟨h.1.1, h.1.2, h.2⟩
theorem own_m3 (a : Int32) : ∃ n : Nat, n < 4 ∧ (a &&& (3 : Int32)) = Int32.ofNat n := by
  have m := c_mask a 3 2 (by decide) (by decide)
  exact ⟨(a &&& (3 : Int32)).toInt.toNat, by omega, own_ofInt (by omega) (by omega)⟩
set_option maxRecDepth 65536 in
set_option maxHeartbeats 40000000 in
theorem own_all0 : ∀ p q : Fin 4, own_koB own_z4 = true ∧ own_okB (own_clr own_z4) 3 p.val = true ∧ own_okB (own_add (own_clr own_z4) 3 p.val) 4 q.val = true ∧ (p.val = q.val → (own_add (own_add (own_clr own_z4) 3 p.val) 4 q.val).2.2.2 = 1 ∧ own_fB (own_add (own_add (own_clr own_z4) 3 p.val) 4 q.val) 0 = true ∧ ((own_add (own_add (own_clr own_z4) 3 p.val) 4 q.val).1.getD ((own_add (own_add (own_clr own_z4) 3 p.val) 4 q.val).2.2.1.getD 0 0).toNatClampNeg 0) = 4 ∧ 4 < (own_add (own_add (own_clr own_z4) 3 p.val) 4 q.val).2.1.length ∧ (own_add (own_add (own_clr own_z4) 3 p.val) 4 q.val).2.1.getD 4 0 = 3 ∧ (own_add (own_add (own_clr own_z4) 3 p.val) 4 q.val).2.1.getD 3 0 = -1) ∧ (¬ p.val = q.val → (own_add (own_add (own_clr own_z4) 3 p.val) 4 q.val).2.2.2 = 2 ∧ own_fB (own_add (own_add (own_clr own_z4) 3 p.val) 4 q.val) 0 = true ∧ ((own_add (own_add (own_clr own_z4) 3 p.val) 4 q.val).1.getD ((own_add (own_add (own_clr own_z4) 3 p.val) 4 q.val).2.2.1.getD 0 0).toNatClampNeg 0) = 3 ∧ 4 < (own_add (own_add (own_clr own_z4) 3 p.val) 4 q.val).2.1.length ∧ (own_add (own_add (own_clr own_z4) 3 p.val) 4 q.val).2.1.getD 3 0 = -1 ∧ own_fB (own_add (own_add (own_clr own_z4) 3 p.val) 4 q.val) 1 = true ∧ ((own_add (own_add (own_clr own_z4) 3 p.val) 4 q.val).1.getD ((own_add (own_add (own_clr own_z4) 3 p.val) 4 q.val).2.2.1.getD 1 0).toNatClampNeg 0) = 4 ∧ (own_add (own_add (own_clr own_z4) 3 p.val) 4 q.val).2.1.getD 4 0 = -1) := by decide +kernel
set_option maxRecDepth 65536 in
set_option maxHeartbeats 40000000 in
theorem own_all1 : ∀ k0 p q : Fin 4, own_okB own_z4 0 k0.val = true ∧ own_koB (own_add own_z4 0 k0.val) = true ∧ own_okB (own_clr (own_add own_z4 0 k0.val)) 3 p.val = true ∧ own_okB (own_add (own_clr (own_add own_z4 0 k0.val)) 3 p.val) 4 q.val = true ∧ (p.val = q.val → (own_add (own_add (own_clr (own_add own_z4 0 k0.val)) 3 p.val) 4 q.val).2.2.2 = 1 ∧ own_fB (own_add (own_add (own_clr (own_add own_z4 0 k0.val)) 3 p.val) 4 q.val) 0 = true ∧ ((own_add (own_add (own_clr (own_add own_z4 0 k0.val)) 3 p.val) 4 q.val).1.getD ((own_add (own_add (own_clr (own_add own_z4 0 k0.val)) 3 p.val) 4 q.val).2.2.1.getD 0 0).toNatClampNeg 0) = 4 ∧ 4 < (own_add (own_add (own_clr (own_add own_z4 0 k0.val)) 3 p.val) 4 q.val).2.1.length ∧ (own_add (own_add (own_clr (own_add own_z4 0 k0.val)) 3 p.val) 4 q.val).2.1.getD 4 0 = 3 ∧ (own_add (own_add (own_clr (own_add own_z4 0 k0.val)) 3 p.val) 4 q.val).2.1.getD 3 0 = -1) ∧ (¬ p.val = q.val → (own_add (own_add (own_clr (own_add own_z4 0 k0.val)) 3 p.val) 4 q.val).2.2.2 = 2 ∧ own_fB (own_add (own_add (own_clr (own_add own_z4 0 k0.val)) 3 p.val) 4 q.val) 0 = true ∧ ((own_add (own_add (own_clr (own_add own_z4 0 k0.val)) 3 p.val) 4 q.val).1.getD ((own_add (own_add (own_clr (own_add own_z4 0 k0.val)) 3 p.val) 4 q.val).2.2.1.getD 0 0).toNatClampNeg 0) = 3 ∧ 4 < (own_add (own_add (own_clr (own_add own_z4 0 k0.val)) 3 p.val) 4 q.val).2.1.length ∧ (own_add (own_add (own_clr (own_add own_z4 0 k0.val)) 3 p.val) 4 q.val).2.1.getD 3 0 = -1 ∧ own_fB (own_add (own_add (own_clr (own_add own_z4 0 k0.val)) 3 p.val) 4 q.val) 1 = true ∧ ((own_add (own_add (own_clr (own_add own_z4 0 k0.val)) 3 p.val) 4 q.val).1.getD ((own_add (own_add (own_clr (own_add own_z4 0 k0.val)) 3 p.val) 4 q.val).2.2.1.getD 1 0).toNatClampNeg 0) = 4 ∧ (own_add (own_add (own_clr (own_add own_z4 0 k0.val)) 3 p.val) 4 q.val).2.1.getD 4 0 = -1) := by decide +kernel
set_option maxRecDepth 65536 in
set_option maxHeartbeats 40000000 in
theorem own_all2 : ∀ k0 k1 p q : Fin 4, own_okB own_z4 0 k0.val = true ∧ own_okB (own_add own_z4 0 k0.val) 1 k1.val = true ∧ own_koB (own_add (own_add own_z4 0 k0.val) 1 k1.val) = true ∧ own_okB (own_clr (own_add (own_add own_z4 0 k0.val) 1 k1.val)) 3 p.val = true ∧ own_okB (own_add (own_clr (own_add (own_add own_z4 0 k0.val) 1 k1.val)) 3 p.val) 4 q.val = true ∧ (p.val = q.val → (own_add (own_add (own_clr (own_add (own_add own_z4 0 k0.val) 1 k1.val)) 3 p.val) 4 q.val).2.2.2 = 1 ∧ own_fB (own_add (own_add (own_clr (own_add (own_add own_z4 0 k0.val) 1 k1.val)) 3 p.val) 4 q.val) 0 = true ∧ ((own_add (own_add (own_clr (own_add (own_add own_z4 0 k0.val) 1 k1.val)) 3 p.val) 4 q.val).1.getD ((own_add (own_add (own_clr (own_add (own_add own_z4 0 k0.val) 1 k1.val)) 3 p.val) 4 q.val).2.2.1.getD 0 0).toNatClampNeg 0) = 4 ∧ 4 < (own_add (own_add (own_clr (own_add (own_add own_z4 0 k0.val) 1 k1.val)) 3 p.val) 4 q.val).2.1.length ∧ (own_add (own_add (own_clr (own_add (own_add own_z4 0 k0.val) 1 k1.val)) 3 p.val) 4 q.val).2.1.getD 4 0 = 3 ∧ (own_add (own_add (own_clr (own_add (own_add own_z4 0 k0.val) 1 k1.val)) 3 p.val) 4 q.val).2.1.getD 3 0 = -1) ∧ (¬ p.val = q.val → (own_add (own_add (own_clr (own_add (own_add own_z4 0 k0.val) 1 k1.val)) 3 p.val) 4 q.val).2.2.2 = 2 ∧ own_fB (own_add (own_add (own_clr (own_add (own_add own_z4 0 k0.val) 1 k1.val)) 3 p.val) 4 q.val) 0 = true ∧ ((own_add (own_add (own_clr (own_add (own_add own_z4 0 k0.val) 1 k1.val)) 3 p.val) 4 q.val).1.getD ((own_add (own_add (own_clr (own_add (own_add own_z4 0 k0.val) 1 k1.val)) 3 p.val) 4 q.val).2.2.1.getD 0 0).toNatClampNeg 0) = 3 ∧ 4 < (own_add (own_add (own_clr (own_add (own_add own_z4 0 k0.val) 1 k1.val)) 3 p.val) 4 q.val).2.1.length ∧ (own_add (own_add (own_clr (own_add (own_add own_z4 0 k0.val) 1 k1.val)) 3 p.val) 4 q.val).2.1.getD 3 0 = -1 ∧ own_fB (own_add (own_add (own_clr (own_add (own_add own_z4 0 k0.val) 1 k1.val)) 3 p.val) 4 q.val) 1 = true ∧ ((own_add (own_add (own_clr (own_add (own_add own_z4 0 k0.val) 1 k1.val)) 3 p.val) 4 q.val).1.getD ((own_add (own_add (own_clr (own_add (own_add own_z4 0 k0.val) 1 k1.val)) 3 p.val) 4 q.val).2.2.1.getD 1 0).toNatClampNeg 0) = 4 ∧ (own_add (own_add (own_clr (own_add (own_add own_z4 0 k0.val) 1 k1.val)) 3 p.val) 4 q.val).2.1.getD 4 0 = -1) := by decide +kernel
set_option maxRecDepth 65536 in
set_option maxHeartbeats 40000000 in
theorem own_all3 : ∀ k0 k1 k2 p q : Fin 4, own_okB own_z4 0 k0.val = true ∧ own_okB (own_add own_z4 0 k0.val) 1 k1.val = true ∧ own_okB (own_add (own_add own_z4 0 k0.val) 1 k1.val) 2 k2.val = true ∧ own_koB (own_add (own_add (own_add own_z4 0 k0.val) 1 k1.val) 2 k2.val) = true ∧ own_okB (own_clr (own_add (own_add (own_add own_z4 0 k0.val) 1 k1.val) 2 k2.val)) 3 p.val = true ∧ own_okB (own_add (own_clr (own_add (own_add (own_add own_z4 0 k0.val) 1 k1.val) 2 k2.val)) 3 p.val) 4 q.val = true ∧ (p.val = q.val → (own_add (own_add (own_clr (own_add (own_add (own_add own_z4 0 k0.val) 1 k1.val) 2 k2.val)) 3 p.val) 4 q.val).2.2.2 = 1 ∧ own_fB (own_add (own_add (own_clr (own_add (own_add (own_add own_z4 0 k0.val) 1 k1.val) 2 k2.val)) 3 p.val) 4 q.val) 0 = true ∧ ((own_add (own_add (own_clr (own_add (own_add (own_add own_z4 0 k0.val) 1 k1.val) 2 k2.val)) 3 p.val) 4 q.val).1.getD ((own_add (own_add (own_clr (own_add (own_add (own_add own_z4 0 k0.val) 1 k1.val) 2 k2.val)) 3 p.val) 4 q.val).2.2.1.getD 0 0).toNatClampNeg 0) = 4 ∧ 4 < (own_add (own_add (own_clr (own_add (own_add (own_add own_z4 0 k0.val) 1 k1.val) 2 k2.val)) 3 p.val) 4 q.val).2.1.length ∧ (own_add (own_add (own_clr (own_add (own_add (own_add own_z4 0 k0.val) 1 k1.val) 2 k2.val)) 3 p.val) 4 q.val).2.1.getD 4 0 = 3 ∧ (own_add (own_add (own_clr (own_add (own_add (own_add own_z4 0 k0.val) 1 k1.val) 2 k2.val)) 3 p.val) 4 q.val).2.1.getD 3 0 = -1) ∧ (¬ p.val = q.val → (own_add (own_add (own_clr (own_add (own_add (own_add own_z4 0 k0.val) 1 k1.val) 2 k2.val)) 3 p.val) 4 q.val).2.2.2 = 2 ∧ own_fB (own_add (own_add (own_clr (own_add (own_add (own_add own_z4 0 k0.val) 1 k1.val) 2 k2.val)) 3 p.val) 4 q.val) 0 = true ∧ ((own_add (own_add (own_clr (own_add (own_add (own_add own_z4 0 k0.val) 1 k1.val) 2 k2.val)) 3 p.val) 4 q.val).1.getD ((own_add (own_add (own_clr (own_add (own_add (own_add own_z4 0 k0.val) 1 k1.val) 2 k2.val)) 3 p.val) 4 q.val).2.2.1.getD 0 0).toNatClampNeg 0) = 3 ∧ 4 < (own_add (own_add (own_clr (own_add (own_add (own_add own_z4 0 k0.val) 1 k1.val) 2 k2.val)) 3 p.val) 4 q.val).2.1.length ∧ (own_add (own_add (own_clr (own_add (own_add (own_add own_z4 0 k0.val) 1 k1.val) 2 k2.val)) 3 p.val) 4 q.val).2.1.getD 3 0 = -1 ∧ own_fB (own_add (own_add (own_clr (own_add (own_add (own_add own_z4 0 k0.val) 1 k1.val) 2 k2.val)) 3 p.val) 4 q.val) 1 = true ∧ ((own_add (own_add (own_clr (own_add (own_add (own_add own_z4 0 k0.val) 1 k1.val) 2 k2.val)) 3 p.val) 4 q.val).1.getD ((own_add (own_add (own_clr (own_add (own_add (own_add own_z4 0 k0.val) 1 k1.val) 2 k2.val)) 3 p.val) 4 q.val).2.2.1.getD 1 0).toNatClampNeg 0) = 4 ∧ (own_add (own_add (own_clr (own_add (own_add (own_add own_z4 0 k0.val) 1 k1.val) 2 k2.val)) 3 p.val) 4 q.val).2.1.getD 4 0 = -1) := by decide +kernel
theorem own_q4 (a : Int32) : (a &&& (3 : Int32)) = 0 ∨ (a &&& (3 : Int32)) = 1 ∨ (a &&& (3 : Int32)) = 2 ∨ (a &&& (3 : Int32)) = 3 := by
  obtain ⟨n, hn, e⟩ := own_m3 a
  rw [e]
  match n, hn with
  | 0, _ => exact Or.inl rfl
  | 1, _ => exact Or.inr (Or.inl rfl)
  | 2, _ => exact Or.inr (Or.inr (Or.inl rfl))
  | 3, _ => exact Or.inr (Or.inr (Or.inr rfl))
theorem own_ie {i n : Nat} (h : i < 1000) (g : n < 1000) : Int32.ofNat i = Int32.ofNat n ↔ i = n := by rw [← Int32.toInt_inj, own_ti h, own_ti g]; omega
theorem own_pnlaw : plainFor x = true := by first | exact plainFor_of_name (by first | (simp [plainName, overriddenIn]; done) | decide +kernel) | decide +kernel
set_option maxHeartbeats 4000000 in
theorem own_eflaw (m : MethodId) (x0 : Int32) (x1 : Int32) (x2 : Int32) (x3 : Int32) (x4 : Int32) (x5 : Int32) : entryFrame m #[.int x0, .int x1, .int x2, .int x3, .int x4, .int x5] maxLocals = mkF m 0 #[.val (.int x0), .val (.int x1), .val (.int x2), .val (.int x3), .val (.int x4), .val (.int x5), .unset, .unset, .unset, .unset] [] := by first | (simp [entryFrame, mkF, argsToLocals, Value.category, maxLocals]; done) | rfl
set_option maxRecDepth 65536 in
set_option maxHeartbeats 40000000 in
theorem own_claw (l : Launch) (Z : State) (a0 : Array Value) (n0 : Nat) (hw : ∀ d ∈ tables_1, d.before a0 Z = true) (ws : List Jvm.Cond) (a b c d e f : Int32)  :
    own_Con l Z n0 x code maxLocals ret ws room_1 #[.int a, .int b, .int c, .int d, .int e, .int f] [] (fun v _ => v = some (.int 1)) := by
  refine own_con own_pnlaw (fun m_ => own_eflaw m_ a b c d e f) ?_
  intro G C
  refine C.iloadN (q := 1) at_0 rfl rfl ?_
  refine C.iconst (q := 2) (z := (3 : Int32)) at_1 rfl rfl ?_
  refine C.iand (q := 3) at_2 rfl ?_
  rcases own_q4 a with ec | ec | ec | ec
  · rw [ec]
    show G 0 0 [] 3 [.val (.int a), .val (.int b), .val (.int c), .val (.int d), .val (.int e), .val (.int f), .unset, .unset, .unset, .unset] [.int (0 : Int32)]
    obtain ⟨p, hp, ep⟩ := own_m3 e
    obtain ⟨q, hq, eq⟩ := own_m3 f
    obtain ⟨f0, f1, f2, finT, finF⟩ := own_all0 ⟨p, hp⟩ ⟨q, hq⟩
    dsimp only at f0 f1 f2 finT finF
    refine C.istore (q := 5) (ls' := [.val (.int a), .val (.int b), .val (.int c), .val (.int d), .val (.int e), .val (.int f), .val (.int (0 : Int32)), .unset, .unset, .unset]) at_3 rfl rfl ?_
    refine C.newobj (q := 8) [("heads", "[I", (.array .int)), ("nexts", "[I", (.array .int)), ("keysMet", "[I", (.array .int)), ("keysMetCount", "I", .int)] (fs := [("heads", "[I", .null), ("nexts", "[I", .null), ("keysMet", "[I", .null), ("keysMetCount", "I", .int (0 : Int32))]) (k' := 1) (n' := 4) at_5 (hw _ (List.mem_of_getElem? (i := 0) rfl)) (hw _ (List.mem_of_getElem? (i := 1) rfl)) (hw _ (List.mem_of_getElem? (i := 2) rfl)) ⟨⟨Or.inr (hw _ (List.mem_of_getElem? (i := 11) rfl)), by decide⟩, ⟨⟨Or.inr (hw _ (List.mem_of_getElem? (i := 17) rfl)), by decide⟩, ⟨⟨Or.inr (hw _ (List.mem_of_getElem? (i := 19) rfl)), by decide⟩, ⟨⟨Or.inl (hw _ (List.mem_of_getElem? (i := 26) rfl)), by decide⟩, trivial⟩⟩⟩⟩ (by decide) (by decide) (by decide) rfl rfl rfl rfl (fun a5 => ?_)
    show G 1 4 [(a5, .inr ("com/example/terms_to_transitions/termstotransitions/equivalence/TransitionLists", [("heads", "[I", .null), ("nexts", "[I", .null), ("keysMet", "[I", .null), ("keysMetCount", "I", .int (0 : Int32))]))] 8 [.val (.int a), .val (.int b), .val (.int c), .val (.int d), .val (.int e), .val (.int f), .val (.int (0 : Int32)), .unset, .unset, .unset] [.ref a5]
    refine C.dup (q := 9) at_8 rfl rfl ?_
    refine C.iconst (q := 10) (z := (4 : Int32)) at_9 rfl rfl ?_
    refine C.iconst (q := 11) (z := (5 : Int32)) at_10 rfl rfl ?_
    refine C.callI (q := 14) 1 a5 [.int (4 : Int32), .int (5 : Int32)] [.ref a5] at_11 (hw _ (List.mem_of_getElem? (i := 3) rfl)) (hw _ (List.mem_of_getElem? (i := 4) rfl)) (hw _ (List.mem_of_getElem? (i := 2) rfl)) (hw _ (List.mem_of_getElem? (i := 5) rfl)) (own_c5 l Z a0 n0 hw [] a5) rfl (by decide) (by decide) (by decide) own_pd1 rfl rfl rfl (Nat.le_of_eq rfl) (by decide) (by decide) rfl ?_
    rintro _ _ ⟨rfl, h, x, m, rfl⟩
    show G 4 17 [(a5, .inr ("com/example/terms_to_transitions/termstotransitions/equivalence/TransitionLists", [("heads", "[I", .ref h), ("nexts", "[I", .ref x), ("keysMet", "[I", .ref m), ("keysMetCount", "I", .int own_z4.2.2.2)])), (h, .inl (.int, (own_vl own_z4.1))), (x, .inl (.int, (own_vl own_z4.2.1))), (m, .inl (.int, (own_vl own_z4.2.2.1)))] 14 [.val (.int a), .val (.int b), .val (.int c), .val (.int d), .val (.int e), .val (.int f), .val (.int (0 : Int32)), .unset, .unset, .unset] [.ref a5]
    refine C.astore (q := 16) (ls' := [.val (.int a), .val (.int b), .val (.int c), .val (.int d), .val (.int e), .val (.int f), .val (.int (0 : Int32)), .val (.ref a5), .unset, .unset]) at_14 rfl rfl rfl ?_
    refine C.iload (q := 18) at_16 rfl rfl ?_
    refine C.ifLe (q := 30) (q' := 21) at_18 (by decide) (by decide) rfl (fun h18 => absurd h18 (by decide)) (fun h18 => ?_)
    refine C.iload (q := 32) at_30 rfl rfl ?_
    refine C.iconst (q := 33) (z := (1 : Int32)) at_32 rfl rfl ?_
    refine C.icmpLe (q := 45) (q' := 36) at_33 (by decide) (by decide) rfl (fun h33 => absurd h33 (by decide)) (fun h33 => ?_)
    refine C.iload (q := 47) at_45 rfl rfl ?_
    refine C.iconst (q := 48) (z := (2 : Int32)) at_47 rfl rfl ?_
    refine C.icmpLe (q := 60) (q' := 51) at_48 (by decide) (by decide) rfl (fun h48 => absurd h48 (by decide)) (fun h48 => ?_)
    refine C.aload (q := 62) at_60 rfl rfl rfl ?_
    refine C.callV (q := 65) 0 0 [] [] at_62 (hw _ (List.mem_of_getElem? (i := 20) rfl)) (hw _ (List.mem_of_getElem? (i := 21) rfl)) (hw _ (List.mem_of_getElem? (i := 22) rfl)) (hw _ (List.mem_of_getElem? (i := 23) rfl)) (hw _ (List.mem_of_getElem? (i := 2) rfl)) (hw _ (List.mem_of_getElem? (i := 24) rfl)) (own_c6 l Z a0 n0 hw [] a5 h x m own_z4 (own_koB.ok f0)) (by decide) (by decide) (by decide) own_pd2 rfl rfl rfl rfl (Nat.le_of_eq rfl) (by decide) (by decide) rfl ?_
    rintro _ _ ⟨rfl, hE⟩
    rw [hE]
    show G 4 17 [(a5, .inr ("com/example/terms_to_transitions/termstotransitions/equivalence/TransitionLists", [("heads", "[I", .ref h), ("nexts", "[I", .ref x), ("keysMet", "[I", .ref m), ("keysMetCount", "I", .int ((own_clr own_z4).2.2.2))])), (h, .inl (.int, (own_vl (own_clr own_z4).1))), (x, .inl (.int, (own_vl (own_clr own_z4).2.1))), (m, .inl (.int, (own_vl (own_clr own_z4).2.2.1)))] 65 [.val (.int a), .val (.int b), .val (.int c), .val (.int d), .val (.int e), .val (.int f), .val (.int (0 : Int32)), .val (.ref a5), .unset, .unset] []
    refine C.aload (q := 67) at_65 rfl rfl rfl ?_
    refine C.callV (q := 70) 0 0 [] [] at_67 (hw _ (List.mem_of_getElem? (i := 27) rfl)) (hw _ (List.mem_of_getElem? (i := 28) rfl)) (hw _ (List.mem_of_getElem? (i := 29) rfl)) (hw _ (List.mem_of_getElem? (i := 30) rfl)) (hw _ (List.mem_of_getElem? (i := 2) rfl)) (hw _ (List.mem_of_getElem? (i := 31) rfl)) (own_c2 l Z a0 n0 hw [] a5 h x m (own_clr own_z4)) (by decide) (by decide) (by decide) own_pd3 rfl rfl rfl rfl (Nat.le_of_eq rfl) (by decide) (by decide) rfl ?_
    rintro _ _ ⟨rfl, hE⟩
    rw [hE]
    show G 4 17 [(a5, .inr ("com/example/terms_to_transitions/termstotransitions/equivalence/TransitionLists", [("heads", "[I", .ref h), ("nexts", "[I", .ref x), ("keysMet", "[I", .ref m), ("keysMetCount", "I", .int ((own_clr own_z4).2.2.2))])), (h, .inl (.int, (own_vl (own_clr own_z4).1))), (x, .inl (.int, (own_vl (own_clr own_z4).2.1))), (m, .inl (.int, (own_vl (own_clr own_z4).2.2.1)))] 70 [.val (.int a), .val (.int b), .val (.int c), .val (.int d), .val (.int e), .val (.int f), .val (.int (0 : Int32)), .val (.ref a5), .unset, .unset] [.int ((own_clr own_z4).2.2.2)]
    refine C.ifEq (q := 75) (q' := 73) at_70 (by decide) (by decide) rfl (fun h70 => ?_) (fun h70 => absurd (rfl) h70)
    refine C.iload (q := 77) at_75 rfl rfl ?_
    refine C.iconst (q := 78) (z := (3 : Int32)) at_77 rfl rfl ?_
    refine C.iand (q := 79) at_78 rfl ?_
    rw [ep]
    refine C.istore (q := 81) (ls' := [.val (.int a), .val (.int b), .val (.int c), .val (.int d), .val (.int e), .val (.int f), .val (.int (0 : Int32)), .val (.ref a5), .val (.int (Int32.ofNat p)), .unset]) at_79 rfl rfl ?_
    refine C.iload (q := 83) at_81 rfl rfl ?_
    refine C.iconst (q := 84) (z := (3 : Int32)) at_83 rfl rfl ?_
    refine C.iand (q := 85) at_84 rfl ?_
    rw [eq]
    refine C.istore (q := 87) (ls' := [.val (.int a), .val (.int b), .val (.int c), .val (.int d), .val (.int e), .val (.int f), .val (.int (0 : Int32)), .val (.ref a5), .val (.int (Int32.ofNat p)), .val (.int (Int32.ofNat q))]) at_85 rfl rfl ?_
    refine C.aload (q := 89) at_87 rfl rfl rfl ?_
    refine C.iconst (q := 90) (z := (3 : Int32)) at_89 rfl rfl ?_
    refine C.iload (q := 92) at_90 rfl rfl ?_
    refine C.callV (q := 95) 0 0 [.int (3 : Int32), .int (Int32.ofNat p)] [] at_92 (hw _ (List.mem_of_getElem? (i := 32) rfl)) (hw _ (List.mem_of_getElem? (i := 33) rfl)) (hw _ (List.mem_of_getElem? (i := 34) rfl)) (hw _ (List.mem_of_getElem? (i := 35) rfl)) (hw _ (List.mem_of_getElem? (i := 2) rfl)) (hw _ (List.mem_of_getElem? (i := 36) rfl)) (own_c1 l Z a0 n0 hw [] a5 h x m (own_clr own_z4) 3 p (by decide) (by omega) (own_okB.ok f1)) (by decide) (by decide) (by decide) own_pd1 rfl rfl rfl rfl (Nat.le_of_eq rfl) (by decide) (by decide) rfl ?_
    rintro _ _ ⟨rfl, hE⟩
    rw [hE]
    show G 4 17 [(a5, .inr ("com/example/terms_to_transitions/termstotransitions/equivalence/TransitionLists", [("heads", "[I", .ref h), ("nexts", "[I", .ref x), ("keysMet", "[I", .ref m), ("keysMetCount", "I", .int ((own_add (own_clr own_z4) 3 p).2.2.2))])), (h, .inl (.int, (own_vl (own_add (own_clr own_z4) 3 p).1))), (x, .inl (.int, (own_vl (own_add (own_clr own_z4) 3 p).2.1))), (m, .inl (.int, (own_vl (own_add (own_clr own_z4) 3 p).2.2.1)))] 95 [.val (.int a), .val (.int b), .val (.int c), .val (.int d), .val (.int e), .val (.int f), .val (.int (0 : Int32)), .val (.ref a5), .val (.int (Int32.ofNat p)), .val (.int (Int32.ofNat q))] []
    refine C.aload (q := 97) at_95 rfl rfl rfl ?_
    refine C.iconst (q := 98) (z := (4 : Int32)) at_97 rfl rfl ?_
    refine C.iload (q := 100) at_98 rfl rfl ?_
    refine C.callV (q := 103) 0 0 [.int (4 : Int32), .int (Int32.ofNat q)] [] at_100 (hw _ (List.mem_of_getElem? (i := 32) rfl)) (hw _ (List.mem_of_getElem? (i := 33) rfl)) (hw _ (List.mem_of_getElem? (i := 34) rfl)) (hw _ (List.mem_of_getElem? (i := 35) rfl)) (hw _ (List.mem_of_getElem? (i := 2) rfl)) (hw _ (List.mem_of_getElem? (i := 36) rfl)) (own_c1 l Z a0 n0 hw [] a5 h x m (own_add (own_clr own_z4) 3 p) 4 q (by decide) (by omega) (own_okB.ok f2)) (by decide) (by decide) (by decide) own_pd1 rfl rfl rfl rfl (Nat.le_of_eq rfl) (by decide) (by decide) rfl ?_
    rintro _ _ ⟨rfl, hE⟩
    rw [hE]
    show G 4 17 [(a5, .inr ("com/example/terms_to_transitions/termstotransitions/equivalence/TransitionLists", [("heads", "[I", .ref h), ("nexts", "[I", .ref x), ("keysMet", "[I", .ref m), ("keysMetCount", "I", .int ((own_add (own_add (own_clr own_z4) 3 p) 4 q).2.2.2))])), (h, .inl (.int, (own_vl (own_add (own_add (own_clr own_z4) 3 p) 4 q).1))), (x, .inl (.int, (own_vl (own_add (own_add (own_clr own_z4) 3 p) 4 q).2.1))), (m, .inl (.int, (own_vl (own_add (own_add (own_clr own_z4) 3 p) 4 q).2.2.1)))] 103 [.val (.int a), .val (.int b), .val (.int c), .val (.int d), .val (.int e), .val (.int f), .val (.int (0 : Int32)), .val (.ref a5), .val (.int (Int32.ofNat p)), .val (.int (Int32.ofNat q))] []
    refine C.iload (q := 105) at_103 rfl rfl ?_
    refine C.iload (q := 107) at_105 rfl rfl ?_
    refine C.icmpNe (q := 155) (q' := 110) at_107 (by decide) (by decide) rfl (fun h107 => ?_) (fun h107 => ?_)
    · obtain ⟨g0, g1, g2, g3, g4, g5⟩ := finT ((own_ie (by omega) (by omega)).mp h107)
      refine C.aload (q := 112) at_110 rfl rfl rfl ?_
      refine C.callV (q := 115) 0 0 [] [] at_112 (hw _ (List.mem_of_getElem? (i := 27) rfl)) (hw _ (List.mem_of_getElem? (i := 28) rfl)) (hw _ (List.mem_of_getElem? (i := 29) rfl)) (hw _ (List.mem_of_getElem? (i := 30) rfl)) (hw _ (List.mem_of_getElem? (i := 2) rfl)) (hw _ (List.mem_of_getElem? (i := 31) rfl)) (own_c2 l Z a0 n0 hw [] a5 h x m (own_add (own_add (own_clr own_z4) 3 p) 4 q)) (by decide) (by decide) (by decide) own_pd3 rfl rfl rfl rfl (Nat.le_of_eq rfl) (by decide) (by decide) rfl ?_
      rintro _ _ ⟨rfl, hE⟩
      rw [hE]
      show G 4 17 [(a5, .inr ("com/example/terms_to_transitions/termstotransitions/equivalence/TransitionLists", [("heads", "[I", .ref h), ("nexts", "[I", .ref x), ("keysMet", "[I", .ref m), ("keysMetCount", "I", .int ((own_add (own_add (own_clr own_z4) 3 p) 4 q).2.2.2))])), (h, .inl (.int, (own_vl (own_add (own_add (own_clr own_z4) 3 p) 4 q).1))), (x, .inl (.int, (own_vl (own_add (own_add (own_clr own_z4) 3 p) 4 q).2.1))), (m, .inl (.int, (own_vl (own_add (own_add (own_clr own_z4) 3 p) 4 q).2.2.1)))] 115 [.val (.int a), .val (.int b), .val (.int c), .val (.int d), .val (.int e), .val (.int f), .val (.int (0 : Int32)), .val (.ref a5), .val (.int (Int32.ofNat p)), .val (.int (Int32.ofNat q))] [.int ((own_add (own_add (own_clr own_z4) 3 p) 4 q).2.2.2)]
      refine C.iconst (q := 116) (z := (1 : Int32)) at_115 rfl rfl ?_
      refine C.icmpNe (q := 153) (q' := 119) at_116 (by decide) (by decide) rfl (fun h116 => ?_) (fun h116 => absurd (g0) h116)
      refine C.aload (q := 121) at_119 rfl rfl rfl ?_
      refine C.iconst (q := 122) (z := (0 : Int32)) at_121 rfl rfl ?_
      refine C.callV (q := 125) 0 0 [.int (0 : Int32)] [] at_122 (hw _ (List.mem_of_getElem? (i := 37) rfl)) (hw _ (List.mem_of_getElem? (i := 38) rfl)) (hw _ (List.mem_of_getElem? (i := 39) rfl)) (hw _ (List.mem_of_getElem? (i := 40) rfl)) (hw _ (List.mem_of_getElem? (i := 2) rfl)) (hw _ (List.mem_of_getElem? (i := 41) rfl)) (own_c3 l Z a0 n0 hw [] a5 h x m (own_add (own_add (own_clr own_z4) 3 p) 4 q) 0 (by decide) (own_fB.ok g1).1 (own_fB.ok g1).2.1 (own_fB.ok g1).2.2) (by decide) (by decide) (by decide) own_pd4 rfl rfl rfl rfl (Nat.le_of_eq rfl) (by decide) (by decide) rfl ?_
      rintro _ _ ⟨rfl, hE⟩
      rw [hE]
      show G 4 17 [(a5, .inr ("com/example/terms_to_transitions/termstotransitions/equivalence/TransitionLists", [("heads", "[I", .ref h), ("nexts", "[I", .ref x), ("keysMet", "[I", .ref m), ("keysMetCount", "I", .int ((own_add (own_add (own_clr own_z4) 3 p) 4 q).2.2.2))])), (h, .inl (.int, (own_vl (own_add (own_add (own_clr own_z4) 3 p) 4 q).1))), (x, .inl (.int, (own_vl (own_add (own_add (own_clr own_z4) 3 p) 4 q).2.1))), (m, .inl (.int, (own_vl (own_add (own_add (own_clr own_z4) 3 p) 4 q).2.2.1)))] 125 [.val (.int a), .val (.int b), .val (.int c), .val (.int d), .val (.int e), .val (.int f), .val (.int (0 : Int32)), .val (.ref a5), .val (.int (Int32.ofNat p)), .val (.int (Int32.ofNat q))] [.int ((own_add (own_add (own_clr own_z4) 3 p) 4 q).1.getD ((own_add (own_add (own_clr own_z4) 3 p) 4 q).2.2.1.getD 0 0).toNatClampNeg 0)]
      refine C.iconst (q := 126) (z := (4 : Int32)) at_125 rfl rfl ?_
      refine C.icmpNe (q := 153) (q' := 129) at_126 (by decide) (by decide) rfl (fun h126 => ?_) (fun h126 => absurd (g2) h126)
      refine C.aload (q := 131) at_129 rfl rfl rfl ?_
      refine C.iconst (q := 132) (z := (4 : Int32)) at_131 rfl rfl ?_
      refine C.callV (q := 135) 0 0 [.int (4 : Int32)] [] at_132 (hw _ (List.mem_of_getElem? (i := 42) rfl)) (hw _ (List.mem_of_getElem? (i := 43) rfl)) (hw _ (List.mem_of_getElem? (i := 44) rfl)) (hw _ (List.mem_of_getElem? (i := 45) rfl)) (hw _ (List.mem_of_getElem? (i := 2) rfl)) (hw _ (List.mem_of_getElem? (i := 46) rfl)) (own_c4 l Z a0 n0 hw [] a5 h x m (own_add (own_add (own_clr own_z4) 3 p) 4 q) 4 (by decide) (by omega)) (by decide) (by decide) (by decide) own_pd4 rfl rfl rfl rfl (Nat.le_of_eq rfl) (by decide) (by decide) rfl ?_
      rintro _ _ ⟨rfl, hE⟩
      rw [hE]
      show G 4 17 [(a5, .inr ("com/example/terms_to_transitions/termstotransitions/equivalence/TransitionLists", [("heads", "[I", .ref h), ("nexts", "[I", .ref x), ("keysMet", "[I", .ref m), ("keysMetCount", "I", .int ((own_add (own_add (own_clr own_z4) 3 p) 4 q).2.2.2))])), (h, .inl (.int, (own_vl (own_add (own_add (own_clr own_z4) 3 p) 4 q).1))), (x, .inl (.int, (own_vl (own_add (own_add (own_clr own_z4) 3 p) 4 q).2.1))), (m, .inl (.int, (own_vl (own_add (own_add (own_clr own_z4) 3 p) 4 q).2.2.1)))] 135 [.val (.int a), .val (.int b), .val (.int c), .val (.int d), .val (.int e), .val (.int f), .val (.int (0 : Int32)), .val (.ref a5), .val (.int (Int32.ofNat p)), .val (.int (Int32.ofNat q))] [.int ((own_add (own_add (own_clr own_z4) 3 p) 4 q).2.1.getD 4 0)]
      refine C.iconst (q := 136) (z := (3 : Int32)) at_135 rfl rfl ?_
      refine C.icmpNe (q := 153) (q' := 139) at_136 (by decide) (by decide) rfl (fun h136 => ?_) (fun h136 => absurd (g4) h136)
      refine C.aload (q := 141) at_139 rfl rfl rfl ?_
      refine C.iconst (q := 142) (z := (3 : Int32)) at_141 rfl rfl ?_
      refine C.callV (q := 145) 0 0 [.int (3 : Int32)] [] at_142 (hw _ (List.mem_of_getElem? (i := 42) rfl)) (hw _ (List.mem_of_getElem? (i := 43) rfl)) (hw _ (List.mem_of_getElem? (i := 44) rfl)) (hw _ (List.mem_of_getElem? (i := 45) rfl)) (hw _ (List.mem_of_getElem? (i := 2) rfl)) (hw _ (List.mem_of_getElem? (i := 46) rfl)) (own_c4 l Z a0 n0 hw [] a5 h x m (own_add (own_add (own_clr own_z4) 3 p) 4 q) 3 (by decide) (by omega)) (by decide) (by decide) (by decide) own_pd4 rfl rfl rfl rfl (Nat.le_of_eq rfl) (by decide) (by decide) rfl ?_
      rintro _ _ ⟨rfl, hE⟩
      rw [hE]
      show G 4 17 [(a5, .inr ("com/example/terms_to_transitions/termstotransitions/equivalence/TransitionLists", [("heads", "[I", .ref h), ("nexts", "[I", .ref x), ("keysMet", "[I", .ref m), ("keysMetCount", "I", .int ((own_add (own_add (own_clr own_z4) 3 p) 4 q).2.2.2))])), (h, .inl (.int, (own_vl (own_add (own_add (own_clr own_z4) 3 p) 4 q).1))), (x, .inl (.int, (own_vl (own_add (own_add (own_clr own_z4) 3 p) 4 q).2.1))), (m, .inl (.int, (own_vl (own_add (own_add (own_clr own_z4) 3 p) 4 q).2.2.1)))] 145 [.val (.int a), .val (.int b), .val (.int c), .val (.int d), .val (.int e), .val (.int f), .val (.int (0 : Int32)), .val (.ref a5), .val (.int (Int32.ofNat p)), .val (.int (Int32.ofNat q))] [.int ((own_add (own_add (own_clr own_z4) 3 p) 4 q).2.1.getD 3 0)]
      refine C.iconst (q := 146) (z := (-1 : Int32)) at_145 rfl rfl ?_
      refine C.icmpNe (q := 153) (q' := 149) at_146 (by decide) (by decide) rfl (fun h146 => ?_) (fun h146 => absurd (g5) h146)
      refine C.iconst (q := 150) (z := (1 : Int32)) at_149 rfl rfl ?_
      refine C.goto (q := 154) at_150 (by decide) (by decide) ?_
      exact C.retB (by simp) at_154 (by decide) (by decide) rfl
    · obtain ⟨g0, g1, g2, g3, g4, g5, g6, g7⟩ := finF (fun z => h107 (congrArg Int32.ofNat z))
      refine C.aload (q := 157) at_155 rfl rfl rfl ?_
      refine C.callV (q := 160) 0 0 [] [] at_157 (hw _ (List.mem_of_getElem? (i := 27) rfl)) (hw _ (List.mem_of_getElem? (i := 28) rfl)) (hw _ (List.mem_of_getElem? (i := 29) rfl)) (hw _ (List.mem_of_getElem? (i := 30) rfl)) (hw _ (List.mem_of_getElem? (i := 2) rfl)) (hw _ (List.mem_of_getElem? (i := 31) rfl)) (own_c2 l Z a0 n0 hw [] a5 h x m (own_add (own_add (own_clr own_z4) 3 p) 4 q)) (by decide) (by decide) (by decide) own_pd3 rfl rfl rfl rfl (Nat.le_of_eq rfl) (by decide) (by decide) rfl ?_
      rintro _ _ ⟨rfl, hE⟩
      rw [hE]
      show G 4 17 [(a5, .inr ("com/example/terms_to_transitions/termstotransitions/equivalence/TransitionLists", [("heads", "[I", .ref h), ("nexts", "[I", .ref x), ("keysMet", "[I", .ref m), ("keysMetCount", "I", .int ((own_add (own_add (own_clr own_z4) 3 p) 4 q).2.2.2))])), (h, .inl (.int, (own_vl (own_add (own_add (own_clr own_z4) 3 p) 4 q).1))), (x, .inl (.int, (own_vl (own_add (own_add (own_clr own_z4) 3 p) 4 q).2.1))), (m, .inl (.int, (own_vl (own_add (own_add (own_clr own_z4) 3 p) 4 q).2.2.1)))] 160 [.val (.int a), .val (.int b), .val (.int c), .val (.int d), .val (.int e), .val (.int f), .val (.int (0 : Int32)), .val (.ref a5), .val (.int (Int32.ofNat p)), .val (.int (Int32.ofNat q))] [.int ((own_add (own_add (own_clr own_z4) 3 p) 4 q).2.2.2)]
      refine C.iconst (q := 161) (z := (2 : Int32)) at_160 rfl rfl ?_
      refine C.icmpNe (q := 208) (q' := 164) at_161 (by decide) (by decide) rfl (fun h161 => ?_) (fun h161 => absurd (g0) h161)
      refine C.aload (q := 166) at_164 rfl rfl rfl ?_
      refine C.iconst (q := 167) (z := (0 : Int32)) at_166 rfl rfl ?_
      refine C.callV (q := 170) 0 0 [.int (0 : Int32)] [] at_167 (hw _ (List.mem_of_getElem? (i := 37) rfl)) (hw _ (List.mem_of_getElem? (i := 38) rfl)) (hw _ (List.mem_of_getElem? (i := 39) rfl)) (hw _ (List.mem_of_getElem? (i := 40) rfl)) (hw _ (List.mem_of_getElem? (i := 2) rfl)) (hw _ (List.mem_of_getElem? (i := 41) rfl)) (own_c3 l Z a0 n0 hw [] a5 h x m (own_add (own_add (own_clr own_z4) 3 p) 4 q) 0 (by decide) (own_fB.ok g1).1 (own_fB.ok g1).2.1 (own_fB.ok g1).2.2) (by decide) (by decide) (by decide) own_pd4 rfl rfl rfl rfl (Nat.le_of_eq rfl) (by decide) (by decide) rfl ?_
      rintro _ _ ⟨rfl, hE⟩
      rw [hE]
      show G 4 17 [(a5, .inr ("com/example/terms_to_transitions/termstotransitions/equivalence/TransitionLists", [("heads", "[I", .ref h), ("nexts", "[I", .ref x), ("keysMet", "[I", .ref m), ("keysMetCount", "I", .int ((own_add (own_add (own_clr own_z4) 3 p) 4 q).2.2.2))])), (h, .inl (.int, (own_vl (own_add (own_add (own_clr own_z4) 3 p) 4 q).1))), (x, .inl (.int, (own_vl (own_add (own_add (own_clr own_z4) 3 p) 4 q).2.1))), (m, .inl (.int, (own_vl (own_add (own_add (own_clr own_z4) 3 p) 4 q).2.2.1)))] 170 [.val (.int a), .val (.int b), .val (.int c), .val (.int d), .val (.int e), .val (.int f), .val (.int (0 : Int32)), .val (.ref a5), .val (.int (Int32.ofNat p)), .val (.int (Int32.ofNat q))] [.int ((own_add (own_add (own_clr own_z4) 3 p) 4 q).1.getD ((own_add (own_add (own_clr own_z4) 3 p) 4 q).2.2.1.getD 0 0).toNatClampNeg 0)]
      refine C.iconst (q := 171) (z := (3 : Int32)) at_170 rfl rfl ?_
      refine C.icmpNe (q := 208) (q' := 174) at_171 (by decide) (by decide) rfl (fun h171 => ?_) (fun h171 => absurd (g2) h171)
      refine C.aload (q := 176) at_174 rfl rfl rfl ?_
      refine C.iconst (q := 177) (z := (3 : Int32)) at_176 rfl rfl ?_
      refine C.callV (q := 180) 0 0 [.int (3 : Int32)] [] at_177 (hw _ (List.mem_of_getElem? (i := 42) rfl)) (hw _ (List.mem_of_getElem? (i := 43) rfl)) (hw _ (List.mem_of_getElem? (i := 44) rfl)) (hw _ (List.mem_of_getElem? (i := 45) rfl)) (hw _ (List.mem_of_getElem? (i := 2) rfl)) (hw _ (List.mem_of_getElem? (i := 46) rfl)) (own_c4 l Z a0 n0 hw [] a5 h x m (own_add (own_add (own_clr own_z4) 3 p) 4 q) 3 (by decide) (by omega)) (by decide) (by decide) (by decide) own_pd4 rfl rfl rfl rfl (Nat.le_of_eq rfl) (by decide) (by decide) rfl ?_
      rintro _ _ ⟨rfl, hE⟩
      rw [hE]
      show G 4 17 [(a5, .inr ("com/example/terms_to_transitions/termstotransitions/equivalence/TransitionLists", [("heads", "[I", .ref h), ("nexts", "[I", .ref x), ("keysMet", "[I", .ref m), ("keysMetCount", "I", .int ((own_add (own_add (own_clr own_z4) 3 p) 4 q).2.2.2))])), (h, .inl (.int, (own_vl (own_add (own_add (own_clr own_z4) 3 p) 4 q).1))), (x, .inl (.int, (own_vl (own_add (own_add (own_clr own_z4) 3 p) 4 q).2.1))), (m, .inl (.int, (own_vl (own_add (own_add (own_clr own_z4) 3 p) 4 q).2.2.1)))] 180 [.val (.int a), .val (.int b), .val (.int c), .val (.int d), .val (.int e), .val (.int f), .val (.int (0 : Int32)), .val (.ref a5), .val (.int (Int32.ofNat p)), .val (.int (Int32.ofNat q))] [.int ((own_add (own_add (own_clr own_z4) 3 p) 4 q).2.1.getD 3 0)]
      refine C.iconst (q := 181) (z := (-1 : Int32)) at_180 rfl rfl ?_
      refine C.icmpNe (q := 208) (q' := 184) at_181 (by decide) (by decide) rfl (fun h181 => ?_) (fun h181 => absurd (g4) h181)
      refine C.aload (q := 186) at_184 rfl rfl rfl ?_
      refine C.iconst (q := 187) (z := (1 : Int32)) at_186 rfl rfl ?_
      refine C.callV (q := 190) 0 0 [.int (1 : Int32)] [] at_187 (hw _ (List.mem_of_getElem? (i := 37) rfl)) (hw _ (List.mem_of_getElem? (i := 38) rfl)) (hw _ (List.mem_of_getElem? (i := 39) rfl)) (hw _ (List.mem_of_getElem? (i := 40) rfl)) (hw _ (List.mem_of_getElem? (i := 2) rfl)) (hw _ (List.mem_of_getElem? (i := 41) rfl)) (own_c3 l Z a0 n0 hw [] a5 h x m (own_add (own_add (own_clr own_z4) 3 p) 4 q) 1 (by decide) (own_fB.ok g5).1 (own_fB.ok g5).2.1 (own_fB.ok g5).2.2) (by decide) (by decide) (by decide) own_pd4 rfl rfl rfl rfl (Nat.le_of_eq rfl) (by decide) (by decide) rfl ?_
      rintro _ _ ⟨rfl, hE⟩
      rw [hE]
      show G 4 17 [(a5, .inr ("com/example/terms_to_transitions/termstotransitions/equivalence/TransitionLists", [("heads", "[I", .ref h), ("nexts", "[I", .ref x), ("keysMet", "[I", .ref m), ("keysMetCount", "I", .int ((own_add (own_add (own_clr own_z4) 3 p) 4 q).2.2.2))])), (h, .inl (.int, (own_vl (own_add (own_add (own_clr own_z4) 3 p) 4 q).1))), (x, .inl (.int, (own_vl (own_add (own_add (own_clr own_z4) 3 p) 4 q).2.1))), (m, .inl (.int, (own_vl (own_add (own_add (own_clr own_z4) 3 p) 4 q).2.2.1)))] 190 [.val (.int a), .val (.int b), .val (.int c), .val (.int d), .val (.int e), .val (.int f), .val (.int (0 : Int32)), .val (.ref a5), .val (.int (Int32.ofNat p)), .val (.int (Int32.ofNat q))] [.int ((own_add (own_add (own_clr own_z4) 3 p) 4 q).1.getD ((own_add (own_add (own_clr own_z4) 3 p) 4 q).2.2.1.getD 1 0).toNatClampNeg 0)]
      refine C.iconst (q := 191) (z := (4 : Int32)) at_190 rfl rfl ?_
      refine C.icmpNe (q := 208) (q' := 194) at_191 (by decide) (by decide) rfl (fun h191 => ?_) (fun h191 => absurd (g6) h191)
      refine C.aload (q := 196) at_194 rfl rfl rfl ?_
      refine C.iconst (q := 197) (z := (4 : Int32)) at_196 rfl rfl ?_
      refine C.callV (q := 200) 0 0 [.int (4 : Int32)] [] at_197 (hw _ (List.mem_of_getElem? (i := 42) rfl)) (hw _ (List.mem_of_getElem? (i := 43) rfl)) (hw _ (List.mem_of_getElem? (i := 44) rfl)) (hw _ (List.mem_of_getElem? (i := 45) rfl)) (hw _ (List.mem_of_getElem? (i := 2) rfl)) (hw _ (List.mem_of_getElem? (i := 46) rfl)) (own_c4 l Z a0 n0 hw [] a5 h x m (own_add (own_add (own_clr own_z4) 3 p) 4 q) 4 (by decide) (by omega)) (by decide) (by decide) (by decide) own_pd4 rfl rfl rfl rfl (Nat.le_of_eq rfl) (by decide) (by decide) rfl ?_
      rintro _ _ ⟨rfl, hE⟩
      rw [hE]
      show G 4 17 [(a5, .inr ("com/example/terms_to_transitions/termstotransitions/equivalence/TransitionLists", [("heads", "[I", .ref h), ("nexts", "[I", .ref x), ("keysMet", "[I", .ref m), ("keysMetCount", "I", .int ((own_add (own_add (own_clr own_z4) 3 p) 4 q).2.2.2))])), (h, .inl (.int, (own_vl (own_add (own_add (own_clr own_z4) 3 p) 4 q).1))), (x, .inl (.int, (own_vl (own_add (own_add (own_clr own_z4) 3 p) 4 q).2.1))), (m, .inl (.int, (own_vl (own_add (own_add (own_clr own_z4) 3 p) 4 q).2.2.1)))] 200 [.val (.int a), .val (.int b), .val (.int c), .val (.int d), .val (.int e), .val (.int f), .val (.int (0 : Int32)), .val (.ref a5), .val (.int (Int32.ofNat p)), .val (.int (Int32.ofNat q))] [.int ((own_add (own_add (own_clr own_z4) 3 p) 4 q).2.1.getD 4 0)]
      refine C.iconst (q := 201) (z := (-1 : Int32)) at_200 rfl rfl ?_
      refine C.icmpNe (q := 208) (q' := 204) at_201 (by decide) (by decide) rfl (fun h201 => ?_) (fun h201 => absurd (g7) h201)
      refine C.iconst (q := 205) (z := (1 : Int32)) at_204 rfl rfl ?_
      refine C.goto (q := 209) at_205 (by decide) (by decide) ?_
      exact C.retB (by simp) at_209 (by decide) (by decide) rfl
  · rw [ec]
    show G 0 0 [] 3 [.val (.int a), .val (.int b), .val (.int c), .val (.int d), .val (.int e), .val (.int f), .unset, .unset, .unset, .unset] [.int (1 : Int32)]
    obtain ⟨k0, hk0, ek0⟩ := own_m3 b
    obtain ⟨p, hp, ep⟩ := own_m3 e
    obtain ⟨q, hq, eq⟩ := own_m3 f
    obtain ⟨f0, f1, f2, f3, finT, finF⟩ := own_all1 ⟨k0, hk0⟩ ⟨p, hp⟩ ⟨q, hq⟩
    dsimp only at f0 f1 f2 f3 finT finF
    refine C.istore (q := 5) (ls' := [.val (.int a), .val (.int b), .val (.int c), .val (.int d), .val (.int e), .val (.int f), .val (.int (1 : Int32)), .unset, .unset, .unset]) at_3 rfl rfl ?_
    refine C.newobj (q := 8) [("heads", "[I", (.array .int)), ("nexts", "[I", (.array .int)), ("keysMet", "[I", (.array .int)), ("keysMetCount", "I", .int)] (fs := [("heads", "[I", .null), ("nexts", "[I", .null), ("keysMet", "[I", .null), ("keysMetCount", "I", .int (0 : Int32))]) (k' := 1) (n' := 4) at_5 (hw _ (List.mem_of_getElem? (i := 0) rfl)) (hw _ (List.mem_of_getElem? (i := 1) rfl)) (hw _ (List.mem_of_getElem? (i := 2) rfl)) ⟨⟨Or.inr (hw _ (List.mem_of_getElem? (i := 11) rfl)), by decide⟩, ⟨⟨Or.inr (hw _ (List.mem_of_getElem? (i := 17) rfl)), by decide⟩, ⟨⟨Or.inr (hw _ (List.mem_of_getElem? (i := 19) rfl)), by decide⟩, ⟨⟨Or.inl (hw _ (List.mem_of_getElem? (i := 26) rfl)), by decide⟩, trivial⟩⟩⟩⟩ (by decide) (by decide) (by decide) rfl rfl rfl rfl (fun a5 => ?_)
    show G 1 4 [(a5, .inr ("com/example/terms_to_transitions/termstotransitions/equivalence/TransitionLists", [("heads", "[I", .null), ("nexts", "[I", .null), ("keysMet", "[I", .null), ("keysMetCount", "I", .int (0 : Int32))]))] 8 [.val (.int a), .val (.int b), .val (.int c), .val (.int d), .val (.int e), .val (.int f), .val (.int (1 : Int32)), .unset, .unset, .unset] [.ref a5]
    refine C.dup (q := 9) at_8 rfl rfl ?_
    refine C.iconst (q := 10) (z := (4 : Int32)) at_9 rfl rfl ?_
    refine C.iconst (q := 11) (z := (5 : Int32)) at_10 rfl rfl ?_
    refine C.callI (q := 14) 1 a5 [.int (4 : Int32), .int (5 : Int32)] [.ref a5] at_11 (hw _ (List.mem_of_getElem? (i := 3) rfl)) (hw _ (List.mem_of_getElem? (i := 4) rfl)) (hw _ (List.mem_of_getElem? (i := 2) rfl)) (hw _ (List.mem_of_getElem? (i := 5) rfl)) (own_c5 l Z a0 n0 hw [] a5) rfl (by decide) (by decide) (by decide) own_pd1 rfl rfl rfl (Nat.le_of_eq rfl) (by decide) (by decide) rfl ?_
    rintro _ _ ⟨rfl, h, x, m, rfl⟩
    show G 4 17 [(a5, .inr ("com/example/terms_to_transitions/termstotransitions/equivalence/TransitionLists", [("heads", "[I", .ref h), ("nexts", "[I", .ref x), ("keysMet", "[I", .ref m), ("keysMetCount", "I", .int own_z4.2.2.2)])), (h, .inl (.int, (own_vl own_z4.1))), (x, .inl (.int, (own_vl own_z4.2.1))), (m, .inl (.int, (own_vl own_z4.2.2.1)))] 14 [.val (.int a), .val (.int b), .val (.int c), .val (.int d), .val (.int e), .val (.int f), .val (.int (1 : Int32)), .unset, .unset, .unset] [.ref a5]
    refine C.astore (q := 16) (ls' := [.val (.int a), .val (.int b), .val (.int c), .val (.int d), .val (.int e), .val (.int f), .val (.int (1 : Int32)), .val (.ref a5), .unset, .unset]) at_14 rfl rfl rfl ?_
    refine C.iload (q := 18) at_16 rfl rfl ?_
    refine C.ifLe (q := 30) (q' := 21) at_18 (by decide) (by decide) rfl (fun h18 => ?_) (fun h18 => absurd (by decide) h18)
    refine C.aload (q := 23) at_21 rfl rfl rfl ?_
    refine C.iconst (q := 24) (z := (0 : Int32)) at_23 rfl rfl ?_
    refine C.iloadN (q := 25) at_24 rfl rfl ?_
    refine C.iconst (q := 26) (z := (3 : Int32)) at_25 rfl rfl ?_
    refine C.iand (q := 27) at_26 rfl ?_
    rw [ek0]
    refine C.callV (q := 30) 0 0 [.int (0 : Int32), .int (Int32.ofNat k0)] [] at_27 (hw _ (List.mem_of_getElem? (i := 32) rfl)) (hw _ (List.mem_of_getElem? (i := 33) rfl)) (hw _ (List.mem_of_getElem? (i := 34) rfl)) (hw _ (List.mem_of_getElem? (i := 35) rfl)) (hw _ (List.mem_of_getElem? (i := 2) rfl)) (hw _ (List.mem_of_getElem? (i := 36) rfl)) (own_c1 l Z a0 n0 hw [] a5 h x m own_z4 0 k0 (by decide) (by omega) (own_okB.ok f0)) (by decide) (by decide) (by decide) own_pd1 rfl rfl rfl rfl (Nat.le_of_eq rfl) (by decide) (by decide) rfl ?_
    rintro _ _ ⟨rfl, hE⟩
    rw [hE]
    show G 4 17 [(a5, .inr ("com/example/terms_to_transitions/termstotransitions/equivalence/TransitionLists", [("heads", "[I", .ref h), ("nexts", "[I", .ref x), ("keysMet", "[I", .ref m), ("keysMetCount", "I", .int ((own_add own_z4 0 k0).2.2.2))])), (h, .inl (.int, (own_vl (own_add own_z4 0 k0).1))), (x, .inl (.int, (own_vl (own_add own_z4 0 k0).2.1))), (m, .inl (.int, (own_vl (own_add own_z4 0 k0).2.2.1)))] 30 [.val (.int a), .val (.int b), .val (.int c), .val (.int d), .val (.int e), .val (.int f), .val (.int (1 : Int32)), .val (.ref a5), .unset, .unset] []
    refine C.iload (q := 32) at_30 rfl rfl ?_
    refine C.iconst (q := 33) (z := (1 : Int32)) at_32 rfl rfl ?_
    refine C.icmpLe (q := 45) (q' := 36) at_33 (by decide) (by decide) rfl (fun h33 => absurd h33 (by decide)) (fun h33 => ?_)
    refine C.iload (q := 47) at_45 rfl rfl ?_
    refine C.iconst (q := 48) (z := (2 : Int32)) at_47 rfl rfl ?_
    refine C.icmpLe (q := 60) (q' := 51) at_48 (by decide) (by decide) rfl (fun h48 => absurd h48 (by decide)) (fun h48 => ?_)
    refine C.aload (q := 62) at_60 rfl rfl rfl ?_
    refine C.callV (q := 65) 0 0 [] [] at_62 (hw _ (List.mem_of_getElem? (i := 20) rfl)) (hw _ (List.mem_of_getElem? (i := 21) rfl)) (hw _ (List.mem_of_getElem? (i := 22) rfl)) (hw _ (List.mem_of_getElem? (i := 23) rfl)) (hw _ (List.mem_of_getElem? (i := 2) rfl)) (hw _ (List.mem_of_getElem? (i := 24) rfl)) (own_c6 l Z a0 n0 hw [] a5 h x m (own_add own_z4 0 k0) (own_koB.ok f1)) (by decide) (by decide) (by decide) own_pd2 rfl rfl rfl rfl (Nat.le_of_eq rfl) (by decide) (by decide) rfl ?_
    rintro _ _ ⟨rfl, hE⟩
    rw [hE]
    show G 4 17 [(a5, .inr ("com/example/terms_to_transitions/termstotransitions/equivalence/TransitionLists", [("heads", "[I", .ref h), ("nexts", "[I", .ref x), ("keysMet", "[I", .ref m), ("keysMetCount", "I", .int ((own_clr (own_add own_z4 0 k0)).2.2.2))])), (h, .inl (.int, (own_vl (own_clr (own_add own_z4 0 k0)).1))), (x, .inl (.int, (own_vl (own_clr (own_add own_z4 0 k0)).2.1))), (m, .inl (.int, (own_vl (own_clr (own_add own_z4 0 k0)).2.2.1)))] 65 [.val (.int a), .val (.int b), .val (.int c), .val (.int d), .val (.int e), .val (.int f), .val (.int (1 : Int32)), .val (.ref a5), .unset, .unset] []
    refine C.aload (q := 67) at_65 rfl rfl rfl ?_
    refine C.callV (q := 70) 0 0 [] [] at_67 (hw _ (List.mem_of_getElem? (i := 27) rfl)) (hw _ (List.mem_of_getElem? (i := 28) rfl)) (hw _ (List.mem_of_getElem? (i := 29) rfl)) (hw _ (List.mem_of_getElem? (i := 30) rfl)) (hw _ (List.mem_of_getElem? (i := 2) rfl)) (hw _ (List.mem_of_getElem? (i := 31) rfl)) (own_c2 l Z a0 n0 hw [] a5 h x m (own_clr (own_add own_z4 0 k0))) (by decide) (by decide) (by decide) own_pd3 rfl rfl rfl rfl (Nat.le_of_eq rfl) (by decide) (by decide) rfl ?_
    rintro _ _ ⟨rfl, hE⟩
    rw [hE]
    show G 4 17 [(a5, .inr ("com/example/terms_to_transitions/termstotransitions/equivalence/TransitionLists", [("heads", "[I", .ref h), ("nexts", "[I", .ref x), ("keysMet", "[I", .ref m), ("keysMetCount", "I", .int ((own_clr (own_add own_z4 0 k0)).2.2.2))])), (h, .inl (.int, (own_vl (own_clr (own_add own_z4 0 k0)).1))), (x, .inl (.int, (own_vl (own_clr (own_add own_z4 0 k0)).2.1))), (m, .inl (.int, (own_vl (own_clr (own_add own_z4 0 k0)).2.2.1)))] 70 [.val (.int a), .val (.int b), .val (.int c), .val (.int d), .val (.int e), .val (.int f), .val (.int (1 : Int32)), .val (.ref a5), .unset, .unset] [.int ((own_clr (own_add own_z4 0 k0)).2.2.2)]
    refine C.ifEq (q := 75) (q' := 73) at_70 (by decide) (by decide) rfl (fun h70 => ?_) (fun h70 => absurd (rfl) h70)
    refine C.iload (q := 77) at_75 rfl rfl ?_
    refine C.iconst (q := 78) (z := (3 : Int32)) at_77 rfl rfl ?_
    refine C.iand (q := 79) at_78 rfl ?_
    rw [ep]
    refine C.istore (q := 81) (ls' := [.val (.int a), .val (.int b), .val (.int c), .val (.int d), .val (.int e), .val (.int f), .val (.int (1 : Int32)), .val (.ref a5), .val (.int (Int32.ofNat p)), .unset]) at_79 rfl rfl ?_
    refine C.iload (q := 83) at_81 rfl rfl ?_
    refine C.iconst (q := 84) (z := (3 : Int32)) at_83 rfl rfl ?_
    refine C.iand (q := 85) at_84 rfl ?_
    rw [eq]
    refine C.istore (q := 87) (ls' := [.val (.int a), .val (.int b), .val (.int c), .val (.int d), .val (.int e), .val (.int f), .val (.int (1 : Int32)), .val (.ref a5), .val (.int (Int32.ofNat p)), .val (.int (Int32.ofNat q))]) at_85 rfl rfl ?_
    refine C.aload (q := 89) at_87 rfl rfl rfl ?_
    refine C.iconst (q := 90) (z := (3 : Int32)) at_89 rfl rfl ?_
    refine C.iload (q := 92) at_90 rfl rfl ?_
    refine C.callV (q := 95) 0 0 [.int (3 : Int32), .int (Int32.ofNat p)] [] at_92 (hw _ (List.mem_of_getElem? (i := 32) rfl)) (hw _ (List.mem_of_getElem? (i := 33) rfl)) (hw _ (List.mem_of_getElem? (i := 34) rfl)) (hw _ (List.mem_of_getElem? (i := 35) rfl)) (hw _ (List.mem_of_getElem? (i := 2) rfl)) (hw _ (List.mem_of_getElem? (i := 36) rfl)) (own_c1 l Z a0 n0 hw [] a5 h x m (own_clr (own_add own_z4 0 k0)) 3 p (by decide) (by omega) (own_okB.ok f2)) (by decide) (by decide) (by decide) own_pd1 rfl rfl rfl rfl (Nat.le_of_eq rfl) (by decide) (by decide) rfl ?_
    rintro _ _ ⟨rfl, hE⟩
    rw [hE]
    show G 4 17 [(a5, .inr ("com/example/terms_to_transitions/termstotransitions/equivalence/TransitionLists", [("heads", "[I", .ref h), ("nexts", "[I", .ref x), ("keysMet", "[I", .ref m), ("keysMetCount", "I", .int ((own_add (own_clr (own_add own_z4 0 k0)) 3 p).2.2.2))])), (h, .inl (.int, (own_vl (own_add (own_clr (own_add own_z4 0 k0)) 3 p).1))), (x, .inl (.int, (own_vl (own_add (own_clr (own_add own_z4 0 k0)) 3 p).2.1))), (m, .inl (.int, (own_vl (own_add (own_clr (own_add own_z4 0 k0)) 3 p).2.2.1)))] 95 [.val (.int a), .val (.int b), .val (.int c), .val (.int d), .val (.int e), .val (.int f), .val (.int (1 : Int32)), .val (.ref a5), .val (.int (Int32.ofNat p)), .val (.int (Int32.ofNat q))] []
    refine C.aload (q := 97) at_95 rfl rfl rfl ?_
    refine C.iconst (q := 98) (z := (4 : Int32)) at_97 rfl rfl ?_
    refine C.iload (q := 100) at_98 rfl rfl ?_
    refine C.callV (q := 103) 0 0 [.int (4 : Int32), .int (Int32.ofNat q)] [] at_100 (hw _ (List.mem_of_getElem? (i := 32) rfl)) (hw _ (List.mem_of_getElem? (i := 33) rfl)) (hw _ (List.mem_of_getElem? (i := 34) rfl)) (hw _ (List.mem_of_getElem? (i := 35) rfl)) (hw _ (List.mem_of_getElem? (i := 2) rfl)) (hw _ (List.mem_of_getElem? (i := 36) rfl)) (own_c1 l Z a0 n0 hw [] a5 h x m (own_add (own_clr (own_add own_z4 0 k0)) 3 p) 4 q (by decide) (by omega) (own_okB.ok f3)) (by decide) (by decide) (by decide) own_pd1 rfl rfl rfl rfl (Nat.le_of_eq rfl) (by decide) (by decide) rfl ?_
    rintro _ _ ⟨rfl, hE⟩
    rw [hE]
    show G 4 17 [(a5, .inr ("com/example/terms_to_transitions/termstotransitions/equivalence/TransitionLists", [("heads", "[I", .ref h), ("nexts", "[I", .ref x), ("keysMet", "[I", .ref m), ("keysMetCount", "I", .int ((own_add (own_add (own_clr (own_add own_z4 0 k0)) 3 p) 4 q).2.2.2))])), (h, .inl (.int, (own_vl (own_add (own_add (own_clr (own_add own_z4 0 k0)) 3 p) 4 q).1))), (x, .inl (.int, (own_vl (own_add (own_add (own_clr (own_add own_z4 0 k0)) 3 p) 4 q).2.1))), (m, .inl (.int, (own_vl (own_add (own_add (own_clr (own_add own_z4 0 k0)) 3 p) 4 q).2.2.1)))] 103 [.val (.int a), .val (.int b), .val (.int c), .val (.int d), .val (.int e), .val (.int f), .val (.int (1 : Int32)), .val (.ref a5), .val (.int (Int32.ofNat p)), .val (.int (Int32.ofNat q))] []
    refine C.iload (q := 105) at_103 rfl rfl ?_
    refine C.iload (q := 107) at_105 rfl rfl ?_
    refine C.icmpNe (q := 155) (q' := 110) at_107 (by decide) (by decide) rfl (fun h107 => ?_) (fun h107 => ?_)
    · obtain ⟨g0, g1, g2, g3, g4, g5⟩ := finT ((own_ie (by omega) (by omega)).mp h107)
      refine C.aload (q := 112) at_110 rfl rfl rfl ?_
      refine C.callV (q := 115) 0 0 [] [] at_112 (hw _ (List.mem_of_getElem? (i := 27) rfl)) (hw _ (List.mem_of_getElem? (i := 28) rfl)) (hw _ (List.mem_of_getElem? (i := 29) rfl)) (hw _ (List.mem_of_getElem? (i := 30) rfl)) (hw _ (List.mem_of_getElem? (i := 2) rfl)) (hw _ (List.mem_of_getElem? (i := 31) rfl)) (own_c2 l Z a0 n0 hw [] a5 h x m (own_add (own_add (own_clr (own_add own_z4 0 k0)) 3 p) 4 q)) (by decide) (by decide) (by decide) own_pd3 rfl rfl rfl rfl (Nat.le_of_eq rfl) (by decide) (by decide) rfl ?_
      rintro _ _ ⟨rfl, hE⟩
      rw [hE]
      show G 4 17 [(a5, .inr ("com/example/terms_to_transitions/termstotransitions/equivalence/TransitionLists", [("heads", "[I", .ref h), ("nexts", "[I", .ref x), ("keysMet", "[I", .ref m), ("keysMetCount", "I", .int ((own_add (own_add (own_clr (own_add own_z4 0 k0)) 3 p) 4 q).2.2.2))])), (h, .inl (.int, (own_vl (own_add (own_add (own_clr (own_add own_z4 0 k0)) 3 p) 4 q).1))), (x, .inl (.int, (own_vl (own_add (own_add (own_clr (own_add own_z4 0 k0)) 3 p) 4 q).2.1))), (m, .inl (.int, (own_vl (own_add (own_add (own_clr (own_add own_z4 0 k0)) 3 p) 4 q).2.2.1)))] 115 [.val (.int a), .val (.int b), .val (.int c), .val (.int d), .val (.int e), .val (.int f), .val (.int (1 : Int32)), .val (.ref a5), .val (.int (Int32.ofNat p)), .val (.int (Int32.ofNat q))] [.int ((own_add (own_add (own_clr (own_add own_z4 0 k0)) 3 p) 4 q).2.2.2)]
      refine C.iconst (q := 116) (z := (1 : Int32)) at_115 rfl rfl ?_
      refine C.icmpNe (q := 153) (q' := 119) at_116 (by decide) (by decide) rfl (fun h116 => ?_) (fun h116 => absurd (g0) h116)
      refine C.aload (q := 121) at_119 rfl rfl rfl ?_
      refine C.iconst (q := 122) (z := (0 : Int32)) at_121 rfl rfl ?_
      refine C.callV (q := 125) 0 0 [.int (0 : Int32)] [] at_122 (hw _ (List.mem_of_getElem? (i := 37) rfl)) (hw _ (List.mem_of_getElem? (i := 38) rfl)) (hw _ (List.mem_of_getElem? (i := 39) rfl)) (hw _ (List.mem_of_getElem? (i := 40) rfl)) (hw _ (List.mem_of_getElem? (i := 2) rfl)) (hw _ (List.mem_of_getElem? (i := 41) rfl)) (own_c3 l Z a0 n0 hw [] a5 h x m (own_add (own_add (own_clr (own_add own_z4 0 k0)) 3 p) 4 q) 0 (by decide) (own_fB.ok g1).1 (own_fB.ok g1).2.1 (own_fB.ok g1).2.2) (by decide) (by decide) (by decide) own_pd4 rfl rfl rfl rfl (Nat.le_of_eq rfl) (by decide) (by decide) rfl ?_
      rintro _ _ ⟨rfl, hE⟩
      rw [hE]
      show G 4 17 [(a5, .inr ("com/example/terms_to_transitions/termstotransitions/equivalence/TransitionLists", [("heads", "[I", .ref h), ("nexts", "[I", .ref x), ("keysMet", "[I", .ref m), ("keysMetCount", "I", .int ((own_add (own_add (own_clr (own_add own_z4 0 k0)) 3 p) 4 q).2.2.2))])), (h, .inl (.int, (own_vl (own_add (own_add (own_clr (own_add own_z4 0 k0)) 3 p) 4 q).1))), (x, .inl (.int, (own_vl (own_add (own_add (own_clr (own_add own_z4 0 k0)) 3 p) 4 q).2.1))), (m, .inl (.int, (own_vl (own_add (own_add (own_clr (own_add own_z4 0 k0)) 3 p) 4 q).2.2.1)))] 125 [.val (.int a), .val (.int b), .val (.int c), .val (.int d), .val (.int e), .val (.int f), .val (.int (1 : Int32)), .val (.ref a5), .val (.int (Int32.ofNat p)), .val (.int (Int32.ofNat q))] [.int ((own_add (own_add (own_clr (own_add own_z4 0 k0)) 3 p) 4 q).1.getD ((own_add (own_add (own_clr (own_add own_z4 0 k0)) 3 p) 4 q).2.2.1.getD 0 0).toNatClampNeg 0)]
      refine C.iconst (q := 126) (z := (4 : Int32)) at_125 rfl rfl ?_
      refine C.icmpNe (q := 153) (q' := 129) at_126 (by decide) (by decide) rfl (fun h126 => ?_) (fun h126 => absurd (g2) h126)
      refine C.aload (q := 131) at_129 rfl rfl rfl ?_
      refine C.iconst (q := 132) (z := (4 : Int32)) at_131 rfl rfl ?_
      refine C.callV (q := 135) 0 0 [.int (4 : Int32)] [] at_132 (hw _ (List.mem_of_getElem? (i := 42) rfl)) (hw _ (List.mem_of_getElem? (i := 43) rfl)) (hw _ (List.mem_of_getElem? (i := 44) rfl)) (hw _ (List.mem_of_getElem? (i := 45) rfl)) (hw _ (List.mem_of_getElem? (i := 2) rfl)) (hw _ (List.mem_of_getElem? (i := 46) rfl)) (own_c4 l Z a0 n0 hw [] a5 h x m (own_add (own_add (own_clr (own_add own_z4 0 k0)) 3 p) 4 q) 4 (by decide) (by omega)) (by decide) (by decide) (by decide) own_pd4 rfl rfl rfl rfl (Nat.le_of_eq rfl) (by decide) (by decide) rfl ?_
      rintro _ _ ⟨rfl, hE⟩
      rw [hE]
      show G 4 17 [(a5, .inr ("com/example/terms_to_transitions/termstotransitions/equivalence/TransitionLists", [("heads", "[I", .ref h), ("nexts", "[I", .ref x), ("keysMet", "[I", .ref m), ("keysMetCount", "I", .int ((own_add (own_add (own_clr (own_add own_z4 0 k0)) 3 p) 4 q).2.2.2))])), (h, .inl (.int, (own_vl (own_add (own_add (own_clr (own_add own_z4 0 k0)) 3 p) 4 q).1))), (x, .inl (.int, (own_vl (own_add (own_add (own_clr (own_add own_z4 0 k0)) 3 p) 4 q).2.1))), (m, .inl (.int, (own_vl (own_add (own_add (own_clr (own_add own_z4 0 k0)) 3 p) 4 q).2.2.1)))] 135 [.val (.int a), .val (.int b), .val (.int c), .val (.int d), .val (.int e), .val (.int f), .val (.int (1 : Int32)), .val (.ref a5), .val (.int (Int32.ofNat p)), .val (.int (Int32.ofNat q))] [.int ((own_add (own_add (own_clr (own_add own_z4 0 k0)) 3 p) 4 q).2.1.getD 4 0)]
      refine C.iconst (q := 136) (z := (3 : Int32)) at_135 rfl rfl ?_
      refine C.icmpNe (q := 153) (q' := 139) at_136 (by decide) (by decide) rfl (fun h136 => ?_) (fun h136 => absurd (g4) h136)
      refine C.aload (q := 141) at_139 rfl rfl rfl ?_
      refine C.iconst (q := 142) (z := (3 : Int32)) at_141 rfl rfl ?_
      refine C.callV (q := 145) 0 0 [.int (3 : Int32)] [] at_142 (hw _ (List.mem_of_getElem? (i := 42) rfl)) (hw _ (List.mem_of_getElem? (i := 43) rfl)) (hw _ (List.mem_of_getElem? (i := 44) rfl)) (hw _ (List.mem_of_getElem? (i := 45) rfl)) (hw _ (List.mem_of_getElem? (i := 2) rfl)) (hw _ (List.mem_of_getElem? (i := 46) rfl)) (own_c4 l Z a0 n0 hw [] a5 h x m (own_add (own_add (own_clr (own_add own_z4 0 k0)) 3 p) 4 q) 3 (by decide) (by omega)) (by decide) (by decide) (by decide) own_pd4 rfl rfl rfl rfl (Nat.le_of_eq rfl) (by decide) (by decide) rfl ?_
      rintro _ _ ⟨rfl, hE⟩
      rw [hE]
      show G 4 17 [(a5, .inr ("com/example/terms_to_transitions/termstotransitions/equivalence/TransitionLists", [("heads", "[I", .ref h), ("nexts", "[I", .ref x), ("keysMet", "[I", .ref m), ("keysMetCount", "I", .int ((own_add (own_add (own_clr (own_add own_z4 0 k0)) 3 p) 4 q).2.2.2))])), (h, .inl (.int, (own_vl (own_add (own_add (own_clr (own_add own_z4 0 k0)) 3 p) 4 q).1))), (x, .inl (.int, (own_vl (own_add (own_add (own_clr (own_add own_z4 0 k0)) 3 p) 4 q).2.1))), (m, .inl (.int, (own_vl (own_add (own_add (own_clr (own_add own_z4 0 k0)) 3 p) 4 q).2.2.1)))] 145 [.val (.int a), .val (.int b), .val (.int c), .val (.int d), .val (.int e), .val (.int f), .val (.int (1 : Int32)), .val (.ref a5), .val (.int (Int32.ofNat p)), .val (.int (Int32.ofNat q))] [.int ((own_add (own_add (own_clr (own_add own_z4 0 k0)) 3 p) 4 q).2.1.getD 3 0)]
      refine C.iconst (q := 146) (z := (-1 : Int32)) at_145 rfl rfl ?_
      refine C.icmpNe (q := 153) (q' := 149) at_146 (by decide) (by decide) rfl (fun h146 => ?_) (fun h146 => absurd (g5) h146)
      refine C.iconst (q := 150) (z := (1 : Int32)) at_149 rfl rfl ?_
      refine C.goto (q := 154) at_150 (by decide) (by decide) ?_
      exact C.retB (by simp) at_154 (by decide) (by decide) rfl
    · obtain ⟨g0, g1, g2, g3, g4, g5, g6, g7⟩ := finF (fun z => h107 (congrArg Int32.ofNat z))
      refine C.aload (q := 157) at_155 rfl rfl rfl ?_
      refine C.callV (q := 160) 0 0 [] [] at_157 (hw _ (List.mem_of_getElem? (i := 27) rfl)) (hw _ (List.mem_of_getElem? (i := 28) rfl)) (hw _ (List.mem_of_getElem? (i := 29) rfl)) (hw _ (List.mem_of_getElem? (i := 30) rfl)) (hw _ (List.mem_of_getElem? (i := 2) rfl)) (hw _ (List.mem_of_getElem? (i := 31) rfl)) (own_c2 l Z a0 n0 hw [] a5 h x m (own_add (own_add (own_clr (own_add own_z4 0 k0)) 3 p) 4 q)) (by decide) (by decide) (by decide) own_pd3 rfl rfl rfl rfl (Nat.le_of_eq rfl) (by decide) (by decide) rfl ?_
      rintro _ _ ⟨rfl, hE⟩
      rw [hE]
      show G 4 17 [(a5, .inr ("com/example/terms_to_transitions/termstotransitions/equivalence/TransitionLists", [("heads", "[I", .ref h), ("nexts", "[I", .ref x), ("keysMet", "[I", .ref m), ("keysMetCount", "I", .int ((own_add (own_add (own_clr (own_add own_z4 0 k0)) 3 p) 4 q).2.2.2))])), (h, .inl (.int, (own_vl (own_add (own_add (own_clr (own_add own_z4 0 k0)) 3 p) 4 q).1))), (x, .inl (.int, (own_vl (own_add (own_add (own_clr (own_add own_z4 0 k0)) 3 p) 4 q).2.1))), (m, .inl (.int, (own_vl (own_add (own_add (own_clr (own_add own_z4 0 k0)) 3 p) 4 q).2.2.1)))] 160 [.val (.int a), .val (.int b), .val (.int c), .val (.int d), .val (.int e), .val (.int f), .val (.int (1 : Int32)), .val (.ref a5), .val (.int (Int32.ofNat p)), .val (.int (Int32.ofNat q))] [.int ((own_add (own_add (own_clr (own_add own_z4 0 k0)) 3 p) 4 q).2.2.2)]
      refine C.iconst (q := 161) (z := (2 : Int32)) at_160 rfl rfl ?_
      refine C.icmpNe (q := 208) (q' := 164) at_161 (by decide) (by decide) rfl (fun h161 => ?_) (fun h161 => absurd (g0) h161)
      refine C.aload (q := 166) at_164 rfl rfl rfl ?_
      refine C.iconst (q := 167) (z := (0 : Int32)) at_166 rfl rfl ?_
      refine C.callV (q := 170) 0 0 [.int (0 : Int32)] [] at_167 (hw _ (List.mem_of_getElem? (i := 37) rfl)) (hw _ (List.mem_of_getElem? (i := 38) rfl)) (hw _ (List.mem_of_getElem? (i := 39) rfl)) (hw _ (List.mem_of_getElem? (i := 40) rfl)) (hw _ (List.mem_of_getElem? (i := 2) rfl)) (hw _ (List.mem_of_getElem? (i := 41) rfl)) (own_c3 l Z a0 n0 hw [] a5 h x m (own_add (own_add (own_clr (own_add own_z4 0 k0)) 3 p) 4 q) 0 (by decide) (own_fB.ok g1).1 (own_fB.ok g1).2.1 (own_fB.ok g1).2.2) (by decide) (by decide) (by decide) own_pd4 rfl rfl rfl rfl (Nat.le_of_eq rfl) (by decide) (by decide) rfl ?_
      rintro _ _ ⟨rfl, hE⟩
      rw [hE]
      show G 4 17 [(a5, .inr ("com/example/terms_to_transitions/termstotransitions/equivalence/TransitionLists", [("heads", "[I", .ref h), ("nexts", "[I", .ref x), ("keysMet", "[I", .ref m), ("keysMetCount", "I", .int ((own_add (own_add (own_clr (own_add own_z4 0 k0)) 3 p) 4 q).2.2.2))])), (h, .inl (.int, (own_vl (own_add (own_add (own_clr (own_add own_z4 0 k0)) 3 p) 4 q).1))), (x, .inl (.int, (own_vl (own_add (own_add (own_clr (own_add own_z4 0 k0)) 3 p) 4 q).2.1))), (m, .inl (.int, (own_vl (own_add (own_add (own_clr (own_add own_z4 0 k0)) 3 p) 4 q).2.2.1)))] 170 [.val (.int a), .val (.int b), .val (.int c), .val (.int d), .val (.int e), .val (.int f), .val (.int (1 : Int32)), .val (.ref a5), .val (.int (Int32.ofNat p)), .val (.int (Int32.ofNat q))] [.int ((own_add (own_add (own_clr (own_add own_z4 0 k0)) 3 p) 4 q).1.getD ((own_add (own_add (own_clr (own_add own_z4 0 k0)) 3 p) 4 q).2.2.1.getD 0 0).toNatClampNeg 0)]
      refine C.iconst (q := 171) (z := (3 : Int32)) at_170 rfl rfl ?_
      refine C.icmpNe (q := 208) (q' := 174) at_171 (by decide) (by decide) rfl (fun h171 => ?_) (fun h171 => absurd (g2) h171)
      refine C.aload (q := 176) at_174 rfl rfl rfl ?_
      refine C.iconst (q := 177) (z := (3 : Int32)) at_176 rfl rfl ?_
      refine C.callV (q := 180) 0 0 [.int (3 : Int32)] [] at_177 (hw _ (List.mem_of_getElem? (i := 42) rfl)) (hw _ (List.mem_of_getElem? (i := 43) rfl)) (hw _ (List.mem_of_getElem? (i := 44) rfl)) (hw _ (List.mem_of_getElem? (i := 45) rfl)) (hw _ (List.mem_of_getElem? (i := 2) rfl)) (hw _ (List.mem_of_getElem? (i := 46) rfl)) (own_c4 l Z a0 n0 hw [] a5 h x m (own_add (own_add (own_clr (own_add own_z4 0 k0)) 3 p) 4 q) 3 (by decide) (by omega)) (by decide) (by decide) (by decide) own_pd4 rfl rfl rfl rfl (Nat.le_of_eq rfl) (by decide) (by decide) rfl ?_
      rintro _ _ ⟨rfl, hE⟩
      rw [hE]
      show G 4 17 [(a5, .inr ("com/example/terms_to_transitions/termstotransitions/equivalence/TransitionLists", [("heads", "[I", .ref h), ("nexts", "[I", .ref x), ("keysMet", "[I", .ref m), ("keysMetCount", "I", .int ((own_add (own_add (own_clr (own_add own_z4 0 k0)) 3 p) 4 q).2.2.2))])), (h, .inl (.int, (own_vl (own_add (own_add (own_clr (own_add own_z4 0 k0)) 3 p) 4 q).1))), (x, .inl (.int, (own_vl (own_add (own_add (own_clr (own_add own_z4 0 k0)) 3 p) 4 q).2.1))), (m, .inl (.int, (own_vl (own_add (own_add (own_clr (own_add own_z4 0 k0)) 3 p) 4 q).2.2.1)))] 180 [.val (.int a), .val (.int b), .val (.int c), .val (.int d), .val (.int e), .val (.int f), .val (.int (1 : Int32)), .val (.ref a5), .val (.int (Int32.ofNat p)), .val (.int (Int32.ofNat q))] [.int ((own_add (own_add (own_clr (own_add own_z4 0 k0)) 3 p) 4 q).2.1.getD 3 0)]
      refine C.iconst (q := 181) (z := (-1 : Int32)) at_180 rfl rfl ?_
      refine C.icmpNe (q := 208) (q' := 184) at_181 (by decide) (by decide) rfl (fun h181 => ?_) (fun h181 => absurd (g4) h181)
      refine C.aload (q := 186) at_184 rfl rfl rfl ?_
      refine C.iconst (q := 187) (z := (1 : Int32)) at_186 rfl rfl ?_
      refine C.callV (q := 190) 0 0 [.int (1 : Int32)] [] at_187 (hw _ (List.mem_of_getElem? (i := 37) rfl)) (hw _ (List.mem_of_getElem? (i := 38) rfl)) (hw _ (List.mem_of_getElem? (i := 39) rfl)) (hw _ (List.mem_of_getElem? (i := 40) rfl)) (hw _ (List.mem_of_getElem? (i := 2) rfl)) (hw _ (List.mem_of_getElem? (i := 41) rfl)) (own_c3 l Z a0 n0 hw [] a5 h x m (own_add (own_add (own_clr (own_add own_z4 0 k0)) 3 p) 4 q) 1 (by decide) (own_fB.ok g5).1 (own_fB.ok g5).2.1 (own_fB.ok g5).2.2) (by decide) (by decide) (by decide) own_pd4 rfl rfl rfl rfl (Nat.le_of_eq rfl) (by decide) (by decide) rfl ?_
      rintro _ _ ⟨rfl, hE⟩
      rw [hE]
      show G 4 17 [(a5, .inr ("com/example/terms_to_transitions/termstotransitions/equivalence/TransitionLists", [("heads", "[I", .ref h), ("nexts", "[I", .ref x), ("keysMet", "[I", .ref m), ("keysMetCount", "I", .int ((own_add (own_add (own_clr (own_add own_z4 0 k0)) 3 p) 4 q).2.2.2))])), (h, .inl (.int, (own_vl (own_add (own_add (own_clr (own_add own_z4 0 k0)) 3 p) 4 q).1))), (x, .inl (.int, (own_vl (own_add (own_add (own_clr (own_add own_z4 0 k0)) 3 p) 4 q).2.1))), (m, .inl (.int, (own_vl (own_add (own_add (own_clr (own_add own_z4 0 k0)) 3 p) 4 q).2.2.1)))] 190 [.val (.int a), .val (.int b), .val (.int c), .val (.int d), .val (.int e), .val (.int f), .val (.int (1 : Int32)), .val (.ref a5), .val (.int (Int32.ofNat p)), .val (.int (Int32.ofNat q))] [.int ((own_add (own_add (own_clr (own_add own_z4 0 k0)) 3 p) 4 q).1.getD ((own_add (own_add (own_clr (own_add own_z4 0 k0)) 3 p) 4 q).2.2.1.getD 1 0).toNatClampNeg 0)]
      refine C.iconst (q := 191) (z := (4 : Int32)) at_190 rfl rfl ?_
      refine C.icmpNe (q := 208) (q' := 194) at_191 (by decide) (by decide) rfl (fun h191 => ?_) (fun h191 => absurd (g6) h191)
      refine C.aload (q := 196) at_194 rfl rfl rfl ?_
      refine C.iconst (q := 197) (z := (4 : Int32)) at_196 rfl rfl ?_
      refine C.callV (q := 200) 0 0 [.int (4 : Int32)] [] at_197 (hw _ (List.mem_of_getElem? (i := 42) rfl)) (hw _ (List.mem_of_getElem? (i := 43) rfl)) (hw _ (List.mem_of_getElem? (i := 44) rfl)) (hw _ (List.mem_of_getElem? (i := 45) rfl)) (hw _ (List.mem_of_getElem? (i := 2) rfl)) (hw _ (List.mem_of_getElem? (i := 46) rfl)) (own_c4 l Z a0 n0 hw [] a5 h x m (own_add (own_add (own_clr (own_add own_z4 0 k0)) 3 p) 4 q) 4 (by decide) (by omega)) (by decide) (by decide) (by decide) own_pd4 rfl rfl rfl rfl (Nat.le_of_eq rfl) (by decide) (by decide) rfl ?_
      rintro _ _ ⟨rfl, hE⟩
      rw [hE]
      show G 4 17 [(a5, .inr ("com/example/terms_to_transitions/termstotransitions/equivalence/TransitionLists", [("heads", "[I", .ref h), ("nexts", "[I", .ref x), ("keysMet", "[I", .ref m), ("keysMetCount", "I", .int ((own_add (own_add (own_clr (own_add own_z4 0 k0)) 3 p) 4 q).2.2.2))])), (h, .inl (.int, (own_vl (own_add (own_add (own_clr (own_add own_z4 0 k0)) 3 p) 4 q).1))), (x, .inl (.int, (own_vl (own_add (own_add (own_clr (own_add own_z4 0 k0)) 3 p) 4 q).2.1))), (m, .inl (.int, (own_vl (own_add (own_add (own_clr (own_add own_z4 0 k0)) 3 p) 4 q).2.2.1)))] 200 [.val (.int a), .val (.int b), .val (.int c), .val (.int d), .val (.int e), .val (.int f), .val (.int (1 : Int32)), .val (.ref a5), .val (.int (Int32.ofNat p)), .val (.int (Int32.ofNat q))] [.int ((own_add (own_add (own_clr (own_add own_z4 0 k0)) 3 p) 4 q).2.1.getD 4 0)]
      refine C.iconst (q := 201) (z := (-1 : Int32)) at_200 rfl rfl ?_
      refine C.icmpNe (q := 208) (q' := 204) at_201 (by decide) (by decide) rfl (fun h201 => ?_) (fun h201 => absurd (g7) h201)
      refine C.iconst (q := 205) (z := (1 : Int32)) at_204 rfl rfl ?_
      refine C.goto (q := 209) at_205 (by decide) (by decide) ?_
      exact C.retB (by simp) at_209 (by decide) (by decide) rfl
  · rw [ec]
    show G 0 0 [] 3 [.val (.int a), .val (.int b), .val (.int c), .val (.int d), .val (.int e), .val (.int f), .unset, .unset, .unset, .unset] [.int (2 : Int32)]
    obtain ⟨k0, hk0, ek0⟩ := own_m3 b
    obtain ⟨k1, hk1, ek1⟩ := own_m3 c
    obtain ⟨p, hp, ep⟩ := own_m3 e
    obtain ⟨q, hq, eq⟩ := own_m3 f
    obtain ⟨f0, f1, f2, f3, f4, finT, finF⟩ := own_all2 ⟨k0, hk0⟩ ⟨k1, hk1⟩ ⟨p, hp⟩ ⟨q, hq⟩
    dsimp only at f0 f1 f2 f3 f4 finT finF
    refine C.istore (q := 5) (ls' := [.val (.int a), .val (.int b), .val (.int c), .val (.int d), .val (.int e), .val (.int f), .val (.int (2 : Int32)), .unset, .unset, .unset]) at_3 rfl rfl ?_
    refine C.newobj (q := 8) [("heads", "[I", (.array .int)), ("nexts", "[I", (.array .int)), ("keysMet", "[I", (.array .int)), ("keysMetCount", "I", .int)] (fs := [("heads", "[I", .null), ("nexts", "[I", .null), ("keysMet", "[I", .null), ("keysMetCount", "I", .int (0 : Int32))]) (k' := 1) (n' := 4) at_5 (hw _ (List.mem_of_getElem? (i := 0) rfl)) (hw _ (List.mem_of_getElem? (i := 1) rfl)) (hw _ (List.mem_of_getElem? (i := 2) rfl)) ⟨⟨Or.inr (hw _ (List.mem_of_getElem? (i := 11) rfl)), by decide⟩, ⟨⟨Or.inr (hw _ (List.mem_of_getElem? (i := 17) rfl)), by decide⟩, ⟨⟨Or.inr (hw _ (List.mem_of_getElem? (i := 19) rfl)), by decide⟩, ⟨⟨Or.inl (hw _ (List.mem_of_getElem? (i := 26) rfl)), by decide⟩, trivial⟩⟩⟩⟩ (by decide) (by decide) (by decide) rfl rfl rfl rfl (fun a5 => ?_)
    show G 1 4 [(a5, .inr ("com/example/terms_to_transitions/termstotransitions/equivalence/TransitionLists", [("heads", "[I", .null), ("nexts", "[I", .null), ("keysMet", "[I", .null), ("keysMetCount", "I", .int (0 : Int32))]))] 8 [.val (.int a), .val (.int b), .val (.int c), .val (.int d), .val (.int e), .val (.int f), .val (.int (2 : Int32)), .unset, .unset, .unset] [.ref a5]
    refine C.dup (q := 9) at_8 rfl rfl ?_
    refine C.iconst (q := 10) (z := (4 : Int32)) at_9 rfl rfl ?_
    refine C.iconst (q := 11) (z := (5 : Int32)) at_10 rfl rfl ?_
    refine C.callI (q := 14) 1 a5 [.int (4 : Int32), .int (5 : Int32)] [.ref a5] at_11 (hw _ (List.mem_of_getElem? (i := 3) rfl)) (hw _ (List.mem_of_getElem? (i := 4) rfl)) (hw _ (List.mem_of_getElem? (i := 2) rfl)) (hw _ (List.mem_of_getElem? (i := 5) rfl)) (own_c5 l Z a0 n0 hw [] a5) rfl (by decide) (by decide) (by decide) own_pd1 rfl rfl rfl (Nat.le_of_eq rfl) (by decide) (by decide) rfl ?_
    rintro _ _ ⟨rfl, h, x, m, rfl⟩
    show G 4 17 [(a5, .inr ("com/example/terms_to_transitions/termstotransitions/equivalence/TransitionLists", [("heads", "[I", .ref h), ("nexts", "[I", .ref x), ("keysMet", "[I", .ref m), ("keysMetCount", "I", .int own_z4.2.2.2)])), (h, .inl (.int, (own_vl own_z4.1))), (x, .inl (.int, (own_vl own_z4.2.1))), (m, .inl (.int, (own_vl own_z4.2.2.1)))] 14 [.val (.int a), .val (.int b), .val (.int c), .val (.int d), .val (.int e), .val (.int f), .val (.int (2 : Int32)), .unset, .unset, .unset] [.ref a5]
    refine C.astore (q := 16) (ls' := [.val (.int a), .val (.int b), .val (.int c), .val (.int d), .val (.int e), .val (.int f), .val (.int (2 : Int32)), .val (.ref a5), .unset, .unset]) at_14 rfl rfl rfl ?_
    refine C.iload (q := 18) at_16 rfl rfl ?_
    refine C.ifLe (q := 30) (q' := 21) at_18 (by decide) (by decide) rfl (fun h18 => ?_) (fun h18 => absurd (by decide) h18)
    refine C.aload (q := 23) at_21 rfl rfl rfl ?_
    refine C.iconst (q := 24) (z := (0 : Int32)) at_23 rfl rfl ?_
    refine C.iloadN (q := 25) at_24 rfl rfl ?_
    refine C.iconst (q := 26) (z := (3 : Int32)) at_25 rfl rfl ?_
    refine C.iand (q := 27) at_26 rfl ?_
    rw [ek0]
    refine C.callV (q := 30) 0 0 [.int (0 : Int32), .int (Int32.ofNat k0)] [] at_27 (hw _ (List.mem_of_getElem? (i := 32) rfl)) (hw _ (List.mem_of_getElem? (i := 33) rfl)) (hw _ (List.mem_of_getElem? (i := 34) rfl)) (hw _ (List.mem_of_getElem? (i := 35) rfl)) (hw _ (List.mem_of_getElem? (i := 2) rfl)) (hw _ (List.mem_of_getElem? (i := 36) rfl)) (own_c1 l Z a0 n0 hw [] a5 h x m own_z4 0 k0 (by decide) (by omega) (own_okB.ok f0)) (by decide) (by decide) (by decide) own_pd1 rfl rfl rfl rfl (Nat.le_of_eq rfl) (by decide) (by decide) rfl ?_
    rintro _ _ ⟨rfl, hE⟩
    rw [hE]
    show G 4 17 [(a5, .inr ("com/example/terms_to_transitions/termstotransitions/equivalence/TransitionLists", [("heads", "[I", .ref h), ("nexts", "[I", .ref x), ("keysMet", "[I", .ref m), ("keysMetCount", "I", .int ((own_add own_z4 0 k0).2.2.2))])), (h, .inl (.int, (own_vl (own_add own_z4 0 k0).1))), (x, .inl (.int, (own_vl (own_add own_z4 0 k0).2.1))), (m, .inl (.int, (own_vl (own_add own_z4 0 k0).2.2.1)))] 30 [.val (.int a), .val (.int b), .val (.int c), .val (.int d), .val (.int e), .val (.int f), .val (.int (2 : Int32)), .val (.ref a5), .unset, .unset] []
    refine C.iload (q := 32) at_30 rfl rfl ?_
    refine C.iconst (q := 33) (z := (1 : Int32)) at_32 rfl rfl ?_
    refine C.icmpLe (q := 45) (q' := 36) at_33 (by decide) (by decide) rfl (fun h33 => ?_) (fun h33 => absurd (by decide) h33)
    refine C.aload (q := 38) at_36 rfl rfl rfl ?_
    refine C.iconst (q := 39) (z := (1 : Int32)) at_38 rfl rfl ?_
    refine C.iloadN (q := 40) at_39 rfl rfl ?_
    refine C.iconst (q := 41) (z := (3 : Int32)) at_40 rfl rfl ?_
    refine C.iand (q := 42) at_41 rfl ?_
    rw [ek1]
    refine C.callV (q := 45) 0 0 [.int (1 : Int32), .int (Int32.ofNat k1)] [] at_42 (hw _ (List.mem_of_getElem? (i := 32) rfl)) (hw _ (List.mem_of_getElem? (i := 33) rfl)) (hw _ (List.mem_of_getElem? (i := 34) rfl)) (hw _ (List.mem_of_getElem? (i := 35) rfl)) (hw _ (List.mem_of_getElem? (i := 2) rfl)) (hw _ (List.mem_of_getElem? (i := 36) rfl)) (own_c1 l Z a0 n0 hw [] a5 h x m (own_add own_z4 0 k0) 1 k1 (by decide) (by omega) (own_okB.ok f1)) (by decide) (by decide) (by decide) own_pd1 rfl rfl rfl rfl (Nat.le_of_eq rfl) (by decide) (by decide) rfl ?_
    rintro _ _ ⟨rfl, hE⟩
    rw [hE]
    show G 4 17 [(a5, .inr ("com/example/terms_to_transitions/termstotransitions/equivalence/TransitionLists", [("heads", "[I", .ref h), ("nexts", "[I", .ref x), ("keysMet", "[I", .ref m), ("keysMetCount", "I", .int ((own_add (own_add own_z4 0 k0) 1 k1).2.2.2))])), (h, .inl (.int, (own_vl (own_add (own_add own_z4 0 k0) 1 k1).1))), (x, .inl (.int, (own_vl (own_add (own_add own_z4 0 k0) 1 k1).2.1))), (m, .inl (.int, (own_vl (own_add (own_add own_z4 0 k0) 1 k1).2.2.1)))] 45 [.val (.int a), .val (.int b), .val (.int c), .val (.int d), .val (.int e), .val (.int f), .val (.int (2 : Int32)), .val (.ref a5), .unset, .unset] []
    refine C.iload (q := 47) at_45 rfl rfl ?_
    refine C.iconst (q := 48) (z := (2 : Int32)) at_47 rfl rfl ?_
    refine C.icmpLe (q := 60) (q' := 51) at_48 (by decide) (by decide) rfl (fun h48 => absurd h48 (by decide)) (fun h48 => ?_)
    refine C.aload (q := 62) at_60 rfl rfl rfl ?_
    refine C.callV (q := 65) 0 0 [] [] at_62 (hw _ (List.mem_of_getElem? (i := 20) rfl)) (hw _ (List.mem_of_getElem? (i := 21) rfl)) (hw _ (List.mem_of_getElem? (i := 22) rfl)) (hw _ (List.mem_of_getElem? (i := 23) rfl)) (hw _ (List.mem_of_getElem? (i := 2) rfl)) (hw _ (List.mem_of_getElem? (i := 24) rfl)) (own_c6 l Z a0 n0 hw [] a5 h x m (own_add (own_add own_z4 0 k0) 1 k1) (own_koB.ok f2)) (by decide) (by decide) (by decide) own_pd2 rfl rfl rfl rfl (Nat.le_of_eq rfl) (by decide) (by decide) rfl ?_
    rintro _ _ ⟨rfl, hE⟩
    rw [hE]
    show G 4 17 [(a5, .inr ("com/example/terms_to_transitions/termstotransitions/equivalence/TransitionLists", [("heads", "[I", .ref h), ("nexts", "[I", .ref x), ("keysMet", "[I", .ref m), ("keysMetCount", "I", .int ((own_clr (own_add (own_add own_z4 0 k0) 1 k1)).2.2.2))])), (h, .inl (.int, (own_vl (own_clr (own_add (own_add own_z4 0 k0) 1 k1)).1))), (x, .inl (.int, (own_vl (own_clr (own_add (own_add own_z4 0 k0) 1 k1)).2.1))), (m, .inl (.int, (own_vl (own_clr (own_add (own_add own_z4 0 k0) 1 k1)).2.2.1)))] 65 [.val (.int a), .val (.int b), .val (.int c), .val (.int d), .val (.int e), .val (.int f), .val (.int (2 : Int32)), .val (.ref a5), .unset, .unset] []
    refine C.aload (q := 67) at_65 rfl rfl rfl ?_
    refine C.callV (q := 70) 0 0 [] [] at_67 (hw _ (List.mem_of_getElem? (i := 27) rfl)) (hw _ (List.mem_of_getElem? (i := 28) rfl)) (hw _ (List.mem_of_getElem? (i := 29) rfl)) (hw _ (List.mem_of_getElem? (i := 30) rfl)) (hw _ (List.mem_of_getElem? (i := 2) rfl)) (hw _ (List.mem_of_getElem? (i := 31) rfl)) (own_c2 l Z a0 n0 hw [] a5 h x m (own_clr (own_add (own_add own_z4 0 k0) 1 k1))) (by decide) (by decide) (by decide) own_pd3 rfl rfl rfl rfl (Nat.le_of_eq rfl) (by decide) (by decide) rfl ?_
    rintro _ _ ⟨rfl, hE⟩
    rw [hE]
    show G 4 17 [(a5, .inr ("com/example/terms_to_transitions/termstotransitions/equivalence/TransitionLists", [("heads", "[I", .ref h), ("nexts", "[I", .ref x), ("keysMet", "[I", .ref m), ("keysMetCount", "I", .int ((own_clr (own_add (own_add own_z4 0 k0) 1 k1)).2.2.2))])), (h, .inl (.int, (own_vl (own_clr (own_add (own_add own_z4 0 k0) 1 k1)).1))), (x, .inl (.int, (own_vl (own_clr (own_add (own_add own_z4 0 k0) 1 k1)).2.1))), (m, .inl (.int, (own_vl (own_clr (own_add (own_add own_z4 0 k0) 1 k1)).2.2.1)))] 70 [.val (.int a), .val (.int b), .val (.int c), .val (.int d), .val (.int e), .val (.int f), .val (.int (2 : Int32)), .val (.ref a5), .unset, .unset] [.int ((own_clr (own_add (own_add own_z4 0 k0) 1 k1)).2.2.2)]
    refine C.ifEq (q := 75) (q' := 73) at_70 (by decide) (by decide) rfl (fun h70 => ?_) (fun h70 => absurd (rfl) h70)
    refine C.iload (q := 77) at_75 rfl rfl ?_
    refine C.iconst (q := 78) (z := (3 : Int32)) at_77 rfl rfl ?_
    refine C.iand (q := 79) at_78 rfl ?_
    rw [ep]
    refine C.istore (q := 81) (ls' := [.val (.int a), .val (.int b), .val (.int c), .val (.int d), .val (.int e), .val (.int f), .val (.int (2 : Int32)), .val (.ref a5), .val (.int (Int32.ofNat p)), .unset]) at_79 rfl rfl ?_
    refine C.iload (q := 83) at_81 rfl rfl ?_
    refine C.iconst (q := 84) (z := (3 : Int32)) at_83 rfl rfl ?_
    refine C.iand (q := 85) at_84 rfl ?_
    rw [eq]
    refine C.istore (q := 87) (ls' := [.val (.int a), .val (.int b), .val (.int c), .val (.int d), .val (.int e), .val (.int f), .val (.int (2 : Int32)), .val (.ref a5), .val (.int (Int32.ofNat p)), .val (.int (Int32.ofNat q))]) at_85 rfl rfl ?_
    refine C.aload (q := 89) at_87 rfl rfl rfl ?_
    refine C.iconst (q := 90) (z := (3 : Int32)) at_89 rfl rfl ?_
    refine C.iload (q := 92) at_90 rfl rfl ?_
    refine C.callV (q := 95) 0 0 [.int (3 : Int32), .int (Int32.ofNat p)] [] at_92 (hw _ (List.mem_of_getElem? (i := 32) rfl)) (hw _ (List.mem_of_getElem? (i := 33) rfl)) (hw _ (List.mem_of_getElem? (i := 34) rfl)) (hw _ (List.mem_of_getElem? (i := 35) rfl)) (hw _ (List.mem_of_getElem? (i := 2) rfl)) (hw _ (List.mem_of_getElem? (i := 36) rfl)) (own_c1 l Z a0 n0 hw [] a5 h x m (own_clr (own_add (own_add own_z4 0 k0) 1 k1)) 3 p (by decide) (by omega) (own_okB.ok f3)) (by decide) (by decide) (by decide) own_pd1 rfl rfl rfl rfl (Nat.le_of_eq rfl) (by decide) (by decide) rfl ?_
    rintro _ _ ⟨rfl, hE⟩
    rw [hE]
    show G 4 17 [(a5, .inr ("com/example/terms_to_transitions/termstotransitions/equivalence/TransitionLists", [("heads", "[I", .ref h), ("nexts", "[I", .ref x), ("keysMet", "[I", .ref m), ("keysMetCount", "I", .int ((own_add (own_clr (own_add (own_add own_z4 0 k0) 1 k1)) 3 p).2.2.2))])), (h, .inl (.int, (own_vl (own_add (own_clr (own_add (own_add own_z4 0 k0) 1 k1)) 3 p).1))), (x, .inl (.int, (own_vl (own_add (own_clr (own_add (own_add own_z4 0 k0) 1 k1)) 3 p).2.1))), (m, .inl (.int, (own_vl (own_add (own_clr (own_add (own_add own_z4 0 k0) 1 k1)) 3 p).2.2.1)))] 95 [.val (.int a), .val (.int b), .val (.int c), .val (.int d), .val (.int e), .val (.int f), .val (.int (2 : Int32)), .val (.ref a5), .val (.int (Int32.ofNat p)), .val (.int (Int32.ofNat q))] []
    refine C.aload (q := 97) at_95 rfl rfl rfl ?_
    refine C.iconst (q := 98) (z := (4 : Int32)) at_97 rfl rfl ?_
    refine C.iload (q := 100) at_98 rfl rfl ?_
    refine C.callV (q := 103) 0 0 [.int (4 : Int32), .int (Int32.ofNat q)] [] at_100 (hw _ (List.mem_of_getElem? (i := 32) rfl)) (hw _ (List.mem_of_getElem? (i := 33) rfl)) (hw _ (List.mem_of_getElem? (i := 34) rfl)) (hw _ (List.mem_of_getElem? (i := 35) rfl)) (hw _ (List.mem_of_getElem? (i := 2) rfl)) (hw _ (List.mem_of_getElem? (i := 36) rfl)) (own_c1 l Z a0 n0 hw [] a5 h x m (own_add (own_clr (own_add (own_add own_z4 0 k0) 1 k1)) 3 p) 4 q (by decide) (by omega) (own_okB.ok f4)) (by decide) (by decide) (by decide) own_pd1 rfl rfl rfl rfl (Nat.le_of_eq rfl) (by decide) (by decide) rfl ?_
    rintro _ _ ⟨rfl, hE⟩
    rw [hE]
    show G 4 17 [(a5, .inr ("com/example/terms_to_transitions/termstotransitions/equivalence/TransitionLists", [("heads", "[I", .ref h), ("nexts", "[I", .ref x), ("keysMet", "[I", .ref m), ("keysMetCount", "I", .int ((own_add (own_add (own_clr (own_add (own_add own_z4 0 k0) 1 k1)) 3 p) 4 q).2.2.2))])), (h, .inl (.int, (own_vl (own_add (own_add (own_clr (own_add (own_add own_z4 0 k0) 1 k1)) 3 p) 4 q).1))), (x, .inl (.int, (own_vl (own_add (own_add (own_clr (own_add (own_add own_z4 0 k0) 1 k1)) 3 p) 4 q).2.1))), (m, .inl (.int, (own_vl (own_add (own_add (own_clr (own_add (own_add own_z4 0 k0) 1 k1)) 3 p) 4 q).2.2.1)))] 103 [.val (.int a), .val (.int b), .val (.int c), .val (.int d), .val (.int e), .val (.int f), .val (.int (2 : Int32)), .val (.ref a5), .val (.int (Int32.ofNat p)), .val (.int (Int32.ofNat q))] []
    refine C.iload (q := 105) at_103 rfl rfl ?_
    refine C.iload (q := 107) at_105 rfl rfl ?_
    refine C.icmpNe (q := 155) (q' := 110) at_107 (by decide) (by decide) rfl (fun h107 => ?_) (fun h107 => ?_)
    · obtain ⟨g0, g1, g2, g3, g4, g5⟩ := finT ((own_ie (by omega) (by omega)).mp h107)
      refine C.aload (q := 112) at_110 rfl rfl rfl ?_
      refine C.callV (q := 115) 0 0 [] [] at_112 (hw _ (List.mem_of_getElem? (i := 27) rfl)) (hw _ (List.mem_of_getElem? (i := 28) rfl)) (hw _ (List.mem_of_getElem? (i := 29) rfl)) (hw _ (List.mem_of_getElem? (i := 30) rfl)) (hw _ (List.mem_of_getElem? (i := 2) rfl)) (hw _ (List.mem_of_getElem? (i := 31) rfl)) (own_c2 l Z a0 n0 hw [] a5 h x m (own_add (own_add (own_clr (own_add (own_add own_z4 0 k0) 1 k1)) 3 p) 4 q)) (by decide) (by decide) (by decide) own_pd3 rfl rfl rfl rfl (Nat.le_of_eq rfl) (by decide) (by decide) rfl ?_
      rintro _ _ ⟨rfl, hE⟩
      rw [hE]
      show G 4 17 [(a5, .inr ("com/example/terms_to_transitions/termstotransitions/equivalence/TransitionLists", [("heads", "[I", .ref h), ("nexts", "[I", .ref x), ("keysMet", "[I", .ref m), ("keysMetCount", "I", .int ((own_add (own_add (own_clr (own_add (own_add own_z4 0 k0) 1 k1)) 3 p) 4 q).2.2.2))])), (h, .inl (.int, (own_vl (own_add (own_add (own_clr (own_add (own_add own_z4 0 k0) 1 k1)) 3 p) 4 q).1))), (x, .inl (.int, (own_vl (own_add (own_add (own_clr (own_add (own_add own_z4 0 k0) 1 k1)) 3 p) 4 q).2.1))), (m, .inl (.int, (own_vl (own_add (own_add (own_clr (own_add (own_add own_z4 0 k0) 1 k1)) 3 p) 4 q).2.2.1)))] 115 [.val (.int a), .val (.int b), .val (.int c), .val (.int d), .val (.int e), .val (.int f), .val (.int (2 : Int32)), .val (.ref a5), .val (.int (Int32.ofNat p)), .val (.int (Int32.ofNat q))] [.int ((own_add (own_add (own_clr (own_add (own_add own_z4 0 k0) 1 k1)) 3 p) 4 q).2.2.2)]
      refine C.iconst (q := 116) (z := (1 : Int32)) at_115 rfl rfl ?_
      refine C.icmpNe (q := 153) (q' := 119) at_116 (by decide) (by decide) rfl (fun h116 => ?_) (fun h116 => absurd (g0) h116)
      refine C.aload (q := 121) at_119 rfl rfl rfl ?_
      refine C.iconst (q := 122) (z := (0 : Int32)) at_121 rfl rfl ?_
      refine C.callV (q := 125) 0 0 [.int (0 : Int32)] [] at_122 (hw _ (List.mem_of_getElem? (i := 37) rfl)) (hw _ (List.mem_of_getElem? (i := 38) rfl)) (hw _ (List.mem_of_getElem? (i := 39) rfl)) (hw _ (List.mem_of_getElem? (i := 40) rfl)) (hw _ (List.mem_of_getElem? (i := 2) rfl)) (hw _ (List.mem_of_getElem? (i := 41) rfl)) (own_c3 l Z a0 n0 hw [] a5 h x m (own_add (own_add (own_clr (own_add (own_add own_z4 0 k0) 1 k1)) 3 p) 4 q) 0 (by decide) (own_fB.ok g1).1 (own_fB.ok g1).2.1 (own_fB.ok g1).2.2) (by decide) (by decide) (by decide) own_pd4 rfl rfl rfl rfl (Nat.le_of_eq rfl) (by decide) (by decide) rfl ?_
      rintro _ _ ⟨rfl, hE⟩
      rw [hE]
      show G 4 17 [(a5, .inr ("com/example/terms_to_transitions/termstotransitions/equivalence/TransitionLists", [("heads", "[I", .ref h), ("nexts", "[I", .ref x), ("keysMet", "[I", .ref m), ("keysMetCount", "I", .int ((own_add (own_add (own_clr (own_add (own_add own_z4 0 k0) 1 k1)) 3 p) 4 q).2.2.2))])), (h, .inl (.int, (own_vl (own_add (own_add (own_clr (own_add (own_add own_z4 0 k0) 1 k1)) 3 p) 4 q).1))), (x, .inl (.int, (own_vl (own_add (own_add (own_clr (own_add (own_add own_z4 0 k0) 1 k1)) 3 p) 4 q).2.1))), (m, .inl (.int, (own_vl (own_add (own_add (own_clr (own_add (own_add own_z4 0 k0) 1 k1)) 3 p) 4 q).2.2.1)))] 125 [.val (.int a), .val (.int b), .val (.int c), .val (.int d), .val (.int e), .val (.int f), .val (.int (2 : Int32)), .val (.ref a5), .val (.int (Int32.ofNat p)), .val (.int (Int32.ofNat q))] [.int ((own_add (own_add (own_clr (own_add (own_add own_z4 0 k0) 1 k1)) 3 p) 4 q).1.getD ((own_add (own_add (own_clr (own_add (own_add own_z4 0 k0) 1 k1)) 3 p) 4 q).2.2.1.getD 0 0).toNatClampNeg 0)]
      refine C.iconst (q := 126) (z := (4 : Int32)) at_125 rfl rfl ?_
      refine C.icmpNe (q := 153) (q' := 129) at_126 (by decide) (by decide) rfl (fun h126 => ?_) (fun h126 => absurd (g2) h126)
      refine C.aload (q := 131) at_129 rfl rfl rfl ?_
      refine C.iconst (q := 132) (z := (4 : Int32)) at_131 rfl rfl ?_
      refine C.callV (q := 135) 0 0 [.int (4 : Int32)] [] at_132 (hw _ (List.mem_of_getElem? (i := 42) rfl)) (hw _ (List.mem_of_getElem? (i := 43) rfl)) (hw _ (List.mem_of_getElem? (i := 44) rfl)) (hw _ (List.mem_of_getElem? (i := 45) rfl)) (hw _ (List.mem_of_getElem? (i := 2) rfl)) (hw _ (List.mem_of_getElem? (i := 46) rfl)) (own_c4 l Z a0 n0 hw [] a5 h x m (own_add (own_add (own_clr (own_add (own_add own_z4 0 k0) 1 k1)) 3 p) 4 q) 4 (by decide) (by omega)) (by decide) (by decide) (by decide) own_pd4 rfl rfl rfl rfl (Nat.le_of_eq rfl) (by decide) (by decide) rfl ?_
      rintro _ _ ⟨rfl, hE⟩
      rw [hE]
      show G 4 17 [(a5, .inr ("com/example/terms_to_transitions/termstotransitions/equivalence/TransitionLists", [("heads", "[I", .ref h), ("nexts", "[I", .ref x), ("keysMet", "[I", .ref m), ("keysMetCount", "I", .int ((own_add (own_add (own_clr (own_add (own_add own_z4 0 k0) 1 k1)) 3 p) 4 q).2.2.2))])), (h, .inl (.int, (own_vl (own_add (own_add (own_clr (own_add (own_add own_z4 0 k0) 1 k1)) 3 p) 4 q).1))), (x, .inl (.int, (own_vl (own_add (own_add (own_clr (own_add (own_add own_z4 0 k0) 1 k1)) 3 p) 4 q).2.1))), (m, .inl (.int, (own_vl (own_add (own_add (own_clr (own_add (own_add own_z4 0 k0) 1 k1)) 3 p) 4 q).2.2.1)))] 135 [.val (.int a), .val (.int b), .val (.int c), .val (.int d), .val (.int e), .val (.int f), .val (.int (2 : Int32)), .val (.ref a5), .val (.int (Int32.ofNat p)), .val (.int (Int32.ofNat q))] [.int ((own_add (own_add (own_clr (own_add (own_add own_z4 0 k0) 1 k1)) 3 p) 4 q).2.1.getD 4 0)]
      refine C.iconst (q := 136) (z := (3 : Int32)) at_135 rfl rfl ?_
      refine C.icmpNe (q := 153) (q' := 139) at_136 (by decide) (by decide) rfl (fun h136 => ?_) (fun h136 => absurd (g4) h136)
      refine C.aload (q := 141) at_139 rfl rfl rfl ?_
      refine C.iconst (q := 142) (z := (3 : Int32)) at_141 rfl rfl ?_
      refine C.callV (q := 145) 0 0 [.int (3 : Int32)] [] at_142 (hw _ (List.mem_of_getElem? (i := 42) rfl)) (hw _ (List.mem_of_getElem? (i := 43) rfl)) (hw _ (List.mem_of_getElem? (i := 44) rfl)) (hw _ (List.mem_of_getElem? (i := 45) rfl)) (hw _ (List.mem_of_getElem? (i := 2) rfl)) (hw _ (List.mem_of_getElem? (i := 46) rfl)) (own_c4 l Z a0 n0 hw [] a5 h x m (own_add (own_add (own_clr (own_add (own_add own_z4 0 k0) 1 k1)) 3 p) 4 q) 3 (by decide) (by omega)) (by decide) (by decide) (by decide) own_pd4 rfl rfl rfl rfl (Nat.le_of_eq rfl) (by decide) (by decide) rfl ?_
      rintro _ _ ⟨rfl, hE⟩
      rw [hE]
      show G 4 17 [(a5, .inr ("com/example/terms_to_transitions/termstotransitions/equivalence/TransitionLists", [("heads", "[I", .ref h), ("nexts", "[I", .ref x), ("keysMet", "[I", .ref m), ("keysMetCount", "I", .int ((own_add (own_add (own_clr (own_add (own_add own_z4 0 k0) 1 k1)) 3 p) 4 q).2.2.2))])), (h, .inl (.int, (own_vl (own_add (own_add (own_clr (own_add (own_add own_z4 0 k0) 1 k1)) 3 p) 4 q).1))), (x, .inl (.int, (own_vl (own_add (own_add (own_clr (own_add (own_add own_z4 0 k0) 1 k1)) 3 p) 4 q).2.1))), (m, .inl (.int, (own_vl (own_add (own_add (own_clr (own_add (own_add own_z4 0 k0) 1 k1)) 3 p) 4 q).2.2.1)))] 145 [.val (.int a), .val (.int b), .val (.int c), .val (.int d), .val (.int e), .val (.int f), .val (.int (2 : Int32)), .val (.ref a5), .val (.int (Int32.ofNat p)), .val (.int (Int32.ofNat q))] [.int ((own_add (own_add (own_clr (own_add (own_add own_z4 0 k0) 1 k1)) 3 p) 4 q).2.1.getD 3 0)]
      refine C.iconst (q := 146) (z := (-1 : Int32)) at_145 rfl rfl ?_
      refine C.icmpNe (q := 153) (q' := 149) at_146 (by decide) (by decide) rfl (fun h146 => ?_) (fun h146 => absurd (g5) h146)
      refine C.iconst (q := 150) (z := (1 : Int32)) at_149 rfl rfl ?_
      refine C.goto (q := 154) at_150 (by decide) (by decide) ?_
      exact C.retB (by simp) at_154 (by decide) (by decide) rfl
    · obtain ⟨g0, g1, g2, g3, g4, g5, g6, g7⟩ := finF (fun z => h107 (congrArg Int32.ofNat z))
      refine C.aload (q := 157) at_155 rfl rfl rfl ?_
      refine C.callV (q := 160) 0 0 [] [] at_157 (hw _ (List.mem_of_getElem? (i := 27) rfl)) (hw _ (List.mem_of_getElem? (i := 28) rfl)) (hw _ (List.mem_of_getElem? (i := 29) rfl)) (hw _ (List.mem_of_getElem? (i := 30) rfl)) (hw _ (List.mem_of_getElem? (i := 2) rfl)) (hw _ (List.mem_of_getElem? (i := 31) rfl)) (own_c2 l Z a0 n0 hw [] a5 h x m (own_add (own_add (own_clr (own_add (own_add own_z4 0 k0) 1 k1)) 3 p) 4 q)) (by decide) (by decide) (by decide) own_pd3 rfl rfl rfl rfl (Nat.le_of_eq rfl) (by decide) (by decide) rfl ?_
      rintro _ _ ⟨rfl, hE⟩
      rw [hE]
      show G 4 17 [(a5, .inr ("com/example/terms_to_transitions/termstotransitions/equivalence/TransitionLists", [("heads", "[I", .ref h), ("nexts", "[I", .ref x), ("keysMet", "[I", .ref m), ("keysMetCount", "I", .int ((own_add (own_add (own_clr (own_add (own_add own_z4 0 k0) 1 k1)) 3 p) 4 q).2.2.2))])), (h, .inl (.int, (own_vl (own_add (own_add (own_clr (own_add (own_add own_z4 0 k0) 1 k1)) 3 p) 4 q).1))), (x, .inl (.int, (own_vl (own_add (own_add (own_clr (own_add (own_add own_z4 0 k0) 1 k1)) 3 p) 4 q).2.1))), (m, .inl (.int, (own_vl (own_add (own_add (own_clr (own_add (own_add own_z4 0 k0) 1 k1)) 3 p) 4 q).2.2.1)))] 160 [.val (.int a), .val (.int b), .val (.int c), .val (.int d), .val (.int e), .val (.int f), .val (.int (2 : Int32)), .val (.ref a5), .val (.int (Int32.ofNat p)), .val (.int (Int32.ofNat q))] [.int ((own_add (own_add (own_clr (own_add (own_add own_z4 0 k0) 1 k1)) 3 p) 4 q).2.2.2)]
      refine C.iconst (q := 161) (z := (2 : Int32)) at_160 rfl rfl ?_
      refine C.icmpNe (q := 208) (q' := 164) at_161 (by decide) (by decide) rfl (fun h161 => ?_) (fun h161 => absurd (g0) h161)
      refine C.aload (q := 166) at_164 rfl rfl rfl ?_
      refine C.iconst (q := 167) (z := (0 : Int32)) at_166 rfl rfl ?_
      refine C.callV (q := 170) 0 0 [.int (0 : Int32)] [] at_167 (hw _ (List.mem_of_getElem? (i := 37) rfl)) (hw _ (List.mem_of_getElem? (i := 38) rfl)) (hw _ (List.mem_of_getElem? (i := 39) rfl)) (hw _ (List.mem_of_getElem? (i := 40) rfl)) (hw _ (List.mem_of_getElem? (i := 2) rfl)) (hw _ (List.mem_of_getElem? (i := 41) rfl)) (own_c3 l Z a0 n0 hw [] a5 h x m (own_add (own_add (own_clr (own_add (own_add own_z4 0 k0) 1 k1)) 3 p) 4 q) 0 (by decide) (own_fB.ok g1).1 (own_fB.ok g1).2.1 (own_fB.ok g1).2.2) (by decide) (by decide) (by decide) own_pd4 rfl rfl rfl rfl (Nat.le_of_eq rfl) (by decide) (by decide) rfl ?_
      rintro _ _ ⟨rfl, hE⟩
      rw [hE]
      show G 4 17 [(a5, .inr ("com/example/terms_to_transitions/termstotransitions/equivalence/TransitionLists", [("heads", "[I", .ref h), ("nexts", "[I", .ref x), ("keysMet", "[I", .ref m), ("keysMetCount", "I", .int ((own_add (own_add (own_clr (own_add (own_add own_z4 0 k0) 1 k1)) 3 p) 4 q).2.2.2))])), (h, .inl (.int, (own_vl (own_add (own_add (own_clr (own_add (own_add own_z4 0 k0) 1 k1)) 3 p) 4 q).1))), (x, .inl (.int, (own_vl (own_add (own_add (own_clr (own_add (own_add own_z4 0 k0) 1 k1)) 3 p) 4 q).2.1))), (m, .inl (.int, (own_vl (own_add (own_add (own_clr (own_add (own_add own_z4 0 k0) 1 k1)) 3 p) 4 q).2.2.1)))] 170 [.val (.int a), .val (.int b), .val (.int c), .val (.int d), .val (.int e), .val (.int f), .val (.int (2 : Int32)), .val (.ref a5), .val (.int (Int32.ofNat p)), .val (.int (Int32.ofNat q))] [.int ((own_add (own_add (own_clr (own_add (own_add own_z4 0 k0) 1 k1)) 3 p) 4 q).1.getD ((own_add (own_add (own_clr (own_add (own_add own_z4 0 k0) 1 k1)) 3 p) 4 q).2.2.1.getD 0 0).toNatClampNeg 0)]
      refine C.iconst (q := 171) (z := (3 : Int32)) at_170 rfl rfl ?_
      refine C.icmpNe (q := 208) (q' := 174) at_171 (by decide) (by decide) rfl (fun h171 => ?_) (fun h171 => absurd (g2) h171)
      refine C.aload (q := 176) at_174 rfl rfl rfl ?_
      refine C.iconst (q := 177) (z := (3 : Int32)) at_176 rfl rfl ?_
      refine C.callV (q := 180) 0 0 [.int (3 : Int32)] [] at_177 (hw _ (List.mem_of_getElem? (i := 42) rfl)) (hw _ (List.mem_of_getElem? (i := 43) rfl)) (hw _ (List.mem_of_getElem? (i := 44) rfl)) (hw _ (List.mem_of_getElem? (i := 45) rfl)) (hw _ (List.mem_of_getElem? (i := 2) rfl)) (hw _ (List.mem_of_getElem? (i := 46) rfl)) (own_c4 l Z a0 n0 hw [] a5 h x m (own_add (own_add (own_clr (own_add (own_add own_z4 0 k0) 1 k1)) 3 p) 4 q) 3 (by decide) (by omega)) (by decide) (by decide) (by decide) own_pd4 rfl rfl rfl rfl (Nat.le_of_eq rfl) (by decide) (by decide) rfl ?_
      rintro _ _ ⟨rfl, hE⟩
      rw [hE]
      show G 4 17 [(a5, .inr ("com/example/terms_to_transitions/termstotransitions/equivalence/TransitionLists", [("heads", "[I", .ref h), ("nexts", "[I", .ref x), ("keysMet", "[I", .ref m), ("keysMetCount", "I", .int ((own_add (own_add (own_clr (own_add (own_add own_z4 0 k0) 1 k1)) 3 p) 4 q).2.2.2))])), (h, .inl (.int, (own_vl (own_add (own_add (own_clr (own_add (own_add own_z4 0 k0) 1 k1)) 3 p) 4 q).1))), (x, .inl (.int, (own_vl (own_add (own_add (own_clr (own_add (own_add own_z4 0 k0) 1 k1)) 3 p) 4 q).2.1))), (m, .inl (.int, (own_vl (own_add (own_add (own_clr (own_add (own_add own_z4 0 k0) 1 k1)) 3 p) 4 q).2.2.1)))] 180 [.val (.int a), .val (.int b), .val (.int c), .val (.int d), .val (.int e), .val (.int f), .val (.int (2 : Int32)), .val (.ref a5), .val (.int (Int32.ofNat p)), .val (.int (Int32.ofNat q))] [.int ((own_add (own_add (own_clr (own_add (own_add own_z4 0 k0) 1 k1)) 3 p) 4 q).2.1.getD 3 0)]
      refine C.iconst (q := 181) (z := (-1 : Int32)) at_180 rfl rfl ?_
      refine C.icmpNe (q := 208) (q' := 184) at_181 (by decide) (by decide) rfl (fun h181 => ?_) (fun h181 => absurd (g4) h181)
      refine C.aload (q := 186) at_184 rfl rfl rfl ?_
      refine C.iconst (q := 187) (z := (1 : Int32)) at_186 rfl rfl ?_
      refine C.callV (q := 190) 0 0 [.int (1 : Int32)] [] at_187 (hw _ (List.mem_of_getElem? (i := 37) rfl)) (hw _ (List.mem_of_getElem? (i := 38) rfl)) (hw _ (List.mem_of_getElem? (i := 39) rfl)) (hw _ (List.mem_of_getElem? (i := 40) rfl)) (hw _ (List.mem_of_getElem? (i := 2) rfl)) (hw _ (List.mem_of_getElem? (i := 41) rfl)) (own_c3 l Z a0 n0 hw [] a5 h x m (own_add (own_add (own_clr (own_add (own_add own_z4 0 k0) 1 k1)) 3 p) 4 q) 1 (by decide) (own_fB.ok g5).1 (own_fB.ok g5).2.1 (own_fB.ok g5).2.2) (by decide) (by decide) (by decide) own_pd4 rfl rfl rfl rfl (Nat.le_of_eq rfl) (by decide) (by decide) rfl ?_
      rintro _ _ ⟨rfl, hE⟩
      rw [hE]
      show G 4 17 [(a5, .inr ("com/example/terms_to_transitions/termstotransitions/equivalence/TransitionLists", [("heads", "[I", .ref h), ("nexts", "[I", .ref x), ("keysMet", "[I", .ref m), ("keysMetCount", "I", .int ((own_add (own_add (own_clr (own_add (own_add own_z4 0 k0) 1 k1)) 3 p) 4 q).2.2.2))])), (h, .inl (.int, (own_vl (own_add (own_add (own_clr (own_add (own_add own_z4 0 k0) 1 k1)) 3 p) 4 q).1))), (x, .inl (.int, (own_vl (own_add (own_add (own_clr (own_add (own_add own_z4 0 k0) 1 k1)) 3 p) 4 q).2.1))), (m, .inl (.int, (own_vl (own_add (own_add (own_clr (own_add (own_add own_z4 0 k0) 1 k1)) 3 p) 4 q).2.2.1)))] 190 [.val (.int a), .val (.int b), .val (.int c), .val (.int d), .val (.int e), .val (.int f), .val (.int (2 : Int32)), .val (.ref a5), .val (.int (Int32.ofNat p)), .val (.int (Int32.ofNat q))] [.int ((own_add (own_add (own_clr (own_add (own_add own_z4 0 k0) 1 k1)) 3 p) 4 q).1.getD ((own_add (own_add (own_clr (own_add (own_add own_z4 0 k0) 1 k1)) 3 p) 4 q).2.2.1.getD 1 0).toNatClampNeg 0)]
      refine C.iconst (q := 191) (z := (4 : Int32)) at_190 rfl rfl ?_
      refine C.icmpNe (q := 208) (q' := 194) at_191 (by decide) (by decide) rfl (fun h191 => ?_) (fun h191 => absurd (g6) h191)
      refine C.aload (q := 196) at_194 rfl rfl rfl ?_
      refine C.iconst (q := 197) (z := (4 : Int32)) at_196 rfl rfl ?_
      refine C.callV (q := 200) 0 0 [.int (4 : Int32)] [] at_197 (hw _ (List.mem_of_getElem? (i := 42) rfl)) (hw _ (List.mem_of_getElem? (i := 43) rfl)) (hw _ (List.mem_of_getElem? (i := 44) rfl)) (hw _ (List.mem_of_getElem? (i := 45) rfl)) (hw _ (List.mem_of_getElem? (i := 2) rfl)) (hw _ (List.mem_of_getElem? (i := 46) rfl)) (own_c4 l Z a0 n0 hw [] a5 h x m (own_add (own_add (own_clr (own_add (own_add own_z4 0 k0) 1 k1)) 3 p) 4 q) 4 (by decide) (by omega)) (by decide) (by decide) (by decide) own_pd4 rfl rfl rfl rfl (Nat.le_of_eq rfl) (by decide) (by decide) rfl ?_
      rintro _ _ ⟨rfl, hE⟩
      rw [hE]
      show G 4 17 [(a5, .inr ("com/example/terms_to_transitions/termstotransitions/equivalence/TransitionLists", [("heads", "[I", .ref h), ("nexts", "[I", .ref x), ("keysMet", "[I", .ref m), ("keysMetCount", "I", .int ((own_add (own_add (own_clr (own_add (own_add own_z4 0 k0) 1 k1)) 3 p) 4 q).2.2.2))])), (h, .inl (.int, (own_vl (own_add (own_add (own_clr (own_add (own_add own_z4 0 k0) 1 k1)) 3 p) 4 q).1))), (x, .inl (.int, (own_vl (own_add (own_add (own_clr (own_add (own_add own_z4 0 k0) 1 k1)) 3 p) 4 q).2.1))), (m, .inl (.int, (own_vl (own_add (own_add (own_clr (own_add (own_add own_z4 0 k0) 1 k1)) 3 p) 4 q).2.2.1)))] 200 [.val (.int a), .val (.int b), .val (.int c), .val (.int d), .val (.int e), .val (.int f), .val (.int (2 : Int32)), .val (.ref a5), .val (.int (Int32.ofNat p)), .val (.int (Int32.ofNat q))] [.int ((own_add (own_add (own_clr (own_add (own_add own_z4 0 k0) 1 k1)) 3 p) 4 q).2.1.getD 4 0)]
      refine C.iconst (q := 201) (z := (-1 : Int32)) at_200 rfl rfl ?_
      refine C.icmpNe (q := 208) (q' := 204) at_201 (by decide) (by decide) rfl (fun h201 => ?_) (fun h201 => absurd (g7) h201)
      refine C.iconst (q := 205) (z := (1 : Int32)) at_204 rfl rfl ?_
      refine C.goto (q := 209) at_205 (by decide) (by decide) ?_
      exact C.retB (by simp) at_209 (by decide) (by decide) rfl
  · rw [ec]
    show G 0 0 [] 3 [.val (.int a), .val (.int b), .val (.int c), .val (.int d), .val (.int e), .val (.int f), .unset, .unset, .unset, .unset] [.int (3 : Int32)]
    obtain ⟨k0, hk0, ek0⟩ := own_m3 b
    obtain ⟨k1, hk1, ek1⟩ := own_m3 c
    obtain ⟨k2, hk2, ek2⟩ := own_m3 d
    obtain ⟨p, hp, ep⟩ := own_m3 e
    obtain ⟨q, hq, eq⟩ := own_m3 f
    obtain ⟨f0, f1, f2, f3, f4, f5, finT, finF⟩ := own_all3 ⟨k0, hk0⟩ ⟨k1, hk1⟩ ⟨k2, hk2⟩ ⟨p, hp⟩ ⟨q, hq⟩
    dsimp only at f0 f1 f2 f3 f4 f5 finT finF
    refine C.istore (q := 5) (ls' := [.val (.int a), .val (.int b), .val (.int c), .val (.int d), .val (.int e), .val (.int f), .val (.int (3 : Int32)), .unset, .unset, .unset]) at_3 rfl rfl ?_
    refine C.newobj (q := 8) [("heads", "[I", (.array .int)), ("nexts", "[I", (.array .int)), ("keysMet", "[I", (.array .int)), ("keysMetCount", "I", .int)] (fs := [("heads", "[I", .null), ("nexts", "[I", .null), ("keysMet", "[I", .null), ("keysMetCount", "I", .int (0 : Int32))]) (k' := 1) (n' := 4) at_5 (hw _ (List.mem_of_getElem? (i := 0) rfl)) (hw _ (List.mem_of_getElem? (i := 1) rfl)) (hw _ (List.mem_of_getElem? (i := 2) rfl)) ⟨⟨Or.inr (hw _ (List.mem_of_getElem? (i := 11) rfl)), by decide⟩, ⟨⟨Or.inr (hw _ (List.mem_of_getElem? (i := 17) rfl)), by decide⟩, ⟨⟨Or.inr (hw _ (List.mem_of_getElem? (i := 19) rfl)), by decide⟩, ⟨⟨Or.inl (hw _ (List.mem_of_getElem? (i := 26) rfl)), by decide⟩, trivial⟩⟩⟩⟩ (by decide) (by decide) (by decide) rfl rfl rfl rfl (fun a5 => ?_)
    show G 1 4 [(a5, .inr ("com/example/terms_to_transitions/termstotransitions/equivalence/TransitionLists", [("heads", "[I", .null), ("nexts", "[I", .null), ("keysMet", "[I", .null), ("keysMetCount", "I", .int (0 : Int32))]))] 8 [.val (.int a), .val (.int b), .val (.int c), .val (.int d), .val (.int e), .val (.int f), .val (.int (3 : Int32)), .unset, .unset, .unset] [.ref a5]
    refine C.dup (q := 9) at_8 rfl rfl ?_
    refine C.iconst (q := 10) (z := (4 : Int32)) at_9 rfl rfl ?_
    refine C.iconst (q := 11) (z := (5 : Int32)) at_10 rfl rfl ?_
    refine C.callI (q := 14) 1 a5 [.int (4 : Int32), .int (5 : Int32)] [.ref a5] at_11 (hw _ (List.mem_of_getElem? (i := 3) rfl)) (hw _ (List.mem_of_getElem? (i := 4) rfl)) (hw _ (List.mem_of_getElem? (i := 2) rfl)) (hw _ (List.mem_of_getElem? (i := 5) rfl)) (own_c5 l Z a0 n0 hw [] a5) rfl (by decide) (by decide) (by decide) own_pd1 rfl rfl rfl (Nat.le_of_eq rfl) (by decide) (by decide) rfl ?_
    rintro _ _ ⟨rfl, h, x, m, rfl⟩
    show G 4 17 [(a5, .inr ("com/example/terms_to_transitions/termstotransitions/equivalence/TransitionLists", [("heads", "[I", .ref h), ("nexts", "[I", .ref x), ("keysMet", "[I", .ref m), ("keysMetCount", "I", .int own_z4.2.2.2)])), (h, .inl (.int, (own_vl own_z4.1))), (x, .inl (.int, (own_vl own_z4.2.1))), (m, .inl (.int, (own_vl own_z4.2.2.1)))] 14 [.val (.int a), .val (.int b), .val (.int c), .val (.int d), .val (.int e), .val (.int f), .val (.int (3 : Int32)), .unset, .unset, .unset] [.ref a5]
    refine C.astore (q := 16) (ls' := [.val (.int a), .val (.int b), .val (.int c), .val (.int d), .val (.int e), .val (.int f), .val (.int (3 : Int32)), .val (.ref a5), .unset, .unset]) at_14 rfl rfl rfl ?_
    refine C.iload (q := 18) at_16 rfl rfl ?_
    refine C.ifLe (q := 30) (q' := 21) at_18 (by decide) (by decide) rfl (fun h18 => ?_) (fun h18 => absurd (by decide) h18)
    refine C.aload (q := 23) at_21 rfl rfl rfl ?_
    refine C.iconst (q := 24) (z := (0 : Int32)) at_23 rfl rfl ?_
    refine C.iloadN (q := 25) at_24 rfl rfl ?_
    refine C.iconst (q := 26) (z := (3 : Int32)) at_25 rfl rfl ?_
    refine C.iand (q := 27) at_26 rfl ?_
    rw [ek0]
    refine C.callV (q := 30) 0 0 [.int (0 : Int32), .int (Int32.ofNat k0)] [] at_27 (hw _ (List.mem_of_getElem? (i := 32) rfl)) (hw _ (List.mem_of_getElem? (i := 33) rfl)) (hw _ (List.mem_of_getElem? (i := 34) rfl)) (hw _ (List.mem_of_getElem? (i := 35) rfl)) (hw _ (List.mem_of_getElem? (i := 2) rfl)) (hw _ (List.mem_of_getElem? (i := 36) rfl)) (own_c1 l Z a0 n0 hw [] a5 h x m own_z4 0 k0 (by decide) (by omega) (own_okB.ok f0)) (by decide) (by decide) (by decide) own_pd1 rfl rfl rfl rfl (Nat.le_of_eq rfl) (by decide) (by decide) rfl ?_
    rintro _ _ ⟨rfl, hE⟩
    rw [hE]
    show G 4 17 [(a5, .inr ("com/example/terms_to_transitions/termstotransitions/equivalence/TransitionLists", [("heads", "[I", .ref h), ("nexts", "[I", .ref x), ("keysMet", "[I", .ref m), ("keysMetCount", "I", .int ((own_add own_z4 0 k0).2.2.2))])), (h, .inl (.int, (own_vl (own_add own_z4 0 k0).1))), (x, .inl (.int, (own_vl (own_add own_z4 0 k0).2.1))), (m, .inl (.int, (own_vl (own_add own_z4 0 k0).2.2.1)))] 30 [.val (.int a), .val (.int b), .val (.int c), .val (.int d), .val (.int e), .val (.int f), .val (.int (3 : Int32)), .val (.ref a5), .unset, .unset] []
    refine C.iload (q := 32) at_30 rfl rfl ?_
    refine C.iconst (q := 33) (z := (1 : Int32)) at_32 rfl rfl ?_
    refine C.icmpLe (q := 45) (q' := 36) at_33 (by decide) (by decide) rfl (fun h33 => ?_) (fun h33 => absurd (by decide) h33)
    refine C.aload (q := 38) at_36 rfl rfl rfl ?_
    refine C.iconst (q := 39) (z := (1 : Int32)) at_38 rfl rfl ?_
    refine C.iloadN (q := 40) at_39 rfl rfl ?_
    refine C.iconst (q := 41) (z := (3 : Int32)) at_40 rfl rfl ?_
    refine C.iand (q := 42) at_41 rfl ?_
    rw [ek1]
    refine C.callV (q := 45) 0 0 [.int (1 : Int32), .int (Int32.ofNat k1)] [] at_42 (hw _ (List.mem_of_getElem? (i := 32) rfl)) (hw _ (List.mem_of_getElem? (i := 33) rfl)) (hw _ (List.mem_of_getElem? (i := 34) rfl)) (hw _ (List.mem_of_getElem? (i := 35) rfl)) (hw _ (List.mem_of_getElem? (i := 2) rfl)) (hw _ (List.mem_of_getElem? (i := 36) rfl)) (own_c1 l Z a0 n0 hw [] a5 h x m (own_add own_z4 0 k0) 1 k1 (by decide) (by omega) (own_okB.ok f1)) (by decide) (by decide) (by decide) own_pd1 rfl rfl rfl rfl (Nat.le_of_eq rfl) (by decide) (by decide) rfl ?_
    rintro _ _ ⟨rfl, hE⟩
    rw [hE]
    show G 4 17 [(a5, .inr ("com/example/terms_to_transitions/termstotransitions/equivalence/TransitionLists", [("heads", "[I", .ref h), ("nexts", "[I", .ref x), ("keysMet", "[I", .ref m), ("keysMetCount", "I", .int ((own_add (own_add own_z4 0 k0) 1 k1).2.2.2))])), (h, .inl (.int, (own_vl (own_add (own_add own_z4 0 k0) 1 k1).1))), (x, .inl (.int, (own_vl (own_add (own_add own_z4 0 k0) 1 k1).2.1))), (m, .inl (.int, (own_vl (own_add (own_add own_z4 0 k0) 1 k1).2.2.1)))] 45 [.val (.int a), .val (.int b), .val (.int c), .val (.int d), .val (.int e), .val (.int f), .val (.int (3 : Int32)), .val (.ref a5), .unset, .unset] []
    refine C.iload (q := 47) at_45 rfl rfl ?_
    refine C.iconst (q := 48) (z := (2 : Int32)) at_47 rfl rfl ?_
    refine C.icmpLe (q := 60) (q' := 51) at_48 (by decide) (by decide) rfl (fun h48 => ?_) (fun h48 => absurd (by decide) h48)
    refine C.aload (q := 53) at_51 rfl rfl rfl ?_
    refine C.iconst (q := 54) (z := (2 : Int32)) at_53 rfl rfl ?_
    refine C.iloadN (q := 55) at_54 rfl rfl ?_
    refine C.iconst (q := 56) (z := (3 : Int32)) at_55 rfl rfl ?_
    refine C.iand (q := 57) at_56 rfl ?_
    rw [ek2]
    refine C.callV (q := 60) 0 0 [.int (2 : Int32), .int (Int32.ofNat k2)] [] at_57 (hw _ (List.mem_of_getElem? (i := 32) rfl)) (hw _ (List.mem_of_getElem? (i := 33) rfl)) (hw _ (List.mem_of_getElem? (i := 34) rfl)) (hw _ (List.mem_of_getElem? (i := 35) rfl)) (hw _ (List.mem_of_getElem? (i := 2) rfl)) (hw _ (List.mem_of_getElem? (i := 36) rfl)) (own_c1 l Z a0 n0 hw [] a5 h x m (own_add (own_add own_z4 0 k0) 1 k1) 2 k2 (by decide) (by omega) (own_okB.ok f2)) (by decide) (by decide) (by decide) own_pd1 rfl rfl rfl rfl (Nat.le_of_eq rfl) (by decide) (by decide) rfl ?_
    rintro _ _ ⟨rfl, hE⟩
    rw [hE]
    show G 4 17 [(a5, .inr ("com/example/terms_to_transitions/termstotransitions/equivalence/TransitionLists", [("heads", "[I", .ref h), ("nexts", "[I", .ref x), ("keysMet", "[I", .ref m), ("keysMetCount", "I", .int ((own_add (own_add (own_add own_z4 0 k0) 1 k1) 2 k2).2.2.2))])), (h, .inl (.int, (own_vl (own_add (own_add (own_add own_z4 0 k0) 1 k1) 2 k2).1))), (x, .inl (.int, (own_vl (own_add (own_add (own_add own_z4 0 k0) 1 k1) 2 k2).2.1))), (m, .inl (.int, (own_vl (own_add (own_add (own_add own_z4 0 k0) 1 k1) 2 k2).2.2.1)))] 60 [.val (.int a), .val (.int b), .val (.int c), .val (.int d), .val (.int e), .val (.int f), .val (.int (3 : Int32)), .val (.ref a5), .unset, .unset] []
    refine C.aload (q := 62) at_60 rfl rfl rfl ?_
    refine C.callV (q := 65) 0 0 [] [] at_62 (hw _ (List.mem_of_getElem? (i := 20) rfl)) (hw _ (List.mem_of_getElem? (i := 21) rfl)) (hw _ (List.mem_of_getElem? (i := 22) rfl)) (hw _ (List.mem_of_getElem? (i := 23) rfl)) (hw _ (List.mem_of_getElem? (i := 2) rfl)) (hw _ (List.mem_of_getElem? (i := 24) rfl)) (own_c6 l Z a0 n0 hw [] a5 h x m (own_add (own_add (own_add own_z4 0 k0) 1 k1) 2 k2) (own_koB.ok f3)) (by decide) (by decide) (by decide) own_pd2 rfl rfl rfl rfl (Nat.le_of_eq rfl) (by decide) (by decide) rfl ?_
    rintro _ _ ⟨rfl, hE⟩
    rw [hE]
    show G 4 17 [(a5, .inr ("com/example/terms_to_transitions/termstotransitions/equivalence/TransitionLists", [("heads", "[I", .ref h), ("nexts", "[I", .ref x), ("keysMet", "[I", .ref m), ("keysMetCount", "I", .int ((own_clr (own_add (own_add (own_add own_z4 0 k0) 1 k1) 2 k2)).2.2.2))])), (h, .inl (.int, (own_vl (own_clr (own_add (own_add (own_add own_z4 0 k0) 1 k1) 2 k2)).1))), (x, .inl (.int, (own_vl (own_clr (own_add (own_add (own_add own_z4 0 k0) 1 k1) 2 k2)).2.1))), (m, .inl (.int, (own_vl (own_clr (own_add (own_add (own_add own_z4 0 k0) 1 k1) 2 k2)).2.2.1)))] 65 [.val (.int a), .val (.int b), .val (.int c), .val (.int d), .val (.int e), .val (.int f), .val (.int (3 : Int32)), .val (.ref a5), .unset, .unset] []
    refine C.aload (q := 67) at_65 rfl rfl rfl ?_
    refine C.callV (q := 70) 0 0 [] [] at_67 (hw _ (List.mem_of_getElem? (i := 27) rfl)) (hw _ (List.mem_of_getElem? (i := 28) rfl)) (hw _ (List.mem_of_getElem? (i := 29) rfl)) (hw _ (List.mem_of_getElem? (i := 30) rfl)) (hw _ (List.mem_of_getElem? (i := 2) rfl)) (hw _ (List.mem_of_getElem? (i := 31) rfl)) (own_c2 l Z a0 n0 hw [] a5 h x m (own_clr (own_add (own_add (own_add own_z4 0 k0) 1 k1) 2 k2))) (by decide) (by decide) (by decide) own_pd3 rfl rfl rfl rfl (Nat.le_of_eq rfl) (by decide) (by decide) rfl ?_
    rintro _ _ ⟨rfl, hE⟩
    rw [hE]
    show G 4 17 [(a5, .inr ("com/example/terms_to_transitions/termstotransitions/equivalence/TransitionLists", [("heads", "[I", .ref h), ("nexts", "[I", .ref x), ("keysMet", "[I", .ref m), ("keysMetCount", "I", .int ((own_clr (own_add (own_add (own_add own_z4 0 k0) 1 k1) 2 k2)).2.2.2))])), (h, .inl (.int, (own_vl (own_clr (own_add (own_add (own_add own_z4 0 k0) 1 k1) 2 k2)).1))), (x, .inl (.int, (own_vl (own_clr (own_add (own_add (own_add own_z4 0 k0) 1 k1) 2 k2)).2.1))), (m, .inl (.int, (own_vl (own_clr (own_add (own_add (own_add own_z4 0 k0) 1 k1) 2 k2)).2.2.1)))] 70 [.val (.int a), .val (.int b), .val (.int c), .val (.int d), .val (.int e), .val (.int f), .val (.int (3 : Int32)), .val (.ref a5), .unset, .unset] [.int ((own_clr (own_add (own_add (own_add own_z4 0 k0) 1 k1) 2 k2)).2.2.2)]
    refine C.ifEq (q := 75) (q' := 73) at_70 (by decide) (by decide) rfl (fun h70 => ?_) (fun h70 => absurd (rfl) h70)
    refine C.iload (q := 77) at_75 rfl rfl ?_
    refine C.iconst (q := 78) (z := (3 : Int32)) at_77 rfl rfl ?_
    refine C.iand (q := 79) at_78 rfl ?_
    rw [ep]
    refine C.istore (q := 81) (ls' := [.val (.int a), .val (.int b), .val (.int c), .val (.int d), .val (.int e), .val (.int f), .val (.int (3 : Int32)), .val (.ref a5), .val (.int (Int32.ofNat p)), .unset]) at_79 rfl rfl ?_
    refine C.iload (q := 83) at_81 rfl rfl ?_
    refine C.iconst (q := 84) (z := (3 : Int32)) at_83 rfl rfl ?_
    refine C.iand (q := 85) at_84 rfl ?_
    rw [eq]
    refine C.istore (q := 87) (ls' := [.val (.int a), .val (.int b), .val (.int c), .val (.int d), .val (.int e), .val (.int f), .val (.int (3 : Int32)), .val (.ref a5), .val (.int (Int32.ofNat p)), .val (.int (Int32.ofNat q))]) at_85 rfl rfl ?_
    refine C.aload (q := 89) at_87 rfl rfl rfl ?_
    refine C.iconst (q := 90) (z := (3 : Int32)) at_89 rfl rfl ?_
    refine C.iload (q := 92) at_90 rfl rfl ?_
    refine C.callV (q := 95) 0 0 [.int (3 : Int32), .int (Int32.ofNat p)] [] at_92 (hw _ (List.mem_of_getElem? (i := 32) rfl)) (hw _ (List.mem_of_getElem? (i := 33) rfl)) (hw _ (List.mem_of_getElem? (i := 34) rfl)) (hw _ (List.mem_of_getElem? (i := 35) rfl)) (hw _ (List.mem_of_getElem? (i := 2) rfl)) (hw _ (List.mem_of_getElem? (i := 36) rfl)) (own_c1 l Z a0 n0 hw [] a5 h x m (own_clr (own_add (own_add (own_add own_z4 0 k0) 1 k1) 2 k2)) 3 p (by decide) (by omega) (own_okB.ok f4)) (by decide) (by decide) (by decide) own_pd1 rfl rfl rfl rfl (Nat.le_of_eq rfl) (by decide) (by decide) rfl ?_
    rintro _ _ ⟨rfl, hE⟩
    rw [hE]
    show G 4 17 [(a5, .inr ("com/example/terms_to_transitions/termstotransitions/equivalence/TransitionLists", [("heads", "[I", .ref h), ("nexts", "[I", .ref x), ("keysMet", "[I", .ref m), ("keysMetCount", "I", .int ((own_add (own_clr (own_add (own_add (own_add own_z4 0 k0) 1 k1) 2 k2)) 3 p).2.2.2))])), (h, .inl (.int, (own_vl (own_add (own_clr (own_add (own_add (own_add own_z4 0 k0) 1 k1) 2 k2)) 3 p).1))), (x, .inl (.int, (own_vl (own_add (own_clr (own_add (own_add (own_add own_z4 0 k0) 1 k1) 2 k2)) 3 p).2.1))), (m, .inl (.int, (own_vl (own_add (own_clr (own_add (own_add (own_add own_z4 0 k0) 1 k1) 2 k2)) 3 p).2.2.1)))] 95 [.val (.int a), .val (.int b), .val (.int c), .val (.int d), .val (.int e), .val (.int f), .val (.int (3 : Int32)), .val (.ref a5), .val (.int (Int32.ofNat p)), .val (.int (Int32.ofNat q))] []
    refine C.aload (q := 97) at_95 rfl rfl rfl ?_
    refine C.iconst (q := 98) (z := (4 : Int32)) at_97 rfl rfl ?_
    refine C.iload (q := 100) at_98 rfl rfl ?_
    refine C.callV (q := 103) 0 0 [.int (4 : Int32), .int (Int32.ofNat q)] [] at_100 (hw _ (List.mem_of_getElem? (i := 32) rfl)) (hw _ (List.mem_of_getElem? (i := 33) rfl)) (hw _ (List.mem_of_getElem? (i := 34) rfl)) (hw _ (List.mem_of_getElem? (i := 35) rfl)) (hw _ (List.mem_of_getElem? (i := 2) rfl)) (hw _ (List.mem_of_getElem? (i := 36) rfl)) (own_c1 l Z a0 n0 hw [] a5 h x m (own_add (own_clr (own_add (own_add (own_add own_z4 0 k0) 1 k1) 2 k2)) 3 p) 4 q (by decide) (by omega) (own_okB.ok f5)) (by decide) (by decide) (by decide) own_pd1 rfl rfl rfl rfl (Nat.le_of_eq rfl) (by decide) (by decide) rfl ?_
    rintro _ _ ⟨rfl, hE⟩
    rw [hE]
    show G 4 17 [(a5, .inr ("com/example/terms_to_transitions/termstotransitions/equivalence/TransitionLists", [("heads", "[I", .ref h), ("nexts", "[I", .ref x), ("keysMet", "[I", .ref m), ("keysMetCount", "I", .int ((own_add (own_add (own_clr (own_add (own_add (own_add own_z4 0 k0) 1 k1) 2 k2)) 3 p) 4 q).2.2.2))])), (h, .inl (.int, (own_vl (own_add (own_add (own_clr (own_add (own_add (own_add own_z4 0 k0) 1 k1) 2 k2)) 3 p) 4 q).1))), (x, .inl (.int, (own_vl (own_add (own_add (own_clr (own_add (own_add (own_add own_z4 0 k0) 1 k1) 2 k2)) 3 p) 4 q).2.1))), (m, .inl (.int, (own_vl (own_add (own_add (own_clr (own_add (own_add (own_add own_z4 0 k0) 1 k1) 2 k2)) 3 p) 4 q).2.2.1)))] 103 [.val (.int a), .val (.int b), .val (.int c), .val (.int d), .val (.int e), .val (.int f), .val (.int (3 : Int32)), .val (.ref a5), .val (.int (Int32.ofNat p)), .val (.int (Int32.ofNat q))] []
    refine C.iload (q := 105) at_103 rfl rfl ?_
    refine C.iload (q := 107) at_105 rfl rfl ?_
    refine C.icmpNe (q := 155) (q' := 110) at_107 (by decide) (by decide) rfl (fun h107 => ?_) (fun h107 => ?_)
    · obtain ⟨g0, g1, g2, g3, g4, g5⟩ := finT ((own_ie (by omega) (by omega)).mp h107)
      refine C.aload (q := 112) at_110 rfl rfl rfl ?_
      refine C.callV (q := 115) 0 0 [] [] at_112 (hw _ (List.mem_of_getElem? (i := 27) rfl)) (hw _ (List.mem_of_getElem? (i := 28) rfl)) (hw _ (List.mem_of_getElem? (i := 29) rfl)) (hw _ (List.mem_of_getElem? (i := 30) rfl)) (hw _ (List.mem_of_getElem? (i := 2) rfl)) (hw _ (List.mem_of_getElem? (i := 31) rfl)) (own_c2 l Z a0 n0 hw [] a5 h x m (own_add (own_add (own_clr (own_add (own_add (own_add own_z4 0 k0) 1 k1) 2 k2)) 3 p) 4 q)) (by decide) (by decide) (by decide) own_pd3 rfl rfl rfl rfl (Nat.le_of_eq rfl) (by decide) (by decide) rfl ?_
      rintro _ _ ⟨rfl, hE⟩
      rw [hE]
      show G 4 17 [(a5, .inr ("com/example/terms_to_transitions/termstotransitions/equivalence/TransitionLists", [("heads", "[I", .ref h), ("nexts", "[I", .ref x), ("keysMet", "[I", .ref m), ("keysMetCount", "I", .int ((own_add (own_add (own_clr (own_add (own_add (own_add own_z4 0 k0) 1 k1) 2 k2)) 3 p) 4 q).2.2.2))])), (h, .inl (.int, (own_vl (own_add (own_add (own_clr (own_add (own_add (own_add own_z4 0 k0) 1 k1) 2 k2)) 3 p) 4 q).1))), (x, .inl (.int, (own_vl (own_add (own_add (own_clr (own_add (own_add (own_add own_z4 0 k0) 1 k1) 2 k2)) 3 p) 4 q).2.1))), (m, .inl (.int, (own_vl (own_add (own_add (own_clr (own_add (own_add (own_add own_z4 0 k0) 1 k1) 2 k2)) 3 p) 4 q).2.2.1)))] 115 [.val (.int a), .val (.int b), .val (.int c), .val (.int d), .val (.int e), .val (.int f), .val (.int (3 : Int32)), .val (.ref a5), .val (.int (Int32.ofNat p)), .val (.int (Int32.ofNat q))] [.int ((own_add (own_add (own_clr (own_add (own_add (own_add own_z4 0 k0) 1 k1) 2 k2)) 3 p) 4 q).2.2.2)]
      refine C.iconst (q := 116) (z := (1 : Int32)) at_115 rfl rfl ?_
      refine C.icmpNe (q := 153) (q' := 119) at_116 (by decide) (by decide) rfl (fun h116 => ?_) (fun h116 => absurd (g0) h116)
      refine C.aload (q := 121) at_119 rfl rfl rfl ?_
      refine C.iconst (q := 122) (z := (0 : Int32)) at_121 rfl rfl ?_
      refine C.callV (q := 125) 0 0 [.int (0 : Int32)] [] at_122 (hw _ (List.mem_of_getElem? (i := 37) rfl)) (hw _ (List.mem_of_getElem? (i := 38) rfl)) (hw _ (List.mem_of_getElem? (i := 39) rfl)) (hw _ (List.mem_of_getElem? (i := 40) rfl)) (hw _ (List.mem_of_getElem? (i := 2) rfl)) (hw _ (List.mem_of_getElem? (i := 41) rfl)) (own_c3 l Z a0 n0 hw [] a5 h x m (own_add (own_add (own_clr (own_add (own_add (own_add own_z4 0 k0) 1 k1) 2 k2)) 3 p) 4 q) 0 (by decide) (own_fB.ok g1).1 (own_fB.ok g1).2.1 (own_fB.ok g1).2.2) (by decide) (by decide) (by decide) own_pd4 rfl rfl rfl rfl (Nat.le_of_eq rfl) (by decide) (by decide) rfl ?_
      rintro _ _ ⟨rfl, hE⟩
      rw [hE]
      show G 4 17 [(a5, .inr ("com/example/terms_to_transitions/termstotransitions/equivalence/TransitionLists", [("heads", "[I", .ref h), ("nexts", "[I", .ref x), ("keysMet", "[I", .ref m), ("keysMetCount", "I", .int ((own_add (own_add (own_clr (own_add (own_add (own_add own_z4 0 k0) 1 k1) 2 k2)) 3 p) 4 q).2.2.2))])), (h, .inl (.int, (own_vl (own_add (own_add (own_clr (own_add (own_add (own_add own_z4 0 k0) 1 k1) 2 k2)) 3 p) 4 q).1))), (x, .inl (.int, (own_vl (own_add (own_add (own_clr (own_add (own_add (own_add own_z4 0 k0) 1 k1) 2 k2)) 3 p) 4 q).2.1))), (m, .inl (.int, (own_vl (own_add (own_add (own_clr (own_add (own_add (own_add own_z4 0 k0) 1 k1) 2 k2)) 3 p) 4 q).2.2.1)))] 125 [.val (.int a), .val (.int b), .val (.int c), .val (.int d), .val (.int e), .val (.int f), .val (.int (3 : Int32)), .val (.ref a5), .val (.int (Int32.ofNat p)), .val (.int (Int32.ofNat q))] [.int ((own_add (own_add (own_clr (own_add (own_add (own_add own_z4 0 k0) 1 k1) 2 k2)) 3 p) 4 q).1.getD ((own_add (own_add (own_clr (own_add (own_add (own_add own_z4 0 k0) 1 k1) 2 k2)) 3 p) 4 q).2.2.1.getD 0 0).toNatClampNeg 0)]
      refine C.iconst (q := 126) (z := (4 : Int32)) at_125 rfl rfl ?_
      refine C.icmpNe (q := 153) (q' := 129) at_126 (by decide) (by decide) rfl (fun h126 => ?_) (fun h126 => absurd (g2) h126)
      refine C.aload (q := 131) at_129 rfl rfl rfl ?_
      refine C.iconst (q := 132) (z := (4 : Int32)) at_131 rfl rfl ?_
      refine C.callV (q := 135) 0 0 [.int (4 : Int32)] [] at_132 (hw _ (List.mem_of_getElem? (i := 42) rfl)) (hw _ (List.mem_of_getElem? (i := 43) rfl)) (hw _ (List.mem_of_getElem? (i := 44) rfl)) (hw _ (List.mem_of_getElem? (i := 45) rfl)) (hw _ (List.mem_of_getElem? (i := 2) rfl)) (hw _ (List.mem_of_getElem? (i := 46) rfl)) (own_c4 l Z a0 n0 hw [] a5 h x m (own_add (own_add (own_clr (own_add (own_add (own_add own_z4 0 k0) 1 k1) 2 k2)) 3 p) 4 q) 4 (by decide) (by omega)) (by decide) (by decide) (by decide) own_pd4 rfl rfl rfl rfl (Nat.le_of_eq rfl) (by decide) (by decide) rfl ?_
      rintro _ _ ⟨rfl, hE⟩
      rw [hE]
      show G 4 17 [(a5, .inr ("com/example/terms_to_transitions/termstotransitions/equivalence/TransitionLists", [("heads", "[I", .ref h), ("nexts", "[I", .ref x), ("keysMet", "[I", .ref m), ("keysMetCount", "I", .int ((own_add (own_add (own_clr (own_add (own_add (own_add own_z4 0 k0) 1 k1) 2 k2)) 3 p) 4 q).2.2.2))])), (h, .inl (.int, (own_vl (own_add (own_add (own_clr (own_add (own_add (own_add own_z4 0 k0) 1 k1) 2 k2)) 3 p) 4 q).1))), (x, .inl (.int, (own_vl (own_add (own_add (own_clr (own_add (own_add (own_add own_z4 0 k0) 1 k1) 2 k2)) 3 p) 4 q).2.1))), (m, .inl (.int, (own_vl (own_add (own_add (own_clr (own_add (own_add (own_add own_z4 0 k0) 1 k1) 2 k2)) 3 p) 4 q).2.2.1)))] 135 [.val (.int a), .val (.int b), .val (.int c), .val (.int d), .val (.int e), .val (.int f), .val (.int (3 : Int32)), .val (.ref a5), .val (.int (Int32.ofNat p)), .val (.int (Int32.ofNat q))] [.int ((own_add (own_add (own_clr (own_add (own_add (own_add own_z4 0 k0) 1 k1) 2 k2)) 3 p) 4 q).2.1.getD 4 0)]
      refine C.iconst (q := 136) (z := (3 : Int32)) at_135 rfl rfl ?_
      refine C.icmpNe (q := 153) (q' := 139) at_136 (by decide) (by decide) rfl (fun h136 => ?_) (fun h136 => absurd (g4) h136)
      refine C.aload (q := 141) at_139 rfl rfl rfl ?_
      refine C.iconst (q := 142) (z := (3 : Int32)) at_141 rfl rfl ?_
      refine C.callV (q := 145) 0 0 [.int (3 : Int32)] [] at_142 (hw _ (List.mem_of_getElem? (i := 42) rfl)) (hw _ (List.mem_of_getElem? (i := 43) rfl)) (hw _ (List.mem_of_getElem? (i := 44) rfl)) (hw _ (List.mem_of_getElem? (i := 45) rfl)) (hw _ (List.mem_of_getElem? (i := 2) rfl)) (hw _ (List.mem_of_getElem? (i := 46) rfl)) (own_c4 l Z a0 n0 hw [] a5 h x m (own_add (own_add (own_clr (own_add (own_add (own_add own_z4 0 k0) 1 k1) 2 k2)) 3 p) 4 q) 3 (by decide) (by omega)) (by decide) (by decide) (by decide) own_pd4 rfl rfl rfl rfl (Nat.le_of_eq rfl) (by decide) (by decide) rfl ?_
      rintro _ _ ⟨rfl, hE⟩
      rw [hE]
      show G 4 17 [(a5, .inr ("com/example/terms_to_transitions/termstotransitions/equivalence/TransitionLists", [("heads", "[I", .ref h), ("nexts", "[I", .ref x), ("keysMet", "[I", .ref m), ("keysMetCount", "I", .int ((own_add (own_add (own_clr (own_add (own_add (own_add own_z4 0 k0) 1 k1) 2 k2)) 3 p) 4 q).2.2.2))])), (h, .inl (.int, (own_vl (own_add (own_add (own_clr (own_add (own_add (own_add own_z4 0 k0) 1 k1) 2 k2)) 3 p) 4 q).1))), (x, .inl (.int, (own_vl (own_add (own_add (own_clr (own_add (own_add (own_add own_z4 0 k0) 1 k1) 2 k2)) 3 p) 4 q).2.1))), (m, .inl (.int, (own_vl (own_add (own_add (own_clr (own_add (own_add (own_add own_z4 0 k0) 1 k1) 2 k2)) 3 p) 4 q).2.2.1)))] 145 [.val (.int a), .val (.int b), .val (.int c), .val (.int d), .val (.int e), .val (.int f), .val (.int (3 : Int32)), .val (.ref a5), .val (.int (Int32.ofNat p)), .val (.int (Int32.ofNat q))] [.int ((own_add (own_add (own_clr (own_add (own_add (own_add own_z4 0 k0) 1 k1) 2 k2)) 3 p) 4 q).2.1.getD 3 0)]
      refine C.iconst (q := 146) (z := (-1 : Int32)) at_145 rfl rfl ?_
      refine C.icmpNe (q := 153) (q' := 149) at_146 (by decide) (by decide) rfl (fun h146 => ?_) (fun h146 => absurd (g5) h146)
      refine C.iconst (q := 150) (z := (1 : Int32)) at_149 rfl rfl ?_
      refine C.goto (q := 154) at_150 (by decide) (by decide) ?_
      exact C.retB (by simp) at_154 (by decide) (by decide) rfl
    · obtain ⟨g0, g1, g2, g3, g4, g5, g6, g7⟩ := finF (fun z => h107 (congrArg Int32.ofNat z))
      refine C.aload (q := 157) at_155 rfl rfl rfl ?_
      refine C.callV (q := 160) 0 0 [] [] at_157 (hw _ (List.mem_of_getElem? (i := 27) rfl)) (hw _ (List.mem_of_getElem? (i := 28) rfl)) (hw _ (List.mem_of_getElem? (i := 29) rfl)) (hw _ (List.mem_of_getElem? (i := 30) rfl)) (hw _ (List.mem_of_getElem? (i := 2) rfl)) (hw _ (List.mem_of_getElem? (i := 31) rfl)) (own_c2 l Z a0 n0 hw [] a5 h x m (own_add (own_add (own_clr (own_add (own_add (own_add own_z4 0 k0) 1 k1) 2 k2)) 3 p) 4 q)) (by decide) (by decide) (by decide) own_pd3 rfl rfl rfl rfl (Nat.le_of_eq rfl) (by decide) (by decide) rfl ?_
      rintro _ _ ⟨rfl, hE⟩
      rw [hE]
      show G 4 17 [(a5, .inr ("com/example/terms_to_transitions/termstotransitions/equivalence/TransitionLists", [("heads", "[I", .ref h), ("nexts", "[I", .ref x), ("keysMet", "[I", .ref m), ("keysMetCount", "I", .int ((own_add (own_add (own_clr (own_add (own_add (own_add own_z4 0 k0) 1 k1) 2 k2)) 3 p) 4 q).2.2.2))])), (h, .inl (.int, (own_vl (own_add (own_add (own_clr (own_add (own_add (own_add own_z4 0 k0) 1 k1) 2 k2)) 3 p) 4 q).1))), (x, .inl (.int, (own_vl (own_add (own_add (own_clr (own_add (own_add (own_add own_z4 0 k0) 1 k1) 2 k2)) 3 p) 4 q).2.1))), (m, .inl (.int, (own_vl (own_add (own_add (own_clr (own_add (own_add (own_add own_z4 0 k0) 1 k1) 2 k2)) 3 p) 4 q).2.2.1)))] 160 [.val (.int a), .val (.int b), .val (.int c), .val (.int d), .val (.int e), .val (.int f), .val (.int (3 : Int32)), .val (.ref a5), .val (.int (Int32.ofNat p)), .val (.int (Int32.ofNat q))] [.int ((own_add (own_add (own_clr (own_add (own_add (own_add own_z4 0 k0) 1 k1) 2 k2)) 3 p) 4 q).2.2.2)]
      refine C.iconst (q := 161) (z := (2 : Int32)) at_160 rfl rfl ?_
      refine C.icmpNe (q := 208) (q' := 164) at_161 (by decide) (by decide) rfl (fun h161 => ?_) (fun h161 => absurd (g0) h161)
      refine C.aload (q := 166) at_164 rfl rfl rfl ?_
      refine C.iconst (q := 167) (z := (0 : Int32)) at_166 rfl rfl ?_
      refine C.callV (q := 170) 0 0 [.int (0 : Int32)] [] at_167 (hw _ (List.mem_of_getElem? (i := 37) rfl)) (hw _ (List.mem_of_getElem? (i := 38) rfl)) (hw _ (List.mem_of_getElem? (i := 39) rfl)) (hw _ (List.mem_of_getElem? (i := 40) rfl)) (hw _ (List.mem_of_getElem? (i := 2) rfl)) (hw _ (List.mem_of_getElem? (i := 41) rfl)) (own_c3 l Z a0 n0 hw [] a5 h x m (own_add (own_add (own_clr (own_add (own_add (own_add own_z4 0 k0) 1 k1) 2 k2)) 3 p) 4 q) 0 (by decide) (own_fB.ok g1).1 (own_fB.ok g1).2.1 (own_fB.ok g1).2.2) (by decide) (by decide) (by decide) own_pd4 rfl rfl rfl rfl (Nat.le_of_eq rfl) (by decide) (by decide) rfl ?_
      rintro _ _ ⟨rfl, hE⟩
      rw [hE]
      show G 4 17 [(a5, .inr ("com/example/terms_to_transitions/termstotransitions/equivalence/TransitionLists", [("heads", "[I", .ref h), ("nexts", "[I", .ref x), ("keysMet", "[I", .ref m), ("keysMetCount", "I", .int ((own_add (own_add (own_clr (own_add (own_add (own_add own_z4 0 k0) 1 k1) 2 k2)) 3 p) 4 q).2.2.2))])), (h, .inl (.int, (own_vl (own_add (own_add (own_clr (own_add (own_add (own_add own_z4 0 k0) 1 k1) 2 k2)) 3 p) 4 q).1))), (x, .inl (.int, (own_vl (own_add (own_add (own_clr (own_add (own_add (own_add own_z4 0 k0) 1 k1) 2 k2)) 3 p) 4 q).2.1))), (m, .inl (.int, (own_vl (own_add (own_add (own_clr (own_add (own_add (own_add own_z4 0 k0) 1 k1) 2 k2)) 3 p) 4 q).2.2.1)))] 170 [.val (.int a), .val (.int b), .val (.int c), .val (.int d), .val (.int e), .val (.int f), .val (.int (3 : Int32)), .val (.ref a5), .val (.int (Int32.ofNat p)), .val (.int (Int32.ofNat q))] [.int ((own_add (own_add (own_clr (own_add (own_add (own_add own_z4 0 k0) 1 k1) 2 k2)) 3 p) 4 q).1.getD ((own_add (own_add (own_clr (own_add (own_add (own_add own_z4 0 k0) 1 k1) 2 k2)) 3 p) 4 q).2.2.1.getD 0 0).toNatClampNeg 0)]
      refine C.iconst (q := 171) (z := (3 : Int32)) at_170 rfl rfl ?_
      refine C.icmpNe (q := 208) (q' := 174) at_171 (by decide) (by decide) rfl (fun h171 => ?_) (fun h171 => absurd (g2) h171)
      refine C.aload (q := 176) at_174 rfl rfl rfl ?_
      refine C.iconst (q := 177) (z := (3 : Int32)) at_176 rfl rfl ?_
      refine C.callV (q := 180) 0 0 [.int (3 : Int32)] [] at_177 (hw _ (List.mem_of_getElem? (i := 42) rfl)) (hw _ (List.mem_of_getElem? (i := 43) rfl)) (hw _ (List.mem_of_getElem? (i := 44) rfl)) (hw _ (List.mem_of_getElem? (i := 45) rfl)) (hw _ (List.mem_of_getElem? (i := 2) rfl)) (hw _ (List.mem_of_getElem? (i := 46) rfl)) (own_c4 l Z a0 n0 hw [] a5 h x m (own_add (own_add (own_clr (own_add (own_add (own_add own_z4 0 k0) 1 k1) 2 k2)) 3 p) 4 q) 3 (by decide) (by omega)) (by decide) (by decide) (by decide) own_pd4 rfl rfl rfl rfl (Nat.le_of_eq rfl) (by decide) (by decide) rfl ?_
      rintro _ _ ⟨rfl, hE⟩
      rw [hE]
      show G 4 17 [(a5, .inr ("com/example/terms_to_transitions/termstotransitions/equivalence/TransitionLists", [("heads", "[I", .ref h), ("nexts", "[I", .ref x), ("keysMet", "[I", .ref m), ("keysMetCount", "I", .int ((own_add (own_add (own_clr (own_add (own_add (own_add own_z4 0 k0) 1 k1) 2 k2)) 3 p) 4 q).2.2.2))])), (h, .inl (.int, (own_vl (own_add (own_add (own_clr (own_add (own_add (own_add own_z4 0 k0) 1 k1) 2 k2)) 3 p) 4 q).1))), (x, .inl (.int, (own_vl (own_add (own_add (own_clr (own_add (own_add (own_add own_z4 0 k0) 1 k1) 2 k2)) 3 p) 4 q).2.1))), (m, .inl (.int, (own_vl (own_add (own_add (own_clr (own_add (own_add (own_add own_z4 0 k0) 1 k1) 2 k2)) 3 p) 4 q).2.2.1)))] 180 [.val (.int a), .val (.int b), .val (.int c), .val (.int d), .val (.int e), .val (.int f), .val (.int (3 : Int32)), .val (.ref a5), .val (.int (Int32.ofNat p)), .val (.int (Int32.ofNat q))] [.int ((own_add (own_add (own_clr (own_add (own_add (own_add own_z4 0 k0) 1 k1) 2 k2)) 3 p) 4 q).2.1.getD 3 0)]
      refine C.iconst (q := 181) (z := (-1 : Int32)) at_180 rfl rfl ?_
      refine C.icmpNe (q := 208) (q' := 184) at_181 (by decide) (by decide) rfl (fun h181 => ?_) (fun h181 => absurd (g4) h181)
      refine C.aload (q := 186) at_184 rfl rfl rfl ?_
      refine C.iconst (q := 187) (z := (1 : Int32)) at_186 rfl rfl ?_
      refine C.callV (q := 190) 0 0 [.int (1 : Int32)] [] at_187 (hw _ (List.mem_of_getElem? (i := 37) rfl)) (hw _ (List.mem_of_getElem? (i := 38) rfl)) (hw _ (List.mem_of_getElem? (i := 39) rfl)) (hw _ (List.mem_of_getElem? (i := 40) rfl)) (hw _ (List.mem_of_getElem? (i := 2) rfl)) (hw _ (List.mem_of_getElem? (i := 41) rfl)) (own_c3 l Z a0 n0 hw [] a5 h x m (own_add (own_add (own_clr (own_add (own_add (own_add own_z4 0 k0) 1 k1) 2 k2)) 3 p) 4 q) 1 (by decide) (own_fB.ok g5).1 (own_fB.ok g5).2.1 (own_fB.ok g5).2.2) (by decide) (by decide) (by decide) own_pd4 rfl rfl rfl rfl (Nat.le_of_eq rfl) (by decide) (by decide) rfl ?_
      rintro _ _ ⟨rfl, hE⟩
      rw [hE]
      show G 4 17 [(a5, .inr ("com/example/terms_to_transitions/termstotransitions/equivalence/TransitionLists", [("heads", "[I", .ref h), ("nexts", "[I", .ref x), ("keysMet", "[I", .ref m), ("keysMetCount", "I", .int ((own_add (own_add (own_clr (own_add (own_add (own_add own_z4 0 k0) 1 k1) 2 k2)) 3 p) 4 q).2.2.2))])), (h, .inl (.int, (own_vl (own_add (own_add (own_clr (own_add (own_add (own_add own_z4 0 k0) 1 k1) 2 k2)) 3 p) 4 q).1))), (x, .inl (.int, (own_vl (own_add (own_add (own_clr (own_add (own_add (own_add own_z4 0 k0) 1 k1) 2 k2)) 3 p) 4 q).2.1))), (m, .inl (.int, (own_vl (own_add (own_add (own_clr (own_add (own_add (own_add own_z4 0 k0) 1 k1) 2 k2)) 3 p) 4 q).2.2.1)))] 190 [.val (.int a), .val (.int b), .val (.int c), .val (.int d), .val (.int e), .val (.int f), .val (.int (3 : Int32)), .val (.ref a5), .val (.int (Int32.ofNat p)), .val (.int (Int32.ofNat q))] [.int ((own_add (own_add (own_clr (own_add (own_add (own_add own_z4 0 k0) 1 k1) 2 k2)) 3 p) 4 q).1.getD ((own_add (own_add (own_clr (own_add (own_add (own_add own_z4 0 k0) 1 k1) 2 k2)) 3 p) 4 q).2.2.1.getD 1 0).toNatClampNeg 0)]
      refine C.iconst (q := 191) (z := (4 : Int32)) at_190 rfl rfl ?_
      refine C.icmpNe (q := 208) (q' := 194) at_191 (by decide) (by decide) rfl (fun h191 => ?_) (fun h191 => absurd (g6) h191)
      refine C.aload (q := 196) at_194 rfl rfl rfl ?_
      refine C.iconst (q := 197) (z := (4 : Int32)) at_196 rfl rfl ?_
      refine C.callV (q := 200) 0 0 [.int (4 : Int32)] [] at_197 (hw _ (List.mem_of_getElem? (i := 42) rfl)) (hw _ (List.mem_of_getElem? (i := 43) rfl)) (hw _ (List.mem_of_getElem? (i := 44) rfl)) (hw _ (List.mem_of_getElem? (i := 45) rfl)) (hw _ (List.mem_of_getElem? (i := 2) rfl)) (hw _ (List.mem_of_getElem? (i := 46) rfl)) (own_c4 l Z a0 n0 hw [] a5 h x m (own_add (own_add (own_clr (own_add (own_add (own_add own_z4 0 k0) 1 k1) 2 k2)) 3 p) 4 q) 4 (by decide) (by omega)) (by decide) (by decide) (by decide) own_pd4 rfl rfl rfl rfl (Nat.le_of_eq rfl) (by decide) (by decide) rfl ?_
      rintro _ _ ⟨rfl, hE⟩
      rw [hE]
      show G 4 17 [(a5, .inr ("com/example/terms_to_transitions/termstotransitions/equivalence/TransitionLists", [("heads", "[I", .ref h), ("nexts", "[I", .ref x), ("keysMet", "[I", .ref m), ("keysMetCount", "I", .int ((own_add (own_add (own_clr (own_add (own_add (own_add own_z4 0 k0) 1 k1) 2 k2)) 3 p) 4 q).2.2.2))])), (h, .inl (.int, (own_vl (own_add (own_add (own_clr (own_add (own_add (own_add own_z4 0 k0) 1 k1) 2 k2)) 3 p) 4 q).1))), (x, .inl (.int, (own_vl (own_add (own_add (own_clr (own_add (own_add (own_add own_z4 0 k0) 1 k1) 2 k2)) 3 p) 4 q).2.1))), (m, .inl (.int, (own_vl (own_add (own_add (own_clr (own_add (own_add (own_add own_z4 0 k0) 1 k1) 2 k2)) 3 p) 4 q).2.2.1)))] 200 [.val (.int a), .val (.int b), .val (.int c), .val (.int d), .val (.int e), .val (.int f), .val (.int (3 : Int32)), .val (.ref a5), .val (.int (Int32.ofNat p)), .val (.int (Int32.ofNat q))] [.int ((own_add (own_add (own_clr (own_add (own_add (own_add own_z4 0 k0) 1 k1) 2 k2)) 3 p) 4 q).2.1.getD 4 0)]
      refine C.iconst (q := 201) (z := (-1 : Int32)) at_200 rfl rfl ?_
      refine C.icmpNe (q := 208) (q' := 204) at_201 (by decide) (by decide) rfl (fun h201 => ?_) (fun h201 => absurd (g7) h201)
      refine C.iconst (q := 205) (z := (1 : Int32)) at_204 rfl rfl ?_
      refine C.goto (q := 209) at_205 (by decide) (by decide) ?_
      exact C.retB (by simp) at_209 (by decide) (by decide) rfl
set_option maxRecDepth 65536 in
set_option maxHeartbeats 40000000 in
theorem comes_1 {Post : Tables → Env → Array Value → State → Outcome → State → Prop} (hpost : ∀ tb e args s v u, (limb_1_1.after args s (.returned v) u = true ∧ limb_1_2.after args s (.returned v) u = true ∧ True) → FrameEnd s (.returned v) u (Jvm.fieldLocs frame_1_writes args s ++ Jvm.arrayLocs frame_1_arrays args s ++ Jvm.staticLocs frame_1_statics s) 16 128 → Post tb e args s (.returned v) u) :
    ArmFor flags0 classFile x code maxLocals ret World_1 tables_1 room_1 Calls_1 rest_1 Pre_1 Post := by
  intro l hfl _ _ p e ha hc hk s m args below hf hA hF happ hP
  obtain ⟨hcalls, hrest, hpre⟩ := hP
  obtain ⟨-, -, -, hnamed, -, -, -, hat⟩ := (Spec.applies_iff hf).mp happ
  obtain ⟨hg, hn⟩ := and_e (Cond.before_iff.mp (show (Jvm.Cond.and given_1 narrow_1).before args s = true from hpre))
  obtain ⟨hcnt, g0⟩ := and_e hg
  obtain ⟨q0, g1⟩ := and_e g0
  obtain ⟨q1, g2⟩ := and_e g1
  obtain ⟨q2, g3⟩ := and_e g2
  obtain ⟨q3, g4⟩ := and_e g3
  obtain ⟨q4, g5⟩ := and_e g4
  obtain ⟨w0, w1, w2, w3, w4, w5, rfl⟩ : ∃ w0 w1 w2 w3 w4 w5 : Value, args = #[w0, w1, w2, w3, w4, w5] := by
    have hs : args.size = 6 := by simpa [Cond.value, given_1] using hcnt
    obtain ⟨L⟩ := args
    match L, hs with
    | [w0, w1, w2, w3, w4, w5], _ => exact ⟨w0, w1, w2, w3, w4, w5, rfl⟩
  have hw := fun d (hd : d ∈ tables_1) => atoms_spec (ws := Jvm.Cond.code x code maxLocals ret :: tables_1) hat d (List.mem_cons_of_mem _ hd)
  obtain ⟨i0, e0⟩ := is_v q0
  obtain rfl : w0 = (.int i0) := Option.some.inj e0
  obtain ⟨i1, e1⟩ := is_v q1
  obtain rfl : w1 = (.int i1) := Option.some.inj e1
  obtain ⟨i2, e2⟩ := is_v q2
  obtain rfl : w2 = (.int i2) := Option.some.inj e2
  obtain ⟨i3, e3⟩ := is_v q3
  obtain rfl : w3 = (.int i3) := Option.some.inj e3
  obtain ⟨i4, e4⟩ := is_v q4
  obtain rfl : w4 = (.int i4) := Option.some.inj e4
  obtain ⟨i5, e5⟩ := is_v g5
  obtain rfl : w5 = (.int i5) := Option.some.inj e5
  obtain ⟨n, o, h1, h2, h3, _, L, rfl, ⟨N, H', hH', hv⟩, hq⟩ := own_claw l s _ s.heap.size hw tables_1 i0 i1 i2 i3 i4 i5  s.heap ⟨Nat.le_refl _, fun i j a o o' z => by simp at z, fun i a o z => by simp at z⟩ p e ha hc hk s m _ below hf ((Spec.applies_iff_loose hf).mp happ).1 ⟨rfl, State.Warmed39.refl s, rfl⟩ trivial
  cases hv
  refine ⟨n, _, h1, h2, h3, hpost _ _ _ _ _ _ ⟨Cond.after_iff.mpr rfl, Cond.after_iff.mpr (eq_i res_at (Term.int_eval (1)) rfl), trivial⟩ ⟨hq.1, hq.2.1, (hq.2.2.sift fun y hy => Or.inr (N y hy)).mono (by decide) (by decide)⟩⟩
theorem main_1_1 : Claimed_1_1 := comes_1 fun _ _ _ _ _ _ h hF => ⟨h.1, hF⟩
theorem main_1_2 : Claimed_1_2 := comes_1 fun _ _ _ _ _ _ h hF => ⟨h.2.1, hF⟩
end Jvm.Pilot.@@N@@
namespace Jvm.Pilot.@@N@@
open Jvm Jvm.ClassFile Sem Op Lib Jvm.Free Jvm.Stand Jvm.Pilot.@@N@@.Jvm.D
/-! MADE BY PROGRAM (witnessworld.py) out of the Statement's table words and the real class files: 10 classes; the members and pool entries that the words name. The judged class is class 1, her method 1. -/
namespace start1
open Jvm.ClassFile
def u (s : String) : CpInfo := .utf8 (stringToUtf16 s)
/-- a pool by its gaps: so many unusable entries, then the entry; so many at the end -/
def gap : Nat → List CpInfo → List CpInfo
  | 0, r => r
  | n + 1, r => .unusable :: gap n r
def poolList (es : List (Nat × CpInfo)) (last : Nat) : List CpInfo := es.foldr (fun e r => gap e.1 (e.2 :: r)) (gap last [])
def pool (es : List (Nat × CpInfo)) (last : Nat) : Array CpInfo := ⟨poolList es last⟩
def fileOf (pool : Array CpInfo) (this : Nat) (attrs : Array Attribute := #[]) (ms : Array MethodInfo := #[]) (fl : Nat := 33) (sup : Nat := 0) (ifs : Array Nat := #[]) (fds : Array FieldInfo := #[]) : ClassFile where
  minorVersion := 0
  majorVersion := 65
  constantPool := pool
  accessFlags := fl
  thisClass := this
  superClass := sup
  interfaces := ifs
  fields := fds
  methods := ms
  attributes := attrs
def plain (name : String) (sup : Option ClassId) : Class where
  name := name
  kind := .ordinary
  loader := none
  accessFlags := 33
  super := sup
  interfaces := #[]
  cf := none
  fields := #[]
  methods := #[]
  instanceTypes := #[]
  staticTypes := #[]
  resolved := #[]
  callSites := []
  init := .initialized
  statics := none
  mirror := none

def pool0 : Array CpInfo := pool [(5, u "<init>"), (0, u "()V"), (1, .class_ 10), (1, u "java/lang/Object")] 113

def k0c0 : Code := { maxStack := 0, maxLocals := 1, code := object_method_1_code, exceptionTable := #[], attributes := #[] }
def k0m0 : Method := { name := "<init>", desc := "()V", sig := { parameters := [], returnType := none }, accessFlags := 1, code := some k0c0 }
/-- java/lang/Object -/
def k0 : Class := { plain "java/lang/Object" none with
  accessFlags := 33
  interfaces := #[]
  cf := some (fileOf pool0 8 #[] #[{ accessFlags := 1, nameIndex := 5, descriptorIndex := 6, attributes := #[] }] 33 0 #[] #[])
  fields := #[]
  methods := #[k0m0]
  instanceTypes := #[]
  staticTypes := #[]
  resolved := Array.replicate 124 none
  statics := none }

def pool1 : Array CpInfo := pool [(2, .class_ 4), (1, u "java/lang/Object"), (0, u "<init>"), (0, u "()V"), (0, .class_ 8), (0, u "com/example/terms_to_transitions/termstotransitions/equivalence/TransitionLists"), (0, .methodref 7 10), (0, .nameAndType 5 11), (0, u "(II)V"), (0, .methodref 7 13), (0, .nameAndType 14 11), (0, u "add"), (0, .methodref 7 16), (0, .nameAndType 17 6), (0, u "clear"), (0, .methodref 7 19), (0, .nameAndType 20 21), (0, u "listCount"), (0, u "()I"), (0, .methodref 7 23), (0, .nameAndType 24 25), (0, u "first"), (0, u "(I)I"), (0, .methodref 7 27), (0, .nameAndType 28 25), (0, u "next"), (0, .class_ 30), (0, u "com/example/terms_to_transitions/termstotransitions/equivalence/TransitionListsClearPinLaw"), (2, u "law"), (0, u "(IIIIII)Z")] 3

def k1m0 : Method := { name := "<init>", desc := "()V", sig := { parameters := [], returnType := none }, accessFlags := 1, code := none }
def k1c1 : Code := { maxStack := 4, maxLocals := 10, code := code, exceptionTable := #[], attributes := #[] }
def k1m1 : Method := { name := "law", desc := "(IIIIII)Z", sig := { parameters := [.int, .int, .int, .int, .int, .int], returnType := some .boolean }, accessFlags := 9, code := some k1c1 }
/-- com/example/terms_to_transitions/termstotransitions/equivalence/TransitionListsClearPinLaw -/
def k1 : Class := { plain "com/example/terms_to_transitions/termstotransitions/equivalence/TransitionListsClearPinLaw" (some 0) with
  accessFlags := 49
  interfaces := #[]
  cf := some (fileOf pool1 29 #[] #[{ accessFlags := 1, nameIndex := 5, descriptorIndex := 6, attributes := #[] }, { accessFlags := 9, nameIndex := 33, descriptorIndex := 34, attributes := #[] }] 49 2 #[] #[])
  fields := #[]
  methods := #[k1m0, k1m1]
  instanceTypes := #[]
  staticTypes := #[]
  resolved := Array.replicate 38 none
  statics := none }

def pool2 : Array CpInfo := pool [(1, .methodref 2 3), (0, .class_ 4), (0, .nameAndType 5 6), (0, u "java/lang/Object"), (0, u "<init>"), (0, u "()V"), (0, .fieldref 8 9), (0, .class_ 10), (0, .nameAndType 11 12), (0, u "com/example/terms_to_transitions/termstotransitions/equivalence/TransitionLists"), (0, u "heads"), (0, u "[I"), (0, .methodref 14 15), (0, .class_ 16), (0, .nameAndType 17 18), (0, u "java/util/Arrays"), (0, u "fill"), (0, u "([II)V"), (0, .fieldref 8 20), (0, .nameAndType 21 12), (0, u "nexts"), (0, .fieldref 8 23), (0, .nameAndType 24 12), (0, u "keysMet"), (0, .fieldref 8 26), (0, .nameAndType 27 28), (0, u "keysMetCount"), (0, u "I"), (0, u "NONE"), (2, u "(II)V"), (2, u "add"), (1, u "listCount"), (0, u "()I"), (0, u "first"), (0, u "(I)I"), (0, u "next"), (0, u "clear")] 2

def k2c0 : Code := { maxStack := 2, maxLocals := 3, code := prog_11_method_1_code, exceptionTable := #[], attributes := #[] }
def k2m0 : Method := { name := "<init>", desc := "(II)V", sig := { parameters := [.int, .int], returnType := none }, accessFlags := 0, code := some k2c0 }
def k2c1 : Code := { maxStack := 4, maxLocals := 3, code := prog_11_method_2_code, exceptionTable := #[], attributes := #[] }
def k2m1 : Method := { name := "add", desc := "(II)V", sig := { parameters := [.int, .int], returnType := none }, accessFlags := 0, code := some k2c1 }
def k2c2 : Code := { maxStack := 1, maxLocals := 1, code := prog_11_method_3_code, exceptionTable := #[], attributes := #[] }
def k2m2 : Method := { name := "listCount", desc := "()I", sig := { parameters := [], returnType := some .int }, accessFlags := 0, code := some k2c2 }
def k2c3 : Code := { maxStack := 3, maxLocals := 2, code := prog_11_method_4_code, exceptionTable := #[], attributes := #[] }
def k2m3 : Method := { name := "first", desc := "(I)I", sig := { parameters := [.int], returnType := some .int }, accessFlags := 0, code := some k2c3 }
def k2c4 : Code := { maxStack := 2, maxLocals := 2, code := prog_11_method_5_code, exceptionTable := #[], attributes := #[] }
def k2m4 : Method := { name := "next", desc := "(I)I", sig := { parameters := [.int], returnType := some .int }, accessFlags := 0, code := some k2c4 }
def k2c5 : Code := { maxStack := 3, maxLocals := 2, code := prog_11_method_6_code, exceptionTable := #[], attributes := #[] }
def k2m5 : Method := { name := "clear", desc := "()V", sig := { parameters := [], returnType := none }, accessFlags := 0, code := some k2c5 }
/-- com/example/terms_to_transitions/termstotransitions/equivalence/TransitionLists -/
def k2 : Class := { plain "com/example/terms_to_transitions/termstotransitions/equivalence/TransitionLists" (some 0) with
  accessFlags := 48
  interfaces := #[]
  cf := some (fileOf pool2 8 #[] #[{ accessFlags := 0, nameIndex := 5, descriptorIndex := 32, attributes := #[] }, { accessFlags := 0, nameIndex := 35, descriptorIndex := 32, attributes := #[] }, { accessFlags := 0, nameIndex := 37, descriptorIndex := 38, attributes := #[] }, { accessFlags := 0, nameIndex := 39, descriptorIndex := 40, attributes := #[] }, { accessFlags := 0, nameIndex := 41, descriptorIndex := 40, attributes := #[] }, { accessFlags := 0, nameIndex := 42, descriptorIndex := 6, attributes := #[] }] 48 2 #[] #[{ accessFlags := 24, nameIndex := 29, descriptorIndex := 28, attributes := #[] }, { accessFlags := 18, nameIndex := 11, descriptorIndex := 12, attributes := #[] }, { accessFlags := 18, nameIndex := 21, descriptorIndex := 12, attributes := #[] }, { accessFlags := 18, nameIndex := 24, descriptorIndex := 12, attributes := #[] }, { accessFlags := 2, nameIndex := 27, descriptorIndex := 28, attributes := #[] }])
  fields := #[{ name := "NONE", type := .int, accessFlags := 24, slot := 0, constantValue := 0 }, { name := "heads", type := (.array .int), accessFlags := 18, slot := 0, constantValue := 0 }, { name := "nexts", type := (.array .int), accessFlags := 18, slot := 1, constantValue := 0 }, { name := "keysMet", type := (.array .int), accessFlags := 18, slot := 2, constantValue := 0 }, { name := "keysMetCount", type := .int, accessFlags := 2, slot := 3, constantValue := 0 }]
  methods := #[k2m0, k2m1, k2m2, k2m3, k2m4, k2m5]
  instanceTypes := #[(.array .int), (.array .int), (.array .int), .int]
  staticTypes := #[.int]
  resolved := Array.replicate 45 none
  statics := none }

def pool3 : Array CpInfo := pool [(2, .class_ 4), (1, u "java/lang/Object"), (0, u "<init>"), (0, u "()V"), (7, .class_ 16), (1, u "java/util/Arrays"), (57, .class_ 76), (1, u "java/util/Arrays$NaturalOrder"), (36, .class_ 115), (1, u "java/util/Arrays$LegacyMergeSort"), (1, u "Z"), (257, .class_ 376), (0, u "java/util/Arrays$ArrayList"), (68, u "$assertionsDisabled"), (269, u "MIN_ARRAY_SORT_GRAN"), (0, u "I"), (2, u "INSERTIONSORT_THRESHOLD"), (120, u "fill"), (4, u "([II)V"), (129, .class_ 976), (0, u "java/util/Arrays$ArrayItr")] 52

def k3m0 : Method := { name := "<init>", desc := "()V", sig := { parameters := [], returnType := none }, accessFlags := 2, code := none }
def k3c1 : Code := { maxStack := 3, maxLocals := 4, code := jdk_65_method_103_code, exceptionTable := #[], attributes := #[] }
def k3m1 : Method := { name := "fill", desc := "([II)V", sig := { parameters := [(.array .int), .int], returnType := none }, accessFlags := 9, code := some k3c1 }
/-- java/util/Arrays -/
def k3 : Class := { plain "java/util/Arrays" (some 0) with
  accessFlags := 49
  interfaces := #[]
  cf := some (fileOf pool3 14 #[.nestMembers #[975, 375, 113, 74]] #[{ accessFlags := 2, nameIndex := 5, descriptorIndex := 6, attributes := #[] }, { accessFlags := 9, nameIndex := 840, descriptorIndex := 845, attributes := #[] }] 49 2 #[] #[{ accessFlags := 26, nameIndex := 715, descriptorIndex := 716, attributes := #[] }, { accessFlags := 26, nameIndex := 719, descriptorIndex := 716, attributes := #[] }, { accessFlags := 4120, nameIndex := 445, descriptorIndex := 117, attributes := #[] }])
  fields := #[{ name := "MIN_ARRAY_SORT_GRAN", type := .int, accessFlags := 26, slot := 0, constantValue := 0 }, { name := "INSERTIONSORT_THRESHOLD", type := .int, accessFlags := 26, slot := 1, constantValue := 0 }, { name := "$assertionsDisabled", type := .boolean, accessFlags := 4120, slot := 2, constantValue := 0 }]
  methods := #[k3m0, k3m1]
  instanceTypes := #[]
  staticTypes := #[.int, .int, .boolean]
  resolved := Array.replicate 1029 none
  statics := none }

def pool4 : Array CpInfo := pool [(1, u "java/lang/Cloneable"), (0, .class_ 1), (0, u "java/lang/Object"), (0, .class_ 3)] 3

/-- java/lang/Cloneable -/
def k4 : Class := { plain "java/lang/Cloneable" (some 0) with
  accessFlags := 1537
  interfaces := #[]
  cf := some (fileOf pool4 2 #[] #[] 1537 4 #[] #[])
  fields := #[]
  methods := #[]
  instanceTypes := #[]
  staticTypes := #[]
  resolved := Array.replicate 8 none
  statics := none }

def pool5 : Array CpInfo := pool [(1, u "java/io/Serializable"), (0, .class_ 1), (0, u "java/lang/Object"), (0, .class_ 3)] 3

/-- java/io/Serializable -/
def k5 : Class := { plain "java/io/Serializable" (some 0) with
  accessFlags := 1537
  interfaces := #[]
  cf := some (fileOf pool5 2 #[] #[] 1537 4 #[] #[])
  fields := #[]
  methods := #[]
  instanceTypes := #[]
  staticTypes := #[]
  resolved := Array.replicate 8 none
  statics := none }

/-- the primitive byte -/
def k6 : Class := { plain "byte" none with kind := .primitive 'B', accessFlags := 0x411 }
/-- [B -/
def k7 : Class := { plain "[B" (some 0) with kind := .array 6 .byte, interfaces := #[4, 5], accessFlags := 1041 }

/-- the primitive int -/
def k8 : Class := { plain "int" none with kind := .primitive 'I', accessFlags := 0x411 }
/-- [I -/
def k9 : Class := { plain "[I" (some 0) with kind := .array 8 .int, interfaces := #[4, 5], accessFlags := 1041 }

def heap : Heap := #[]
def classes : Array Class := #[k0, k1, k2, k3, k4, k5, k6, k7, k8, k9]
def interned : List (Array UInt16 × Addr) := []
def slotsUsed : Nat := 0
def theMethod : MethodId := ⟨1, 1⟩
def args0 : Array Value := #[.int 5, .int 7, .int 1, .int 2, .int 3, .int 4]
def aboutOver (below : List Frame) : State where
  vm := { classes := classes, interned := interned.toArray }
  heap := heap
  slotsUsed := slotsUsed
  threads := #[{ frames := .invoking theMethod args0 :: below }]
def below0 : List Frame := [.native { method := ⟨0, 0⟩, args := #[] }]
def about1 : State := aboutOver below0
def p0 : Program := .bare "" "" ""
def e0 : Env := launch0.env 0 0 0
theorem w_frames : about1.frames = Frame.invoking theMethod args0 :: below0 := rfl
set_option maxRecDepth 65536 in
theorem w_args : argsFit about1.vm theMethod args0 = true := by decide +kernel
set_option maxRecDepth 65536 in
theorem w_heap : heapFits about1 = true := by decide +kernel
set_option maxRecDepth 65536 in
theorem w_runnable : about1.curStatus? = some .runnable := by decide +kernel
set_option maxRecDepth 65536 in
theorem w_alone : about1.alone = true := by decide +kernel
set_option maxRecDepth 65536 in
theorem w_named : about1.methodNamed? x = some theMethod := by decide +kernel
set_option maxRecDepth 65536 in
theorem w_hears : about1.hears theMethod below0 = true := by decide +kernel
set_option maxRecDepth 65536 in
theorem w_ripe : about1.ripe theMethod args0 below0 = true := by decide +kernel
theorem w_running : about1.status = .running := rfl
set_option maxRecDepth 65536 in
theorem w_room : about1.hasRoom e0.platform room_1 = true :=
  launch0.hasRoom_least _ room_1 (by decide +kernel) (by decide +kernel) (by decide +kernel) (by decide +kernel) (by decide +kernel) (by decide +kernel)
theorem allAtoms_all (ts : List Jvm.Cond) (a : Array Jvm.Value) (st : Jvm.State) : (allAtoms ts).before a st = ts.all (fun c => c.before a st) := by
  induction ts with
  | nil => rfl
  | cons c t ih =>
    show (Jvm.Cond.and c (allAtoms t)).before a st = _
    rw [Jvm.Cond.before_and, ih, List.all_cons]
def words1 : List Jvm.Cond := Jvm.Cond.code x code maxLocals ret :: tables_1
/-- a 'code' word, met by the world's own term for the bytes: nothing is compared byte by byte -/
theorem code_word {y : MethodName} {bytes : ByteArray} {mx : Nat} {rt : Option FieldType} {a : Array Value} {s : State} {m : MethodId} {meth : Method} {c : Code} (h1 : s.methodNamed? y = some m) (h2 : s.vm.method? m = some meth) (h3 : meth.code = some c) (h4 : c.code = bytes)
    (h5 : (c.maxLocals == mx && c.exceptionTable.isEmpty && decide (c.maxStack ≤ mostOperands) && decide (meth.sig.returnType = rt) && !meth.locks && decide (parseMethodDescriptor y.desc = some meth.sig)) = true) : (Jvm.Cond.code y bytes mx rt).before a s = true := by
  simp only [Bool.and_eq_true, beq_iff_eq, Bool.not_eq_true', decide_eq_true_eq] at h5
  obtain ⟨⟨⟨⟨⟨g1, g2⟩, g3⟩, g4⟩, g5⟩, g6⟩ := h5
  simp [Cond.before, Cond.holds, Cond.value, h1, h2, h3, h4, g1, g2, g3, g4, g5, g6]
def isCode : Jvm.Cond → Bool
  | .code _ _ _ _ => true
  | _ => false
theorem all_split {L : List Jvm.Cond} {P : Jvm.Cond → Bool} (h1 : L.all (fun c => isCode c || P c) = true) (h2 : ∀ c ∈ L.filter isCode, P c = true) : L.all P = true := by
  refine List.all_eq_true.mpr fun c hc => ?_
  have h := List.all_eq_true.mp h1 c hc
  rcases Bool.eq_false_or_eq_true (isCode c) with hi | hi
  · exact h2 c (List.mem_filter.mpr ⟨hc, hi⟩)
  · simpa [hi] using h
set_option maxRecDepth 65536 in
theorem w_c0 : (Jvm.Cond.code x code maxLocals ret).before args0 about1 = true := code_word (m := ⟨1, 1⟩) (meth := k1m1) (c := k1c1) (by decide +kernel) rfl rfl rfl (by decide +kernel)
set_option maxRecDepth 65536 in
theorem w_c1 : (Jvm.Cond.code ({ cls := "com/example/terms_to_transitions/termstotransitions/equivalence/TransitionLists", name := "<init>", desc := "(II)V" } : Jvm.MethodName) prog_11_method_1_code (3 : Nat) (Option.none : Option Jvm.ClassFile.FieldType)).before args0 about1 = true := code_word (m := ⟨2, 0⟩) (meth := k2m0) (c := k2c0) (by decide +kernel) rfl rfl rfl (by decide +kernel)
set_option maxRecDepth 65536 in
theorem w_c2 : (Jvm.Cond.code ({ cls := "java/lang/Object", name := "<init>", desc := "()V" } : Jvm.MethodName) object_method_1_code (1 : Nat) (Option.none : Option Jvm.ClassFile.FieldType)).before args0 about1 = true := code_word (m := ⟨0, 0⟩) (meth := k0m0) (c := k0c0) (by decide +kernel) rfl rfl rfl (by decide +kernel)
set_option maxRecDepth 65536 in
theorem w_c3 : (Jvm.Cond.code ({ cls := "java/util/Arrays", name := "fill", desc := "([II)V" } : Jvm.MethodName) jdk_65_method_103_code (4 : Nat) (Option.none : Option Jvm.ClassFile.FieldType)).before args0 about1 = true := code_word (m := ⟨3, 1⟩) (meth := k3m1) (c := k3c1) (by decide +kernel) rfl rfl rfl (by decide +kernel)
set_option maxRecDepth 65536 in
theorem w_c4 : (Jvm.Cond.code ({ cls := "com/example/terms_to_transitions/termstotransitions/equivalence/TransitionLists", name := "clear", desc := "()V" } : Jvm.MethodName) prog_11_method_6_code (2 : Nat) (Option.none : Option Jvm.ClassFile.FieldType)).before args0 about1 = true := code_word (m := ⟨2, 5⟩) (meth := k2m5) (c := k2c5) (by decide +kernel) rfl rfl rfl (by decide +kernel)
set_option maxRecDepth 65536 in
theorem w_c5 : (Jvm.Cond.code ({ cls := "com/example/terms_to_transitions/termstotransitions/equivalence/TransitionLists", name := "listCount", desc := "()I" } : Jvm.MethodName) prog_11_method_3_code (1 : Nat) (Option.some Jvm.ClassFile.FieldType.int)).before args0 about1 = true := code_word (m := ⟨2, 2⟩) (meth := k2m2) (c := k2c2) (by decide +kernel) rfl rfl rfl (by decide +kernel)
set_option maxRecDepth 65536 in
theorem w_c6 : (Jvm.Cond.code ({ cls := "com/example/terms_to_transitions/termstotransitions/equivalence/TransitionLists", name := "add", desc := "(II)V" } : Jvm.MethodName) prog_11_method_2_code (3 : Nat) (Option.none : Option Jvm.ClassFile.FieldType)).before args0 about1 = true := code_word (m := ⟨2, 1⟩) (meth := k2m1) (c := k2c1) (by decide +kernel) rfl rfl rfl (by decide +kernel)
set_option maxRecDepth 65536 in
theorem w_c7 : (Jvm.Cond.code ({ cls := "com/example/terms_to_transitions/termstotransitions/equivalence/TransitionLists", name := "first", desc := "(I)I" } : Jvm.MethodName) prog_11_method_4_code (2 : Nat) (Option.some Jvm.ClassFile.FieldType.int)).before args0 about1 = true := code_word (m := ⟨2, 3⟩) (meth := k2m3) (c := k2c3) (by decide +kernel) rfl rfl rfl (by decide +kernel)
set_option maxRecDepth 65536 in
theorem w_c8 : (Jvm.Cond.code ({ cls := "com/example/terms_to_transitions/termstotransitions/equivalence/TransitionLists", name := "next", desc := "(I)I" } : Jvm.MethodName) prog_11_method_5_code (2 : Nat) (Option.some Jvm.ClassFile.FieldType.int)).before args0 about1 = true := code_word (m := ⟨2, 4⟩) (meth := k2m4) (c := k2c4) (by decide +kernel) rfl rfl rfl (by decide +kernel)
def codes1 : List Jvm.Cond := [Jvm.Cond.code x code maxLocals ret, Jvm.Cond.code ({ cls := "com/example/terms_to_transitions/termstotransitions/equivalence/TransitionLists", name := "<init>", desc := "(II)V" } : Jvm.MethodName) prog_11_method_1_code (3 : Nat) (Option.none : Option Jvm.ClassFile.FieldType), Jvm.Cond.code ({ cls := "java/lang/Object", name := "<init>", desc := "()V" } : Jvm.MethodName) object_method_1_code (1 : Nat) (Option.none : Option Jvm.ClassFile.FieldType), Jvm.Cond.code ({ cls := "java/util/Arrays", name := "fill", desc := "([II)V" } : Jvm.MethodName) jdk_65_method_103_code (4 : Nat) (Option.none : Option Jvm.ClassFile.FieldType), Jvm.Cond.code ({ cls := "com/example/terms_to_transitions/termstotransitions/equivalence/TransitionLists", name := "clear", desc := "()V" } : Jvm.MethodName) prog_11_method_6_code (2 : Nat) (Option.none : Option Jvm.ClassFile.FieldType), Jvm.Cond.code ({ cls := "com/example/terms_to_transitions/termstotransitions/equivalence/TransitionLists", name := "listCount", desc := "()I" } : Jvm.MethodName) prog_11_method_3_code (1 : Nat) (Option.some Jvm.ClassFile.FieldType.int), Jvm.Cond.code ({ cls := "com/example/terms_to_transitions/termstotransitions/equivalence/TransitionLists", name := "add", desc := "(II)V" } : Jvm.MethodName) prog_11_method_2_code (3 : Nat) (Option.none : Option Jvm.ClassFile.FieldType), Jvm.Cond.code ({ cls := "com/example/terms_to_transitions/termstotransitions/equivalence/TransitionLists", name := "first", desc := "(I)I" } : Jvm.MethodName) prog_11_method_4_code (2 : Nat) (Option.some Jvm.ClassFile.FieldType.int), Jvm.Cond.code ({ cls := "com/example/terms_to_transitions/termstotransitions/equivalence/TransitionLists", name := "next", desc := "(I)I" } : Jvm.MethodName) prog_11_method_5_code (2 : Nat) (Option.some Jvm.ClassFile.FieldType.int)]
set_option maxRecDepth 65536 in
theorem codes_eq : words1.filter isCode = codes1 := rfl
theorem w_codes : ∀ c ∈ words1.filter isCode, c.before args0 about1 = true := by
  rw [codes_eq]
  intro c hc
  simp only [codes1, List.mem_cons, List.not_mem_nil, or_false] at hc
  rcases hc with rfl | rfl | rfl | rfl | rfl | rfl | rfl | rfl | rfl
  · exact w_c0
  · exact w_c1
  · exact w_c2
  · exact w_c3
  · exact w_c4
  · exact w_c5
  · exact w_c6
  · exact w_c7
  · exact w_c8
set_option maxRecDepth 65536 in
theorem w_t1 : (words1.take 24).all (fun c => isCode c || c.before args0 about1) = true := by decide +kernel
set_option maxRecDepth 65536 in
theorem w_t2 : (words1.drop 24).all (fun c => isCode c || c.before args0 about1) = true := by decide +kernel
theorem w_tables : (allAtoms (Jvm.Cond.code x code maxLocals ret :: tables_1)).before args0 about1 = true := by
  rw [allAtoms_all]
  show words1.all (fun c => c.before args0 about1) = true
  refine all_split ?_ w_codes
  rw [← List.take_append_drop 24 words1, List.all_append, w_t1, w_t2]
  rfl
set_option maxRecDepth 65536 in
theorem w_case : (Jvm.Cond.and given_1 narrow_1).before args0 about1 = true := by decide +kernel
theorem w_applies : (headSpec (Jvm.Cond.code x code maxLocals ret :: tables_1) room_1).applies x e0.platform about1 = true :=
  (Spec.applies_iff w_frames).mpr ⟨w_running, w_runnable, w_alone, w_named, w_hears, w_ripe, w_room, w_tables⟩
theorem atStart : AtStart classFile x code maxLocals ret World_1 tables_1 room_1 Calls_1 rest_1 Pre_1 launch0 p0 e0 about1 theMethod args0 below0 :=
  ⟨lists_1, trivial, launch0.admits_env _ _ _, launch0.least_env, fairChoices_fair.cas, fairChoices_fair.clock, w_frames, w_args, w_heap, w_applies, trivial, trivial, w_case⟩
end start1
theorem witness_1 : WitnessClaimed_1 := ⟨start1.p0, start1.e0, start1.about1, start1.theMethod, start1.args0, start1.below0, start1.atStart⟩
end Jvm.Pilot.@@N@@
