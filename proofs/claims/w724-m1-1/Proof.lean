import JvmDerived
import JvmDerived.Pilot.@@N@@Statement
import JvmDerived.Pilot.@@N@@Code
set_option linter.unusedVariables false
set_option linter.unusedSimpArgs false
namespace Jvm.Pilot.@@N@@
open Jvm Jvm.ClassFile Sem Op Lib Jvm.Free Jvm.Stand Jvm.LawKit Jvm.RoadKit Bundle Jvm.Pilot.@@N@@.Jvm.D
-- OWN KIT: a walk over an abstract heap. 'own_Ob': an array (kind, values) or an object (class, fields).
abbrev own_Ob : Type := (FieldType × List Value) ⊕ (String × List (String × String × Value))
abbrev own_Hs : Type := List (Addr × own_Ob)
def own_is (Z : State) (h : Heap) (a : Addr) : own_Ob → Prop
  | .inl q => ∃ c : Cell, Arr Z h a c q.1 ∧ c.slots.toList = q.2
  | .inr q => Exa Z h a q.1 ∧ (∀ (i j : Nat) (f g : String × String × Value), q.2[i]? = some f → q.2[j]? = some g → RoadKit.slotOf Z q.1 f.1 f.2.1 = RoadKit.slotOf Z q.1 g.1 g.2.1 → i = j) ∧ ∀ (i : Nat) (f : String × String × Value), q.2[i]? = some f → Fld Z h a q.1 f.1 f.2.1 f.2.2
/-- the objects made since the law began, each at its own address -/
def own_Hp (Z : State) (n0 : Nat) (h : Heap) (H : own_Hs) : Prop :=
  n0 ≤ h.size ∧ (∀ (i j : Nat) (a : Addr) (o o' : own_Ob), H[i]? = some (a, o) → H[j]? = some (a, o') → i = j) ∧ ∀ (i : Nat) (a : Addr) (o : own_Ob), H[i]? = some (a, o) → n0 ≤ a ∧ a < h.size ∧ own_is Z h a o
/-- what is owed at the end -/
def own_P (Z : State) (n0 : Nat) (s : State) (below : List Frame) (R : Room) (Q : Option Value → own_Hs → Prop) (t : State) (o : Outcome) : Prop :=
  t.status = .running ∧ Ended t below o ∧ ∃ v L, o = .returned v ∧ (Fr n0 L ∧ ∃ H', own_Hp Z n0 t.heap H' ∧ Q v H') ∧ FrameEnd s o t L R.cells R.slots
def own_Go (Z : State) (n0 : Nat) (p : Program) (l : Launch) (e : Env) (R : Room) (s : State) (m : MethodId) (args : Array Value) (below : List Frame) (meth : Method) (c : Code) (P : State → Outcome → Prop)
    (k n : Nat) (H : own_Hs) (pc : Nat) (ls : List Slot) (st : List Value) : Prop :=
  ∀ T L, Stand p l e R s m args below meth c T L k n → Fr n0 L → own_Hp Z n0 T.heap H → ∃ t o, Steps p.tables e below (T.setTop (mkF m pc ⟨ls⟩ st)) t ∧ P t o
/-- G is the walk of y's body -/
def own_Wk (Z : State) (n0 : Nat) (R : Room) (y : MethodName) (bytes : ByteArray) (maxL : Nat) (ret : Option FieldType) (l : Launch) (Q : Option Value → own_Hs → Prop)
    (G : Nat → Nat → own_Hs → Nat → List Slot → List Value → Prop) : Prop :=
  ∃ p e s m args below meth c, G = own_Go Z n0 p l e R s m args below meth c (own_P Z n0 s below R Q) ∧ p.tables.exec = Jvm.exec ∧ Z.Warmed39 s.vm ∧ c.code = bytes ∧ c.maxLocals = maxL ∧
    s.vm.findClass y.cls = some m.cls ∧ meth.name = y.name ∧ meth.sig.returnType = ret ∧ meth.locks = false
/-- y's contract -/
def own_Con (l : Launch) (Z : State) (n0 : Nat) (y : MethodName) (bytes : ByteArray) (maxL : Nat) (ret : Option FieldType) (ws : List Jvm.Cond) (rm : Room) (as : Array Value) (H : own_Hs) (Q : Option Value → own_Hs → Prop) : Prop :=
  ∀ h0, own_Hp Z n0 h0 H → MetFree l y (head1 (Jvm.Cond.code y bytes maxL ret :: ws) rm) (fun a U => a = as ∧ Z.Warmed39 U.vm ∧ U.heap = h0) (fun _ _ _ _ _ => True)
    (fun _ U o U' => ∃ v L, o = .returned v ∧ (Fr n0 L ∧ ∃ H', own_Hp Z n0 U'.heap H' ∧ Q v H') ∧ FrameEnd U o U' L rm.cells rm.slots)
section OwnKit
variable {Z : State} {a0 : Array Value} {n0 : Nat} {R : Room} {y : MethodName} {bytes : ByteArray} {maxL : Nat} {ret : Option FieldType} {l : Launch} {Q : Option Value → own_Hs → Prop}
  {G : Nat → Nat → own_Hs → Nat → List Slot → List Value → Prop} {k n : Nat} {H : own_Hs} {pc q q' : Nat} {ls ls' : List Slot} {st st' : List Value}
theorem own_con {ws : List Jvm.Cond} {as : Array Value} {ls0 : List Slot} (hp : plainFor y = true) (hef : ∀ m, entryFrame m as maxL = mkF m 0 ⟨ls0⟩ []) (body : ∀ G, own_Wk Z n0 R y bytes maxL ret l Q G → G 0 0 H 0 ls0 []) :
    own_Con l Z n0 y bytes maxL ret ws R as H Q := by
  intro h0 hH
  refine MetFree.of_bodySF hp hisR ?_
  intro p e s m args below meth c s₁ Bd hml0 hP hK
  obtain ⟨ha, hZ, hh⟩ := hP
  subst ha
  have e0 : s₁.heap = h0 := by rw [← hh, Bd.state]; rfl
  have hown : s.vm.findClass y.cls = some m.cls := findClass_of_methodNamed Bd.named
  have hnm := (name_of_methodNamed Bd.named Bd.method).1
  obtain ⟨t, o, stp, P⟩ := body _ ⟨p, e, s, m, args, below, meth, c, rfl, Bd.exec, hZ, Bd.bytes, hml0, hown, hnm, Bd.returns, BodyLoose.notSynchronized Bd⟩ s₁ [] (Stand.of_body Bd) (Fr.nil n0) (by rw [e0]; exact hH)
  exact ⟨t, o, castTop (hef m) stp, P⟩
/-- a step that touches the frame alone -/
theorem own_Wk.of (C : own_Wk Z n0 R y bytes maxL ret l Q G) (K : G k n H q ls' st')
    (h : ∀ (p : Program) (e : Env) (T t : State) (m : MethodId) (below : List Frame) (c : Code), p.tables.exec = Jvm.exec → c.code = bytes → At T m c below → Steps p.tables e below (T.setTop (mkF m q ⟨ls'⟩ st')) t → Steps p.tables e below (T.setTop (mkF m pc ⟨ls⟩ st)) t) :
    G k n H pc ls st := by
  obtain ⟨p, e, s, m, args, below, meth, c, rfl, hx, hZ, hby, hml, hown, hnm, hret, hlk⟩ := C
  intro T L X N hH
  obtain ⟨t, o, stp, P⟩ := K T L X N hH
  exact ⟨t, o, h p e T t m below c hx hby X.here stp, P⟩
theorem own_Wk.more {k' n' : Nat} (C : own_Wk Z n0 R y bytes maxL ret l Q G) (hk : k ≤ k') (hn : n ≤ n') (K : G k' n' H pc ls st) : G k n H pc ls st := by
  obtain ⟨p, e, s, m, args, below, meth, c, rfl, hx, hZ, hby, hml, hown, hnm, hret, hlk⟩ := C
  exact fun T L X N hH => K T L (X.more hk hn) N hH
theorem own_Wk.iloadN (C : own_Wk Z n0 R y bytes maxL ret l Q G) {j : Fin 4} {v : Int32} (hd : decode bytes pc = .ok (.iload_n j, 1)) (hl : (Array.mk ls)[j.val]? = some (.val (.int v))) (hq : pc + 1 = q) (K : G k n H q ls (.int v :: st)) : G k n H pc ls st := by
  subst hq; exact C.of K fun _ _ _ _ _ _ _ hx hby X s => XS.iloadN X hx rfl (hb hby hd) hl s
theorem own_Wk.iload (C : own_Wk Z n0 R y bytes maxL ret l Q G) {j : Nat} {v : Int32} (hd : decode bytes pc = .ok (.iload j, 2)) (hl : (Array.mk ls)[j]? = some (.val (.int v))) (hq : pc + 2 = q) (K : G k n H q ls (.int v :: st)) : G k n H pc ls st := by
  subst hq; exact C.of K fun _ _ _ _ _ _ _ hx hby X s => XS.iload X hx rfl (hb hby hd) hl s
theorem own_Wk.lloadN (C : own_Wk Z n0 R y bytes maxL ret l Q G) {j : Fin 4} {v : Int64} (hd : decode bytes pc = .ok (.lload_n j, 1)) (hl : (Array.mk ls)[j.val]? = some (.val (.long v))) (hq : pc + 1 = q) (K : G k n H q ls (.long v :: st)) : G k n H pc ls st := by
  subst hq; exact C.of K fun _ _ _ _ _ _ _ hx hby X s => XS.lloadN X hx rfl (hb hby hd) hl s
theorem own_Wk.lload (C : own_Wk Z n0 R y bytes maxL ret l Q G) {j : Nat} {v : Int64} (hd : decode bytes pc = .ok (.lload j, 2)) (hl : (Array.mk ls)[j]? = some (.val (.long v))) (hq : pc + 2 = q) (K : G k n H q ls (.long v :: st)) : G k n H pc ls st := by
  subst hq; exact C.of K fun _ _ _ _ _ _ _ hx hby X s => XS.lload X hx rfl (hb hby hd) hl s
theorem own_Wk.aloadN (C : own_Wk Z n0 R y bytes maxL ret l Q G) {j : Fin 4} {v : Value} (hd : decode bytes pc = .ok (.aload_n j, 1)) (hl : (Array.mk ls)[j.val]? = some (.val v)) (hv : v.isRef = true) (hq : pc + 1 = q) (K : G k n H q ls (v :: st)) : G k n H pc ls st := by
  subst hq; exact C.of K fun _ _ _ _ _ _ _ hx hby X s => XS.aloadN X hx rfl (hb hby hd) hl hv s
theorem own_Wk.aload (C : own_Wk Z n0 R y bytes maxL ret l Q G) {j : Nat} {v : Value} (hd : decode bytes pc = .ok (.aload j, 2)) (hl : (Array.mk ls)[j]? = some (.val v)) (hv : v.isRef = true) (hq : pc + 2 = q) (K : G k n H q ls (v :: st)) : G k n H pc ls st := by
  subst hq; exact C.of K fun _ _ _ _ _ _ _ hx hby X s => XS.aload X hx rfl (hb hby hd) hl hv s
theorem own_Wk.istoreN (C : own_Wk Z n0 R y bytes maxL ret l Q G) {j : Fin 4} {v : Int32} (hd : decode bytes pc = .ok (.istore_n j, 1)) (hl : storeLocals (Array.mk ls) j.val (.int v) = some (Array.mk ls')) (hq : pc + 1 = q) (K : G k n H q ls' st) : G k n H pc ls (.int v :: st) := by
  subst hq; exact C.of K fun _ _ _ _ _ _ _ hx hby X s => XS.istoreN X hx rfl (hb hby hd) rfl hl s
theorem own_Wk.istore (C : own_Wk Z n0 R y bytes maxL ret l Q G) {j : Nat} {v : Int32} (hd : decode bytes pc = .ok (.istore j, 2)) (hl : storeLocals (Array.mk ls) j (.int v) = some (Array.mk ls')) (hq : pc + 2 = q) (K : G k n H q ls' st) : G k n H pc ls (.int v :: st) := by
  subst hq; exact C.of K fun _ _ _ _ _ _ _ hx hby X s => XS.istore X hx rfl (hb hby hd) rfl hl s
theorem own_Wk.lstoreN (C : own_Wk Z n0 R y bytes maxL ret l Q G) {j : Fin 4} {v : Int64} (hd : decode bytes pc = .ok (.lstore_n j, 1)) (hl : storeLocals (Array.mk ls) j.val (.long v) = some (Array.mk ls')) (hq : pc + 1 = q) (K : G k n H q ls' st) : G k n H pc ls (.long v :: st) := by
  subst hq; exact C.of K fun _ _ _ _ _ _ _ hx hby X s => XS.lstoreN X hx rfl (hb hby hd) rfl hl s
theorem own_Wk.lstore (C : own_Wk Z n0 R y bytes maxL ret l Q G) {j : Nat} {v : Int64} (hd : decode bytes pc = .ok (.lstore j, 2)) (hl : storeLocals (Array.mk ls) j (.long v) = some (Array.mk ls')) (hq : pc + 2 = q) (K : G k n H q ls' st) : G k n H pc ls (.long v :: st) := by
  subst hq; exact C.of K fun _ _ _ _ _ _ _ hx hby X s => XS.lstore X hx rfl (hb hby hd) rfl hl s
theorem own_Wk.astoreN (C : own_Wk Z n0 R y bytes maxL ret l Q G) {j : Fin 4} {v : Value} (hd : decode bytes pc = .ok (.astore_n j, 1)) (hv : v.isRef = true) (hl : storeLocals (Array.mk ls) j.val v = some (Array.mk ls')) (hq : pc + 1 = q) (K : G k n H q ls' st) : G k n H pc ls (v :: st) := by
  subst hq; exact C.of K fun _ _ _ _ _ _ _ hx hby X s => XS.astoreN X hx rfl (hb hby hd) rfl hv hl s
theorem own_Wk.astore (C : own_Wk Z n0 R y bytes maxL ret l Q G) {j : Nat} {v : Value} (hd : decode bytes pc = .ok (.astore j, 2)) (hv : v.isRef = true) (hl : storeLocals (Array.mk ls) j v = some (Array.mk ls')) (hq : pc + 2 = q) (K : G k n H q ls' st) : G k n H pc ls (v :: st) := by
  subst hq; exact C.of K fun _ _ _ _ _ _ _ hx hby X s => XS.astore X hx rfl (hb hby hd) rfl hv hl s
theorem own_Wk.iconst (C : own_Wk Z n0 R y bytes maxL ret l Q G) {i : Int} {z : Int32} (hd : decode bytes pc = .ok (.iconst i, 1)) (hz : Int32.ofInt i = z) (hq : pc + 1 = q) (K : G k n H q ls (.int z :: st)) : G k n H pc ls st := by
  subst hq hz; exact C.of K fun _ _ _ _ _ _ _ hx hby X s => XS.iconst X hx rfl (hb hby hd) s
theorem own_Wk.bipush (C : own_Wk Z n0 R y bytes maxL ret l Q G) {i : Int} {z : Int32} (hd : decode bytes pc = .ok (.bipush i, 2)) (hz : (Int8.ofInt i).toInt32 = z) (hq : pc + 2 = q) (K : G k n H q ls (.int z :: st)) : G k n H pc ls st := by
  subst hq hz; exact C.of K fun _ _ _ _ _ _ _ hx hby X s => XS.bipush X hx rfl (hb hby hd) s
theorem own_Wk.sipush (C : own_Wk Z n0 R y bytes maxL ret l Q G) {i : Int} {z : Int32} (hd : decode bytes pc = .ok (.sipush i, 3)) (hz : (Int16.ofInt i).toInt32 = z) (hq : pc + 3 = q) (K : G k n H q ls (.int z :: st)) : G k n H pc ls st := by
  subst hq hz; exact C.of K fun _ _ _ _ _ _ _ hx hby X s => XS.sipush X hx rfl (hb hby hd) s
theorem own_Wk.lconst (C : own_Wk Z n0 R y bytes maxL ret l Q G) {i : Fin 2} {z : Int64} (hd : decode bytes pc = .ok (.lconst i, 1)) (hz : Int64.ofNat i = z) (hq : pc + 1 = q) (K : G k n H q ls (.long z :: st)) : G k n H pc ls st := by
  subst hq hz; exact C.of K fun _ _ _ _ _ _ _ hx hby X s => XS.lconst X hx rfl (hb hby hd) s
theorem own_Wk.aconstNull (C : own_Wk Z n0 R y bytes maxL ret l Q G) (hd : decode bytes pc = .ok (.aconst_null, 1)) (hq : pc + 1 = q) (K : G k n H q ls (.null :: st)) : G k n H pc ls st := by
  subst hq; exact C.of K fun _ _ _ _ _ _ _ hx hby X s => XS.aconstNull X hx rfl (hb hby hd) s
theorem own_Wk.iadd (C : own_Wk Z n0 R y bytes maxL ret l Q G) {a b : Int32} (hd : decode bytes pc = .ok (.iadd, 1)) (hq : pc + 1 = q) (K : G k n H q ls (.int (a + b) :: st)) : G k n H pc ls (.int b :: .int a :: st) := by
  subst hq; exact C.of K fun _ _ _ _ _ _ _ hx hby X s => XS.iadd X hx rfl (hb hby hd) rfl s
theorem own_Wk.isub (C : own_Wk Z n0 R y bytes maxL ret l Q G) {a b : Int32} (hd : decode bytes pc = .ok (.isub, 1)) (hq : pc + 1 = q) (K : G k n H q ls (.int (a - b) :: st)) : G k n H pc ls (.int b :: .int a :: st) := by
  subst hq; exact C.of K fun _ _ _ _ _ _ _ hx hby X s => XS.isub X hx rfl (hb hby hd) rfl s
theorem own_Wk.imul (C : own_Wk Z n0 R y bytes maxL ret l Q G) {a b : Int32} (hd : decode bytes pc = .ok (.imul, 1)) (hq : pc + 1 = q) (K : G k n H q ls (.int (a * b) :: st)) : G k n H pc ls (.int b :: .int a :: st) := by
  subst hq; exact C.of K fun _ _ _ _ _ _ _ hx hby X s => XS.imul X hx rfl (hb hby hd) rfl s
theorem own_Wk.iand (C : own_Wk Z n0 R y bytes maxL ret l Q G) {a b : Int32} (hd : decode bytes pc = .ok (.iand, 1)) (hq : pc + 1 = q) (K : G k n H q ls (.int (a &&& b) :: st)) : G k n H pc ls (.int b :: .int a :: st) := by
  subst hq; exact C.of K fun _ _ _ _ _ _ _ hx hby X s => XS.iand X hx rfl (hb hby hd) rfl s
theorem own_Wk.ior (C : own_Wk Z n0 R y bytes maxL ret l Q G) {a b : Int32} (hd : decode bytes pc = .ok (.ior, 1)) (hq : pc + 1 = q) (K : G k n H q ls (.int (a ||| b) :: st)) : G k n H pc ls (.int b :: .int a :: st) := by
  subst hq; exact C.of K fun _ _ _ _ _ _ _ hx hby X s => XS.ior X hx rfl (hb hby hd) rfl s
theorem own_Wk.ixor (C : own_Wk Z n0 R y bytes maxL ret l Q G) {a b : Int32} (hd : decode bytes pc = .ok (.ixor, 1)) (hq : pc + 1 = q) (K : G k n H q ls (.int (a ^^^ b) :: st)) : G k n H pc ls (.int b :: .int a :: st) := by
  subst hq; exact C.of K fun _ _ _ _ _ _ _ hx hby X s => XS.ixor X hx rfl (hb hby hd) rfl s
theorem own_Wk.ishl (C : own_Wk Z n0 R y bytes maxL ret l Q G) {a b : Int32} (hd : decode bytes pc = .ok (.ishl, 1)) (hq : pc + 1 = q) (K : G k n H q ls (.int (a <<< (b &&& 31)) :: st)) : G k n H pc ls (.int b :: .int a :: st) := by
  subst hq; exact C.of K fun _ _ _ _ _ _ _ hx hby X s => XS.ishl X hx rfl (hb hby hd) rfl s
theorem own_Wk.ishr (C : own_Wk Z n0 R y bytes maxL ret l Q G) {a b : Int32} (hd : decode bytes pc = .ok (.ishr, 1)) (hq : pc + 1 = q) (K : G k n H q ls (.int (a >>> (b &&& 31)) :: st)) : G k n H pc ls (.int b :: .int a :: st) := by
  subst hq; exact C.of K fun _ _ _ _ _ _ _ hx hby X s => XS.ishr X hx rfl (hb hby hd) rfl s
theorem own_Wk.iushr (C : own_Wk Z n0 R y bytes maxL ret l Q G) {a b : Int32} (hd : decode bytes pc = .ok (.iushr, 1)) (hq : pc + 1 = q) (K : G k n H q ls (.int ((a.toUInt32 >>> (b &&& 31).toUInt32).toInt32) :: st)) : G k n H pc ls (.int b :: .int a :: st) := by
  subst hq; exact C.of K fun _ _ _ _ _ _ _ hx hby X s => XS.iushr X hx rfl (hb hby hd) rfl s
theorem own_Wk.ladd (C : own_Wk Z n0 R y bytes maxL ret l Q G) {a b : Int64} (hd : decode bytes pc = .ok (.ladd, 1)) (hq : pc + 1 = q) (K : G k n H q ls (.long (a + b) :: st)) : G k n H pc ls (.long b :: .long a :: st) := by
  subst hq; exact C.of K fun _ _ _ _ _ _ _ hx hby X s => XS.ladd X hx rfl (hb hby hd) rfl s
theorem own_Wk.lsub (C : own_Wk Z n0 R y bytes maxL ret l Q G) {a b : Int64} (hd : decode bytes pc = .ok (.lsub, 1)) (hq : pc + 1 = q) (K : G k n H q ls (.long (a - b) :: st)) : G k n H pc ls (.long b :: .long a :: st) := by
  subst hq; exact C.of K fun _ _ _ _ _ _ _ hx hby X s => XS.lsub X hx rfl (hb hby hd) rfl s
theorem own_Wk.lmul (C : own_Wk Z n0 R y bytes maxL ret l Q G) {a b : Int64} (hd : decode bytes pc = .ok (.lmul, 1)) (hq : pc + 1 = q) (K : G k n H q ls (.long (a * b) :: st)) : G k n H pc ls (.long b :: .long a :: st) := by
  subst hq; exact C.of K fun _ _ _ _ _ _ _ hx hby X s => XS.lmul X hx rfl (hb hby hd) rfl s
theorem own_Wk.land (C : own_Wk Z n0 R y bytes maxL ret l Q G) {a b : Int64} (hd : decode bytes pc = .ok (.land, 1)) (hq : pc + 1 = q) (K : G k n H q ls (.long (a &&& b) :: st)) : G k n H pc ls (.long b :: .long a :: st) := by
  subst hq; exact C.of K fun _ _ _ _ _ _ _ hx hby X s => XS.land X hx rfl (hb hby hd) rfl s
theorem own_Wk.lor (C : own_Wk Z n0 R y bytes maxL ret l Q G) {a b : Int64} (hd : decode bytes pc = .ok (.lor, 1)) (hq : pc + 1 = q) (K : G k n H q ls (.long (a ||| b) :: st)) : G k n H pc ls (.long b :: .long a :: st) := by
  subst hq; exact C.of K fun _ _ _ _ _ _ _ hx hby X s => XS.lor X hx rfl (hb hby hd) rfl s
theorem own_Wk.lxor (C : own_Wk Z n0 R y bytes maxL ret l Q G) {a b : Int64} (hd : decode bytes pc = .ok (.lxor, 1)) (hq : pc + 1 = q) (K : G k n H q ls (.long (a ^^^ b) :: st)) : G k n H pc ls (.long b :: .long a :: st) := by
  subst hq; exact C.of K fun _ _ _ _ _ _ _ hx hby X s => XS.lxor X hx rfl (hb hby hd) rfl s
theorem own_Wk.lshl (C : own_Wk Z n0 R y bytes maxL ret l Q G) {a : Int64} {b : Int32} (hd : decode bytes pc = .ok (.lshl, 1)) (hq : pc + 1 = q) (K : G k n H q ls (.long (a <<< (b &&& 0x3f).toInt64) :: st)) : G k n H pc ls (.int b :: .long a :: st) := by
  subst hq; exact C.of K fun _ _ _ _ _ _ _ hx hby X s => XS.lshl X hx rfl (hb hby hd) rfl s
theorem own_Wk.lshr (C : own_Wk Z n0 R y bytes maxL ret l Q G) {a : Int64} {b : Int32} (hd : decode bytes pc = .ok (.lshr, 1)) (hq : pc + 1 = q) (K : G k n H q ls (.long (a >>> (b &&& 0x3f).toInt64) :: st)) : G k n H pc ls (.int b :: .long a :: st) := by
  subst hq; exact C.of K fun _ _ _ _ _ _ _ hx hby X s => XS.lshr X hx rfl (hb hby hd) rfl s
theorem own_Wk.lushr (C : own_Wk Z n0 R y bytes maxL ret l Q G) {a : Int64} {b : Int32} (hd : decode bytes pc = .ok (.lushr, 1)) (hq : pc + 1 = q) (K : G k n H q ls (.long ((a.toUInt64 >>> (b &&& 0x3f).toInt64.toUInt64).toInt64) :: st)) : G k n H pc ls (.int b :: .long a :: st) := by
  subst hq; exact C.of K fun _ _ _ _ _ _ _ hx hby X s => XS.lushr X hx rfl (hb hby hd) rfl s
theorem own_Wk.idiv (C : own_Wk Z n0 R y bytes maxL ret l Q G) {a b : Int32} (hd : decode bytes pc = .ok (.idiv, 1)) (hy : b ≠ 0) (hq : pc + 1 = q) (K : G k n H q ls (.int (a / b) :: st)) : G k n H pc ls (.int b :: .int a :: st) := by
  subst hq; exact C.of K fun _ _ _ _ _ _ _ hx hby X s => XS.idiv X hx rfl (hb hby hd) rfl hy s
theorem own_Wk.irem (C : own_Wk Z n0 R y bytes maxL ret l Q G) {a b : Int32} (hd : decode bytes pc = .ok (.irem, 1)) (hy : b ≠ 0) (hq : pc + 1 = q) (K : G k n H q ls (.int (a % b) :: st)) : G k n H pc ls (.int b :: .int a :: st) := by
  subst hq; exact C.of K fun _ _ _ _ _ _ _ hx hby X s => XS.irem X hx rfl (hb hby hd) rfl hy (by rw [show a - a / b * b = a % b from irem_eq_mod a b]; exact s)
theorem own_Wk.ldiv (C : own_Wk Z n0 R y bytes maxL ret l Q G) {a b : Int64} (hd : decode bytes pc = .ok (.ldiv, 1)) (hy : b ≠ 0) (hq : pc + 1 = q) (K : G k n H q ls (.long (a / b) :: st)) : G k n H pc ls (.long b :: .long a :: st) := by
  subst hq; exact C.of K fun _ _ _ _ _ _ _ hx hby X s => XS.ldiv X hx rfl (hb hby hd) rfl hy s
theorem own_Wk.lrem (C : own_Wk Z n0 R y bytes maxL ret l Q G) {a b : Int64} (hd : decode bytes pc = .ok (.lrem, 1)) (hy : b ≠ 0) (hq : pc + 1 = q) (K : G k n H q ls (.long (a % b) :: st)) : G k n H pc ls (.long b :: .long a :: st) := by
  subst hq; exact C.of K fun _ _ _ _ _ _ _ hx hby X s => XS.lrem X hx rfl (hb hby hd) rfl hy (by rw [show a - a / b * b = a % b from lrem_mod a b]; exact s)
theorem own_Wk.ineg (C : own_Wk Z n0 R y bytes maxL ret l Q G) {a : Int32} (hd : decode bytes pc = .ok (.ineg, 1)) (hq : pc + 1 = q) (K : G k n H q ls (.int (-a) :: st)) : G k n H pc ls (.int a :: st) := by
  subst hq; exact C.of K fun _ _ _ _ _ _ _ hx hby X s => XS.ineg X hx rfl (hb hby hd) rfl s
theorem own_Wk.lneg (C : own_Wk Z n0 R y bytes maxL ret l Q G) {a : Int64} (hd : decode bytes pc = .ok (.lneg, 1)) (hq : pc + 1 = q) (K : G k n H q ls (.long (-a) :: st)) : G k n H pc ls (.long a :: st) := by
  subst hq; exact C.of K fun _ _ _ _ _ _ _ hx hby X s => XS.lneg X hx rfl (hb hby hd) rfl s
theorem own_Wk.i2l (C : own_Wk Z n0 R y bytes maxL ret l Q G) {a : Int32} (hd : decode bytes pc = .ok (.i2l, 1)) (hq : pc + 1 = q) (K : G k n H q ls (.long (a.toInt64) :: st)) : G k n H pc ls (.int a :: st) := by
  subst hq; exact C.of K fun _ _ _ _ _ _ _ hx hby X s => XS.i2l X hx rfl (hb hby hd) rfl s
theorem own_Wk.l2i (C : own_Wk Z n0 R y bytes maxL ret l Q G) {a : Int64} (hd : decode bytes pc = .ok (.l2i, 1)) (hq : pc + 1 = q) (K : G k n H q ls (.int (a.toInt32) :: st)) : G k n H pc ls (.long a :: st) := by
  subst hq; exact C.of K fun _ _ _ _ _ _ _ hx hby X s => XS.l2i X hx rfl (hb hby hd) rfl s
theorem own_Wk.i2b (C : own_Wk Z n0 R y bytes maxL ret l Q G) {a : Int32} (hd : decode bytes pc = .ok (.i2b, 1)) (hq : pc + 1 = q) (K : G k n H q ls (.int (a.toInt8.toInt32) :: st)) : G k n H pc ls (.int a :: st) := by
  subst hq; exact C.of K fun _ _ _ _ _ _ _ hx hby X s => XS.i2b X hx rfl (hb hby hd) rfl s
theorem own_Wk.dup (C : own_Wk Z n0 R y bytes maxL ret l Q G) {v : Value} (hd : decode bytes pc = .ok (.dup, 1)) (hc : v.category = 1) (hq : pc + 1 = q) (K : G k n H q ls (v :: v :: st)) : G k n H pc ls (v :: st) := by
  subst hq; exact C.of K fun _ _ _ _ _ _ _ hx hby X s => XS.dup X hx rfl (hb hby hd) rfl hc s
theorem own_Wk.pop (C : own_Wk Z n0 R y bytes maxL ret l Q G) {v : Value} (hd : decode bytes pc = .ok (.pop, 1)) (hc : v.category = 1) (hq : pc + 1 = q) (K : G k n H q ls st) : G k n H pc ls (v :: st) := by
  subst hq; exact C.of K fun _ _ _ _ _ _ _ hx hby X s => XS.pop X hx rfl (hb hby hd) rfl hc s
theorem own_Wk.iinc (C : own_Wk Z n0 R y bytes maxL ret l Q G) {j : Nat} {i : Int} {v z : Int32} (hd : decode bytes pc = .ok (.iinc j i, 3)) (hl : (Array.mk ls)[j]? = some (.val (.int v))) (hz : Int32.ofInt i = z) (hl' : storeLocals (Array.mk ls) j (.int (v + z)) = some (Array.mk ls')) (hq : pc + 3 = q) (K : G k n H q ls' st) : G k n H pc ls st := by
  subst hq hz; exact C.of K fun _ _ _ _ _ _ _ hx hby X s => XS.iinc X hx rfl (hb hby hd) hl hl' s
theorem own_Wk.goto (C : own_Wk Z n0 R y bytes maxL ret l Q G) {o : Int} (hd : decode bytes pc = .ok (.goto o, 3)) (ho : 0 ≤ (pc : Int) + o) (hq : ((pc : Int) + o).toNat = q) (K : G k n H q ls st) : G k n H pc ls st := by
  exact C.of K fun _ _ _ _ _ _ _ hx hby X s => XS.goto X hx rfl rfl (hb hby hd) ho hq s
theorem own_Wk.icmpLt (C : own_Wk Z n0 R y bytes maxL ret l Q G) {a b : Int32} {o : Int} (hd : decode bytes pc = .ok (.if_icmp .lt o, 3)) (ho : 0 ≤ (pc : Int) + o) (hq : ((pc : Int) + o).toNat = q) (hq' : pc + 3 = q') (T : a < b → G k n H q ls st) (F : ¬ a < b → G k n H q' ls st) : G k n H pc ls (.int b :: .int a :: st) := by
  subst hq hq'
  by_cases h : a < b
  · exact C.of (T h) fun _ _ _ _ _ _ _ hx hby X s => XS.icmpYes X hx rfl rfl (hb hby hd) rfl (tlt h).1 ho rfl s
  · exact C.of (F h) fun _ _ _ _ _ _ _ hx hby X s => XS.icmpNo X hx rfl (hb hby hd) rfl (flt h).1 s
theorem own_Wk.ifLt (C : own_Wk Z n0 R y bytes maxL ret l Q G) {a : Int32} {o : Int} (hd : decode bytes pc = .ok (.ifCond .lt o, 3)) (ho : 0 ≤ (pc : Int) + o) (hq : ((pc : Int) + o).toNat = q) (hq' : pc + 3 = q') (T : a < 0 → G k n H q ls st) (F : ¬ a < 0 → G k n H q' ls st) : G k n H pc ls (.int a :: st) := by
  subst hq hq'
  by_cases h : a < 0
  · exact C.of (T h) fun _ _ _ _ _ _ _ hx hby X s => XS.ifYes X hx rfl rfl (hb hby hd) rfl ((if0 _ _).trans (tlt h).1) ho rfl s
  · exact C.of (F h) fun _ _ _ _ _ _ _ hx hby X s => XS.ifNo X hx rfl (hb hby hd) rfl ((if0 _ _).trans (flt h).1) s
theorem own_Wk.icmpGe (C : own_Wk Z n0 R y bytes maxL ret l Q G) {a b : Int32} {o : Int} (hd : decode bytes pc = .ok (.if_icmp .ge o, 3)) (ho : 0 ≤ (pc : Int) + o) (hq : ((pc : Int) + o).toNat = q) (hq' : pc + 3 = q') (T : a < b → G k n H q' ls st) (F : ¬ a < b → G k n H q ls st) : G k n H pc ls (.int b :: .int a :: st) := by
  subst hq hq'
  by_cases h : a < b
  · exact C.of (T h) fun _ _ _ _ _ _ _ hx hby X s => XS.icmpNo X hx rfl (hb hby hd) rfl (tlt h).2.1 s
  · exact C.of (F h) fun _ _ _ _ _ _ _ hx hby X s => XS.icmpYes X hx rfl rfl (hb hby hd) rfl (flt h).2.1 ho rfl s
theorem own_Wk.ifGe (C : own_Wk Z n0 R y bytes maxL ret l Q G) {a : Int32} {o : Int} (hd : decode bytes pc = .ok (.ifCond .ge o, 3)) (ho : 0 ≤ (pc : Int) + o) (hq : ((pc : Int) + o).toNat = q) (hq' : pc + 3 = q') (T : a < 0 → G k n H q' ls st) (F : ¬ a < 0 → G k n H q ls st) : G k n H pc ls (.int a :: st) := by
  subst hq hq'
  by_cases h : a < 0
  · exact C.of (T h) fun _ _ _ _ _ _ _ hx hby X s => XS.ifNo X hx rfl (hb hby hd) rfl ((if0 _ _).trans (tlt h).2.1) s
  · exact C.of (F h) fun _ _ _ _ _ _ _ hx hby X s => XS.ifYes X hx rfl rfl (hb hby hd) rfl ((if0 _ _).trans (flt h).2.1) ho rfl s
theorem own_Wk.icmpGt (C : own_Wk Z n0 R y bytes maxL ret l Q G) {a b : Int32} {o : Int} (hd : decode bytes pc = .ok (.if_icmp .gt o, 3)) (ho : 0 ≤ (pc : Int) + o) (hq : ((pc : Int) + o).toNat = q) (hq' : pc + 3 = q') (T : b < a → G k n H q ls st) (F : ¬ b < a → G k n H q' ls st) : G k n H pc ls (.int b :: .int a :: st) := by
  subst hq hq'
  by_cases h : b < a
  · exact C.of (T h) fun _ _ _ _ _ _ _ hx hby X s => XS.icmpYes X hx rfl rfl (hb hby hd) rfl (tlt h).2.2.1 ho rfl s
  · exact C.of (F h) fun _ _ _ _ _ _ _ hx hby X s => XS.icmpNo X hx rfl (hb hby hd) rfl (flt h).2.2.1 s
theorem own_Wk.ifGt (C : own_Wk Z n0 R y bytes maxL ret l Q G) {a : Int32} {o : Int} (hd : decode bytes pc = .ok (.ifCond .gt o, 3)) (ho : 0 ≤ (pc : Int) + o) (hq : ((pc : Int) + o).toNat = q) (hq' : pc + 3 = q') (T : 0 < a → G k n H q ls st) (F : ¬ 0 < a → G k n H q' ls st) : G k n H pc ls (.int a :: st) := by
  subst hq hq'
  by_cases h : 0 < a
  · exact C.of (T h) fun _ _ _ _ _ _ _ hx hby X s => XS.ifYes X hx rfl rfl (hb hby hd) rfl ((if0 _ _).trans (tlt h).2.2.1) ho rfl s
  · exact C.of (F h) fun _ _ _ _ _ _ _ hx hby X s => XS.ifNo X hx rfl (hb hby hd) rfl ((if0 _ _).trans (flt h).2.2.1) s
theorem own_Wk.icmpLe (C : own_Wk Z n0 R y bytes maxL ret l Q G) {a b : Int32} {o : Int} (hd : decode bytes pc = .ok (.if_icmp .le o, 3)) (ho : 0 ≤ (pc : Int) + o) (hq : ((pc : Int) + o).toNat = q) (hq' : pc + 3 = q') (T : b < a → G k n H q' ls st) (F : ¬ b < a → G k n H q ls st) : G k n H pc ls (.int b :: .int a :: st) := by
  subst hq hq'
  by_cases h : b < a
  · exact C.of (T h) fun _ _ _ _ _ _ _ hx hby X s => XS.icmpNo X hx rfl (hb hby hd) rfl (tlt h).2.2.2 s
  · exact C.of (F h) fun _ _ _ _ _ _ _ hx hby X s => XS.icmpYes X hx rfl rfl (hb hby hd) rfl (flt h).2.2.2 ho rfl s
theorem own_Wk.ifLe (C : own_Wk Z n0 R y bytes maxL ret l Q G) {a : Int32} {o : Int} (hd : decode bytes pc = .ok (.ifCond .le o, 3)) (ho : 0 ≤ (pc : Int) + o) (hq : ((pc : Int) + o).toNat = q) (hq' : pc + 3 = q') (T : 0 < a → G k n H q' ls st) (F : ¬ 0 < a → G k n H q ls st) : G k n H pc ls (.int a :: st) := by
  subst hq hq'
  by_cases h : 0 < a
  · exact C.of (T h) fun _ _ _ _ _ _ _ hx hby X s => XS.ifNo X hx rfl (hb hby hd) rfl ((if0 _ _).trans (tlt h).2.2.2) s
  · exact C.of (F h) fun _ _ _ _ _ _ _ hx hby X s => XS.ifYes X hx rfl rfl (hb hby hd) rfl ((if0 _ _).trans (flt h).2.2.2) ho rfl s
theorem own_Wk.icmpEq (C : own_Wk Z n0 R y bytes maxL ret l Q G) {a b : Int32} {o : Int} (hd : decode bytes pc = .ok (.if_icmp .eq o, 3)) (ho : 0 ≤ (pc : Int) + o) (hq : ((pc : Int) + o).toNat = q) (hq' : pc + 3 = q') (T : a = b → G k n H q ls st) (F : ¬ a = b → G k n H q' ls st) : G k n H pc ls (.int b :: .int a :: st) := by
  subst hq hq'
  by_cases h : a = b
  · exact C.of (T h) fun _ _ _ _ _ _ _ hx hby X s => XS.icmpYes X hx rfl rfl (hb hby hd) rfl (teq h).1 ho rfl s
  · exact C.of (F h) fun _ _ _ _ _ _ _ hx hby X s => XS.icmpNo X hx rfl (hb hby hd) rfl (feq h).1 s
theorem own_Wk.ifEq (C : own_Wk Z n0 R y bytes maxL ret l Q G) {a : Int32} {o : Int} (hd : decode bytes pc = .ok (.ifCond .eq o, 3)) (ho : 0 ≤ (pc : Int) + o) (hq : ((pc : Int) + o).toNat = q) (hq' : pc + 3 = q') (T : a = 0 → G k n H q ls st) (F : ¬ a = 0 → G k n H q' ls st) : G k n H pc ls (.int a :: st) := by
  subst hq hq'
  by_cases h : a = 0
  · exact C.of (T h) fun _ _ _ _ _ _ _ hx hby X s => XS.ifYes X hx rfl rfl (hb hby hd) rfl ((if0 _ _).trans (teq h).1) ho rfl s
  · exact C.of (F h) fun _ _ _ _ _ _ _ hx hby X s => XS.ifNo X hx rfl (hb hby hd) rfl ((if0 _ _).trans (feq h).1) s
theorem own_Wk.icmpNe (C : own_Wk Z n0 R y bytes maxL ret l Q G) {a b : Int32} {o : Int} (hd : decode bytes pc = .ok (.if_icmp .ne o, 3)) (ho : 0 ≤ (pc : Int) + o) (hq : ((pc : Int) + o).toNat = q) (hq' : pc + 3 = q') (T : a = b → G k n H q' ls st) (F : ¬ a = b → G k n H q ls st) : G k n H pc ls (.int b :: .int a :: st) := by
  subst hq hq'
  by_cases h : a = b
  · exact C.of (T h) fun _ _ _ _ _ _ _ hx hby X s => XS.icmpNo X hx rfl (hb hby hd) rfl (teq h).2 s
  · exact C.of (F h) fun _ _ _ _ _ _ _ hx hby X s => XS.icmpYes X hx rfl rfl (hb hby hd) rfl (feq h).2 ho rfl s
theorem own_Wk.ifNe (C : own_Wk Z n0 R y bytes maxL ret l Q G) {a : Int32} {o : Int} (hd : decode bytes pc = .ok (.ifCond .ne o, 3)) (ho : 0 ≤ (pc : Int) + o) (hq : ((pc : Int) + o).toNat = q) (hq' : pc + 3 = q') (T : a = 0 → G k n H q' ls st) (F : ¬ a = 0 → G k n H q ls st) : G k n H pc ls (.int a :: st) := by
  subst hq hq'
  by_cases h : a = 0
  · exact C.of (T h) fun _ _ _ _ _ _ _ hx hby X s => XS.ifNo X hx rfl (hb hby hd) rfl ((if0 _ _).trans (teq h).2) s
  · exact C.of (F h) fun _ _ _ _ _ _ _ hx hby X s => XS.ifYes X hx rfl rfl (hb hby hd) rfl ((if0 _ _).trans (feq h).2) ho rfl s
theorem own_Wk.lcmp0 (C : own_Wk Z n0 R y bytes maxL ret l Q G) {a b : Int64} (hd : decode bytes pc = .ok (.lcmp, 1)) (hq : pc + 1 = q) (K : G k n H q ls (.int (lcmpW a b) :: st)) : G k n H pc ls (.long b :: .long a :: st) := by
  subst hq; exact C.of K fun _ _ _ _ _ _ _ hx hby X s => XS.lcmp X hx rfl (hb hby hd) rfl s
theorem own_Wk.lcmpLt (C : own_Wk Z n0 R y bytes maxL ret l Q G) {a b : Int64} {o : Int} (hd : decode bytes pc = .ok (.lcmp, 1)) {q1 : Nat} (h1 : pc + 1 = q1) (hd1 : decode bytes q1 = .ok (.ifCond .lt o, 3)) (ho : 0 ≤ (q1 : Int) + o) (hq : ((q1 : Int) + o).toNat = q) (hq' : q1 + 3 = q') (T : a < b → G k n H q ls st) (F : ¬ a < b → G k n H q' ls st) : G k n H pc ls (.long b :: .long a :: st) :=
  C.lcmp0 hd h1 (C.ifLt hd1 ho hq hq' (fun h => T ((lw_lt a b).mp h)) (fun h => F fun h' => h ((lw_lt a b).mpr h')))
theorem own_Wk.lcmpGe (C : own_Wk Z n0 R y bytes maxL ret l Q G) {a b : Int64} {o : Int} (hd : decode bytes pc = .ok (.lcmp, 1)) {q1 : Nat} (h1 : pc + 1 = q1) (hd1 : decode bytes q1 = .ok (.ifCond .ge o, 3)) (ho : 0 ≤ (q1 : Int) + o) (hq : ((q1 : Int) + o).toNat = q) (hq' : q1 + 3 = q') (T : a < b → G k n H q' ls st) (F : ¬ a < b → G k n H q ls st) : G k n H pc ls (.long b :: .long a :: st) :=
  C.lcmp0 hd h1 (C.ifGe hd1 ho hq hq' (fun h => T ((lw_lt a b).mp h)) (fun h => F fun h' => h ((lw_lt a b).mpr h')))
theorem own_Wk.lcmpGt (C : own_Wk Z n0 R y bytes maxL ret l Q G) {a b : Int64} {o : Int} (hd : decode bytes pc = .ok (.lcmp, 1)) {q1 : Nat} (h1 : pc + 1 = q1) (hd1 : decode bytes q1 = .ok (.ifCond .gt o, 3)) (ho : 0 ≤ (q1 : Int) + o) (hq : ((q1 : Int) + o).toNat = q) (hq' : q1 + 3 = q') (T : b < a → G k n H q ls st) (F : ¬ b < a → G k n H q' ls st) : G k n H pc ls (.long b :: .long a :: st) :=
  C.lcmp0 hd h1 (C.ifGt hd1 ho hq hq' (fun h => T ((lw_gt a b).mp h)) (fun h => F fun h' => h ((lw_gt a b).mpr h')))
theorem own_Wk.lcmpLe (C : own_Wk Z n0 R y bytes maxL ret l Q G) {a b : Int64} {o : Int} (hd : decode bytes pc = .ok (.lcmp, 1)) {q1 : Nat} (h1 : pc + 1 = q1) (hd1 : decode bytes q1 = .ok (.ifCond .le o, 3)) (ho : 0 ≤ (q1 : Int) + o) (hq : ((q1 : Int) + o).toNat = q) (hq' : q1 + 3 = q') (T : b < a → G k n H q' ls st) (F : ¬ b < a → G k n H q ls st) : G k n H pc ls (.long b :: .long a :: st) :=
  C.lcmp0 hd h1 (C.ifLe hd1 ho hq hq' (fun h => T ((lw_gt a b).mp h)) (fun h => F fun h' => h ((lw_gt a b).mpr h')))
theorem own_Wk.lcmpEq (C : own_Wk Z n0 R y bytes maxL ret l Q G) {a b : Int64} {o : Int} (hd : decode bytes pc = .ok (.lcmp, 1)) {q1 : Nat} (h1 : pc + 1 = q1) (hd1 : decode bytes q1 = .ok (.ifCond .eq o, 3)) (ho : 0 ≤ (q1 : Int) + o) (hq : ((q1 : Int) + o).toNat = q) (hq' : q1 + 3 = q') (T : a = b → G k n H q ls st) (F : ¬ a = b → G k n H q' ls st) : G k n H pc ls (.long b :: .long a :: st) :=
  C.lcmp0 hd h1 (C.ifEq hd1 ho hq hq' (fun h => T ((lw_eq a b).mp h)) (fun h => F fun h' => h ((lw_eq a b).mpr h')))
theorem own_Wk.lcmpNe (C : own_Wk Z n0 R y bytes maxL ret l Q G) {a b : Int64} {o : Int} (hd : decode bytes pc = .ok (.lcmp, 1)) {q1 : Nat} (h1 : pc + 1 = q1) (hd1 : decode bytes q1 = .ok (.ifCond .ne o, 3)) (ho : 0 ≤ (q1 : Int) + o) (hq : ((q1 : Int) + o).toNat = q) (hq' : q1 + 3 = q') (T : a = b → G k n H q' ls st) (F : ¬ a = b → G k n H q ls st) : G k n H pc ls (.long b :: .long a :: st) :=
  C.lcmp0 hd h1 (C.ifNe hd1 ho hq hq' (fun h => T ((lw_eq a b).mp h)) (fun h => F fun h' => h ((lw_eq a b).mpr h')))
theorem own_Wk.nonnullY (C : own_Wk Z n0 R y bytes maxL ret l Q G) {b : Addr} {o : Int} (hd : decode bytes pc = .ok (.ifnonnull o, 3)) (ho : 0 ≤ (pc : Int) + o) (hq : ((pc : Int) + o).toNat = q) (K : G k n H q ls st) : G k n H pc ls (.ref b :: st) := by
  exact C.of K fun _ _ _ _ _ _ _ hx hby X s => XS.ifnonnullYes X hx rfl rfl (hb hby hd) rfl ho hq s
theorem own_Wk.nonnullN (C : own_Wk Z n0 R y bytes maxL ret l Q G) {o : Int} (hd : decode bytes pc = .ok (.ifnonnull o, 3)) (hq : pc + 3 = q) (K : G k n H q ls st) : G k n H pc ls (.null :: st) := by
  subst hq; exact C.of K fun _ _ _ _ _ _ _ hx hby X s => XS.ifnonnullNo X hx rfl (hb hby hd) rfl s
theorem own_Wk.ldc (C : own_Wk Z n0 R y bytes maxL ret l Q G) {i : Nat} {v : Int32} (hd : decode bytes pc = .ok (.ldc i, 2)) (w : (Jvm.Cond.constant y.cls i v).before a0 Z = true) (hq : pc + 2 = q) (K : G k n H q ls (.int v :: st)) : G k n H pc ls st := by
  subst hq
  obtain ⟨p, e, s, m, args, below, meth, c, rfl, hx, hZ, hby, hml, hown, hnm, hret, hlk⟩ := C
  intro T L X N hH
  obtain ⟨t, o, stp, P⟩ := K T L X N hH
  exact ⟨t, o, X.ldcInt hx hown (mvT hZ w) (g := mkF m pc ⟨ls⟩ st) rfl (hb hby hd) _ stp, P⟩
theorem own_Wk.ldc2 (C : own_Wk Z n0 R y bytes maxL ret l Q G) {i : Nat} {v : Int64} (hd : decode bytes pc = .ok (.ldc2_w i, 3)) (w : (Jvm.Cond.constantLong y.cls i v).before a0 Z = true) (hq : pc + 3 = q) (K : G k n H q ls (.long v :: st)) : G k n H pc ls st := by
  subst hq
  obtain ⟨p, e, s, m, args, below, meth, c, rfl, hx, hZ, hby, hml, hown, hnm, hret, hlk⟩ := C
  intro T L X N hH
  obtain ⟨t, o, stp, P⟩ := K T L X N hH
  exact ⟨t, o, X.ldc2Long hx hown (mvT hZ w) (g := mkF m pc ⟨ls⟩ st) rfl (hb hby hd) _ stp, P⟩
-- returns
theorem own_Wk.retI {z : Int32} (C : own_Wk Z n0 R y bytes maxL (some .int) l Q G) (hd : decode bytes pc = .ok (.ireturn, 1)) (hk : k ≤ R.cells) (hn : n ≤ R.slots) (hQ : Q (some (.int z)) H) : G k n H pc ls (.int z :: st) := by
  obtain ⟨p, e, s, m, args, below, meth, c, rfl, hx, hZ, hby, hml, hown, hnm, hret, hlk⟩ := C
  intro T L X N hH
  obtain ⟨fs, hr, hrun, hended, hW, hsame⟩ := X.leave (v := some (.int z)) (fun h => by rw [hret] at h; cases h) hlk
  exact ⟨_, _, retOut X hx hret rfl (Or.inl ⟨rfl, Or.inl rfl, z, rfl⟩) (hb hby hd) hr, hrun, hended, _, _, rfl, ⟨N, H, hH, hQ⟩, ⟨_, rfl⟩, hW, hsame.mono hk hn⟩
theorem own_Wk.retJ {z : Int64} (C : own_Wk Z n0 R y bytes maxL (some .long) l Q G) (hd : decode bytes pc = .ok (.lreturn, 1)) (hk : k ≤ R.cells) (hn : n ≤ R.slots) (hQ : Q (some (.long z)) H) : G k n H pc ls (.long z :: st) := by
  obtain ⟨p, e, s, m, args, below, meth, c, rfl, hx, hZ, hby, hml, hown, hnm, hret, hlk⟩ := C
  intro T L X N hH
  obtain ⟨fs, hr, hrun, hended, hW, hsame⟩ := X.leave (v := some (.long z)) (fun h => by rw [hret] at h; cases h) hlk
  exact ⟨_, _, retOut X hx hret rfl (Or.inr (Or.inl ⟨rfl, rfl, z, rfl⟩)) (hb hby hd) hr, hrun, hended, _, _, rfl, ⟨N, H, hH, hQ⟩, ⟨_, rfl⟩, hW, hsame.mono hk hn⟩
theorem own_Wk.retA {t : FieldType} {v : Value} (C : own_Wk Z n0 R y bytes maxL (some t) l Q G) (ht : t.isReference = true) (hn' : narrow t v = v) (hv : v.isRef = true) (hd : decode bytes pc = .ok (.areturn, 1)) (hk : k ≤ R.cells) (hn : n ≤ R.slots) (hQ : Q (some v) H) : G k n H pc ls (v :: st) := by
  obtain ⟨p, e, s, m, args, below, meth, c, rfl, hx, hZ, hby, hml, hown, hnm, hret, hlk⟩ := C
  intro T L X N hH
  obtain ⟨fs, hr, hrun, hended, hW, hsame⟩ := X.leave (v := some v) (fun h => by rw [hret] at h; cases h) hlk
  exact ⟨_, _, retOut X hx hret hn' (Or.inr (Or.inr (Or.inr (Or.inr ⟨rfl, ht, hv⟩)))) (hb hby hd) hr, hrun, hended, _, _, rfl, ⟨N, H, hH, hQ⟩, ⟨_, rfl⟩, hW, hsame.mono hk hn⟩
theorem own_Wk.retB {t : FieldType} {z : Int32} (C : own_Wk Z n0 R y bytes maxL (some t) l Q G) (ht : t = .boolean ∨ t = .byte ∨ t = .char ∨ t = .short) (hd : decode bytes pc = .ok (.ireturn, 1)) (hk : k ≤ R.cells) (hn : n ≤ R.slots) (hQ : Q (some (.int (nar t z))) H) : G k n H pc ls (.int z :: st) := by
  obtain ⟨p, e, s, m, args, below, meth, c, rfl, hx, hZ, hby, hml, hown, hnm, hret, hlk⟩ := C
  intro T L X N hH
  obtain ⟨fs, hr, hrun, hended, hW, hsame⟩ := X.leave (v := some (.int (nar t z))) (fun h => by rw [hret] at h; cases h) hlk
  exact ⟨_, _, retN X hx hret ht (hb hby hd) hr, hrun, hended, _, _, rfl, ⟨N, H, hH, hQ⟩, ⟨_, rfl⟩, hW, hsame.mono hk hn⟩
theorem own_Wk.retV (C : own_Wk Z n0 R y bytes maxL none l Q G) (hd : decode bytes pc = .ok (.return_, 1)) (hk : k ≤ R.cells) (hn : n ≤ R.slots) (hQ : Q none H) : G k n H pc ls [] := by
  obtain ⟨p, e, s, m, args, below, meth, c, rfl, hx, hZ, hby, hml, hown, hnm, hret, hlk⟩ := C
  intro T L X N hH
  obtain ⟨fs, hr, hrun, hended, hW, hsame⟩ := X.leave (v := none) (fun _ => rfl) hlk
  exact ⟨_, _, X.returnOut hx hret (hb hby hd) hr, hrun, hended, _, _, rfl, ⟨N, H, hH, hQ⟩, ⟨_, rfl⟩, hW, hsame.mono hk hn⟩
-- the abstract heap
theorem own_is_ext {h h' : Heap} {a : Addr} {o : own_Ob} (E : Ext h h') (F : own_is Z h a o) : own_is Z h' a o := by
  match o, F with
  | .inl q, F => obtain ⟨c, A, r⟩ := F; exact ⟨c, A.ext E, r⟩
  | .inr q, F => exact ⟨F.1.ext E, F.2.1, fun i f hf => (F.2.2 i f hf).ext E⟩
theorem own_is_ne {h h' : Heap} {a b : Addr} {sl : Nat} {v : Value} {o : own_Ob} (W : Wr h h' a sl v) (hne : b ≠ a) (F : own_is Z h b o) : own_is Z h' b o := by
  match o, F with
  | .inl q, F => obtain ⟨c, A, r⟩ := F; exact ⟨c, A.other W hne, r⟩
  | .inr q, F => exact ⟨F.1.wr W, F.2.1, fun i f hf => (F.2.2 i f hf).other W (Or.inl hne)⟩
theorem own_Hp_new {h h' : Heap} {o : own_Ob} (P : own_Hp Z n0 h H) (E : Ext h h') (hlt : h.size < h'.size) (F : own_is Z h' h.size o) : own_Hp Z n0 h' (H ++ [(h.size, o)]) := by
  obtain ⟨p1, p2, p3⟩ := P
  have key : ∀ (i : Nat) (a : Addr) (o' : own_Ob), (H ++ [(h.size, o)])[i]? = some (a, o') → (H[i]? = some (a, o') ∧ i < H.length) ∨ (i = H.length ∧ a = h.size ∧ o' = o) := by
    intro i a o' hi
    by_cases q : i < H.length
    · rw [List.getElem?_append_left q] at hi; exact Or.inl ⟨hi, q⟩
    · rw [List.getElem?_append_right (by omega)] at hi
      obtain ⟨j, hj⟩ : ∃ j, j = i - H.length := ⟨_, rfl⟩
      rw [← hj] at hi
      match j, hj, hi with
      | 0, hj, hi => exact Or.inr ⟨by omega, by simpa using (Prod.mk.inj (Option.some.inj hi)).1.symm, by simpa using (Prod.mk.inj (Option.some.inj hi)).2.symm⟩
      | j + 1, _, hi => simp at hi
  refine ⟨Nat.le_trans p1 E.1, fun i j a o1 o2 hi hj => ?_, fun i a o' hi => ?_⟩
  · rcases key i a o1 hi with ⟨h1, l1⟩ | ⟨h1, h2, -⟩ <;> rcases key j a o2 hj with ⟨g1, l2⟩ | ⟨g1, g2, -⟩
    · exact p2 i j a o1 o2 h1 g1
    · exact absurd (p3 i a o1 h1).2.1 (by rw [g2]; exact Nat.lt_irrefl _)
    · exact absurd (p3 j a o2 g1).2.1 (by rw [h2]; exact Nat.lt_irrefl _)
    · rw [h1, g1]
  · rcases key i a o' hi with ⟨h1, -⟩ | ⟨-, rfl, rfl⟩
    · obtain ⟨r1, r2, r3⟩ := p3 i a o' h1
      exact ⟨r1, Nat.lt_of_lt_of_le r2 E.1, own_is_ext E r3⟩
    · exact ⟨p1, hlt, F⟩
theorem own_Hp_set {h h' : Heap} {i : Nat} {a : Addr} {o o' : own_Ob} {sl : Nat} {v : Value} (P : own_Hp Z n0 h H) (hi : H[i]? = some (a, o)) (W : Wr h h' a sl v) (F : own_is Z h' a o') : own_Hp Z n0 h' (H.set i (a, o')) := by
  obtain ⟨p1, p2, p3⟩ := P
  have key : ∀ (j : Nat) (b : Addr) (ob : own_Ob), (H.set i (a, o'))[j]? = some (b, ob) → (j = i ∧ b = a ∧ ob = o') ∨ (j ≠ i ∧ H[j]? = some (b, ob)) := by
    intro j b ob hj
    rw [List.getElem?_set] at hj
    by_cases q : i = j
    · subst q
      rw [if_pos rfl] at hj
      split at hj
      · exact Or.inl ⟨rfl, (Prod.mk.inj (Option.some.inj hj)).1.symm, (Prod.mk.inj (Option.some.inj hj)).2.symm⟩
      · cases hj
    · rw [if_neg q] at hj; exact Or.inr ⟨fun z => q z.symm, hj⟩
  refine ⟨by rw [W.size]; exact p1, fun j j' b o1 o2 hj hj' => ?_, fun j b ob hj => ?_⟩
  · rcases key j b o1 hj with ⟨h1, h2, -⟩ | ⟨h1, h2⟩ <;> rcases key j' b o2 hj' with ⟨g1, g2, -⟩ | ⟨g1, g2⟩
    · rw [h1, g1]
    · subst h2; rw [h1]; exact p2 i j' _ o o2 hi g2
    · subst g2; rw [g1]; exact (p2 i j _ o o1 hi h2).symm
    · exact p2 j j' b o1 o2 h2 g2
  · rw [W.size]
    rcases key j b ob hj with ⟨-, rfl, rfl⟩ | ⟨h1, h2⟩
    · obtain ⟨r1, r2, -⟩ := p3 i _ _ hi; exact ⟨r1, r2, F⟩
    · obtain ⟨r1, r2, r3⟩ := p3 j b ob h2
      exact ⟨r1, r2, own_is_ne W (fun z => h1 (by subst z; exact (p2 i j _ o ob hi h2).symm)) r3⟩
-- arrays
theorem own_Wk.alen (C : own_Wk Z n0 R y bytes maxL ret l Q G) (i : Nat) {a : Addr} {ty : FieldType} {vs : List Value} {z : Int32} (hd : decode bytes pc = .ok (.arraylength, 1)) (hi : H[i]? = some (a, .inl (ty, vs))) (hz : vs.length.toInt32 = z) (hq : pc + 1 = q) (K : G k n H q ls (.int z :: st)) : G k n H pc ls (.ref a :: st) := by
  subst hq hz
  obtain ⟨p, e, s, m, args, below, meth, c, rfl, hx, hZ, hby, hml, hown, hnm, hret, hlk⟩ := C
  intro T L X N hH
  obtain ⟨-, -, cl, A, hc⟩ := hH.2.2 i _ _ hi
  obtain ⟨t, o, stp, P⟩ := K T L X N hH
  have hc' : cl.slots.toList = vs := hc
  refine ⟨t, o, X.arraylength hx (cell := cl) A.1 (State.isArrayOf_alike hZ.alike A.2.1) (g := mkF m pc ⟨ls⟩ (.ref a :: st)) rfl rfl (hb hby hd) _ ?_, P⟩
  rw [show cl.slots.size = vs.length by rw [← hc', Array.length_toList]]
  exact stp
theorem own_at {cl : Cell} {vs : List Value} {j : Int32} {v : Value} (hc : cl.slots.toList = vs) (h0 : ¬ j < 0) (hv : vs[j.toNatClampNeg]? = some v) : ¬ (j < 0 ∨ cl.slots.size ≤ j.toNatClampNeg) ∧ cl.slots[j.toNatClampNeg]? = some v := by
  rw [← hc, Array.getElem?_toList] at hv
  exact ⟨fun z => z.elim h0 fun z => by have := (Array.getElem?_eq_some_iff.mp hv).1; omega, hv⟩
theorem own_in {cl : Cell} {vs : List Value} {j : Int32} (hc : cl.slots.toList = vs) (h0 : ¬ j < 0) (hj : j.toNatClampNeg < vs.length) : ¬ (j < 0 ∨ cl.slots.size ≤ j.toNatClampNeg) :=
  fun z => z.elim h0 fun z => by rw [← hc, Array.length_toList] at hj; omega
theorem own_Wk.iaload (C : own_Wk Z n0 R y bytes maxL ret l Q G) (i : Nat) {a : Addr} {vs : List Value} {j : Int32} {v : Value} (hd : decode bytes pc = .ok (.iaload, 1)) (hi : H[i]? = some (a, .inl (.int, vs))) (h0 : ¬ j < 0) (hv : vs[j.toNatClampNeg]? = some v) (hq : pc + 1 = q) (K : G k n H q ls (v :: st)) : G k n H pc ls (.int j :: .ref a :: st) := by
  subst hq
  obtain ⟨p, e, s, m, args, below, meth, c, rfl, hx, hZ, hby, hml, hown, hnm, hret, hlk⟩ := C
  intro T L X N hH
  obtain ⟨-, -, cl, A, hc⟩ := hH.2.2 i _ _ hi
  obtain ⟨t, o, stp, P⟩ := K T L X N hH
  have q2 := own_at hc h0 hv
  exact ⟨t, o, X.iaload hx (j := j) (v := v) A.1 (State.isArrayOf_alike hZ.alike A.2.1) A.2.2 q2.1 q2.2 (g := mkF m pc ⟨ls⟩ (.int j :: .ref a :: st)) rfl rfl (hb hby hd) _ stp, P⟩
theorem own_Wk.laload (C : own_Wk Z n0 R y bytes maxL ret l Q G) (i : Nat) {a : Addr} {vs : List Value} {j : Int32} {v : Value} (hd : decode bytes pc = .ok (.laload, 1)) (hi : H[i]? = some (a, .inl (.long, vs))) (h0 : ¬ j < 0) (hv : vs[j.toNatClampNeg]? = some v) (hq : pc + 1 = q) (K : G k n H q ls (v :: st)) : G k n H pc ls (.int j :: .ref a :: st) := by
  subst hq
  obtain ⟨p, e, s, m, args, below, meth, c, rfl, hx, hZ, hby, hml, hown, hnm, hret, hlk⟩ := C
  intro T L X N hH
  obtain ⟨-, -, cl, A, hc⟩ := hH.2.2 i _ _ hi
  obtain ⟨t, o, stp, P⟩ := K T L X N hH
  have q2 := own_at hc h0 hv
  exact ⟨t, o, X.laload hx (j := j) (v := v) A.1 (State.isArrayOf_alike hZ.alike A.2.1) A.2.2 q2.1 q2.2 (g := mkF m pc ⟨ls⟩ (.int j :: .ref a :: st)) rfl rfl (hb hby hd) _ stp, P⟩
theorem own_Wk.baload (C : own_Wk Z n0 R y bytes maxL ret l Q G) (i : Nat) {a : Addr} {vs : List Value} {j : Int32} {v : Value} (hd : decode bytes pc = .ok (.baload, 1)) (hi : H[i]? = some (a, .inl (.byte, vs))) (h0 : ¬ j < 0) (hv : vs[j.toNatClampNeg]? = some v) (hq : pc + 1 = q) (K : G k n H q ls (v :: st)) : G k n H pc ls (.int j :: .ref a :: st) := by
  subst hq
  obtain ⟨p, e, s, m, args, below, meth, c, rfl, hx, hZ, hby, hml, hown, hnm, hret, hlk⟩ := C
  intro T L X N hH
  obtain ⟨-, -, cl, A, hc⟩ := hH.2.2 i _ _ hi
  obtain ⟨t, o, stp, P⟩ := K T L X N hH
  have q2 := own_at hc h0 hv
  exact ⟨t, o, X.baloadBytes hx (j := j) (v := v) A.1 (State.isArrayOf_alike hZ.alike A.2.1) A.2.2 q2.1 q2.2 (g := mkF m pc ⟨ls⟩ (.int j :: .ref a :: st)) rfl rfl (hb hby hd) _ stp, P⟩
theorem own_arr_set {h h' : Heap} {a : Addr} {cl : Cell} {ty : FieldType} {vs : List Value} {j : Nat} {v : Value} (A : Arr Z h a cl ty) (hc : cl.slots.toList = vs) (W : Wr h h' a j v) : own_is Z h' a (.inl (ty, vs.set j v)) := by
  refine ⟨cl.setSlot j v, A.same W, ?_⟩
  show (cl.slots.setIfInBounds j v).toList = vs.set j v
  rw [Array.toList_setIfInBounds, hc]
theorem own_Wk.iastore (C : own_Wk Z n0 R y bytes maxL ret l Q G) (i : Nat) {a : Addr} {vs : List Value} {j x : Int32} {H' : own_Hs} (hd : decode bytes pc = .ok (.iastore, 1)) (hi : H[i]? = some (a, .inl (.int, vs))) (h0 : ¬ j < 0) (hj : j.toNatClampNeg < vs.length) (hH' : H.set i (a, .inl (.int, vs.set j.toNatClampNeg (.int x))) = H') (hq : pc + 1 = q) (K : G k n H' q ls st) : G k n H pc ls (.int x :: .int j :: .ref a :: st) := by
  subst hq hH'
  obtain ⟨p, e, s, m, args, below, meth, c, rfl, hx, hZ, hby, hml, hown, hnm, hret, hlk⟩ := C
  intro T L X N hH
  obtain ⟨g1, -, cl, A, hc⟩ := hH.2.2 i _ _ hi
  obtain ⟨T', h', X', e', W, stp⟩ := stI X hx hZ rfl A (own_in hc h0 hj) (g := mkF m pc ⟨ls⟩ (.int x :: .int j :: .ref a :: st)) rfl rfl (hb hby hd)
  obtain ⟨t, o, st2, P⟩ := K T' _ X' (Fr.snoc X' N g1) (by rw [e']; exact own_Hp_set hH hi W (own_arr_set A hc W))
  exact ⟨t, o, stp _ st2, P⟩
theorem own_Wk.lastore (C : own_Wk Z n0 R y bytes maxL ret l Q G) (i : Nat) {a : Addr} {vs : List Value} {j : Int32} {x : Int64} {H' : own_Hs} (hd : decode bytes pc = .ok (.lastore, 1)) (hi : H[i]? = some (a, .inl (.long, vs))) (h0 : ¬ j < 0) (hj : j.toNatClampNeg < vs.length) (hH' : H.set i (a, .inl (.long, vs.set j.toNatClampNeg (.long x))) = H') (hq : pc + 1 = q) (K : G k n H' q ls st) : G k n H pc ls (.long x :: .int j :: .ref a :: st) := by
  subst hq hH'
  obtain ⟨p, e, s, m, args, below, meth, c, rfl, hx, hZ, hby, hml, hown, hnm, hret, hlk⟩ := C
  intro T L X N hH
  obtain ⟨g1, -, cl, A, hc⟩ := hH.2.2 i _ _ hi
  obtain ⟨T', h', X', e', W, stp⟩ := stJ X hx hZ rfl A (own_in hc h0 hj) (g := mkF m pc ⟨ls⟩ (.long x :: .int j :: .ref a :: st)) rfl rfl (hb hby hd)
  obtain ⟨t, o, st2, P⟩ := K T' _ X' (Fr.snoc X' N g1) (by rw [e']; exact own_Hp_set hH hi W (own_arr_set A hc W))
  exact ⟨t, o, stp _ st2, P⟩
theorem own_Wk.bastore (C : own_Wk Z n0 R y bytes maxL ret l Q G) (i : Nat) {a : Addr} {vs : List Value} {j x : Int32} {H' : own_Hs} (hd : decode bytes pc = .ok (.bastore, 1)) (hi : H[i]? = some (a, .inl (.byte, vs))) (h0 : ¬ j < 0) (hj : j.toNatClampNeg < vs.length) (hH' : H.set i (a, .inl (.byte, vs.set j.toNatClampNeg (.int (nar .byte x)))) = H') (hq : pc + 1 = q) (K : G k n H' q ls st) : G k n H pc ls (.int x :: .int j :: .ref a :: st) := by
  subst hq hH'
  obtain ⟨p, e, s, m, args, below, meth, c, rfl, hx, hZ, hby, hml, hown, hnm, hret, hlk⟩ := C
  intro T L X N hH
  obtain ⟨g1, -, cl, A, hc⟩ := hH.2.2 i _ _ hi
  obtain ⟨T', h', X', e', W, stp⟩ := stB X hx hZ rfl A (own_in hc h0 hj) (g := mkF m pc ⟨ls⟩ (.int x :: .int j :: .ref a :: st)) rfl rfl (hb hby hd)
  obtain ⟨t, o, st2, P⟩ := K T' _ X' (Fr.snoc X' N g1) (by rw [e']; exact own_Hp_set hH hi W (own_arr_set A hc W))
  exact ⟨t, o, stp _ st2, P⟩
theorem own_Wk.newarr (C : own_Wk Z n0 R y bytes maxL ret l Q G) (cap : Nat) {aty : ArrayType} {z : Int32} {ty : FieldType} {vs : List Value} {k' n' : Nat} (hd : decode bytes pc = .ok (.newarray aty, 2)) (w : (Jvm.Cond.arrayClass (newarray.typeOf aty)).before a0 Z = true) (hz : ¬ z < 0) (hcap : z.toNatClampNeg ≤ cap) (hb8 : cap * 8 ≤ 536870912) (hc : k + 1 ≤ R.cells) (hl : n + cap ≤ R.slots)
    (hty : newarray.typeOf aty = ty) (hvs : List.replicate z.toNatClampNeg (defaultValue ty) = vs) (hk' : k + 1 = k') (hn' : n + cap = n') (hq : pc + 2 = q) (K : ∀ a, G k' n' (H ++ [(a, .inl (ty, vs))]) q ls (.ref a :: st)) : G k n H pc ls (.int z :: st) := by
  subst hq hvs hty hk' hn'
  obtain ⟨p, e, s, m, args, below, meth, c, rfl, hx, hZ, hby, hml, hown, hnm, hret, hlk⟩ := C
  intro T L X N hH
  obtain ⟨T', h', cA, X', e', E, A, stp⟩ := newP X hx hZ w rfl (g := mkF m pc ⟨ls⟩ (.int z :: st)) rfl (hb hby hd) rfl hz hcap hb8 hc hl
  obtain ⟨t, o, st2, P⟩ := K T.heap.size T' _ X' N (by
    rw [e']
    refine own_Hp_new hH E A.lt ⟨_, A, ?_⟩
    show (newA cA (newarray.typeOf aty) z).slots.toList = _
    simp only [newA, Array.toList_replicate])
  exact ⟨t, o, stp _ st2, P⟩
-- objects
def own_Laid (Z : State) (a0 : Array Value) (Cn : String) : List (String × String × FieldType) → Prop
  | [] => True
  | d :: r => (Laid Z a0 Cn Cn d.1 d.2.1 ∧ parseFieldDescriptor d.2.1 = some d.2.2) ∧ own_Laid Z a0 Cn r
theorem own_Laid.at {Cn : String} : ∀ {ds : List (String × String × FieldType)} {i : Nat} {d : String × String × FieldType}, own_Laid Z a0 Cn ds → ds[i]? = some d → Laid Z a0 Cn Cn d.1 d.2.1 ∧ parseFieldDescriptor d.2.1 = some d.2.2
  | [], _, _, _, h => by simp at h
  | d0 :: r, 0, d, L, h => by cases Option.some.inj h; exact L.1
  | d0 :: r, i + 1, d, L, h => own_Laid.at L.2 (by simpa using h)
def own_diff : List String → Bool
  | [] => true
  | x :: r => (r.all fun z => z != x) && own_diff r
theorem own_diff.inj : ∀ {xs : List String} {i j : Nat} {s : String}, own_diff xs = true → xs[i]? = some s → xs[j]? = some s → i = j
  | [], _, _, _, _, h, _ => by simp at h
  | x :: r, 0, 0, _, _, _, _ => rfl
  | x :: r, 0, j + 1, s, D, h, g => by
    simp only [own_diff, Bool.and_eq_true, List.all_eq_true, bne_iff_ne] at D
    cases Option.some.inj h
    exact absurd rfl (D.1 _ (List.mem_of_getElem? (by simpa using g)))
  | x :: r, i + 1, 0, s, D, h, g => by
    simp only [own_diff, Bool.and_eq_true, List.all_eq_true, bne_iff_ne] at D
    cases Option.some.inj g
    exact absurd rfl (D.1 _ (List.mem_of_getElem? (by simpa using h)))
  | x :: r, i + 1, j + 1, s, D, h, g => by
    simp only [own_diff, Bool.and_eq_true] at D
    exact congrArg (· + 1) (own_diff.inj (s := s) D.2 (by simpa using h) (by simpa using g))
theorem own_Wk.newobj (C : own_Wk Z n0 R y bytes maxL ret l Q G) (ds : List (String × String × FieldType)) {Cn : String} {ix nn k' n' : Nat} {fs : List (String × String × Value)} (hd : decode bytes pc = .ok (.new ix, 3)) (w1 : (Jvm.Cond.classLink y.cls ix Cn).before a0 Z = true) (w2 : (Jvm.Cond.instantiable Cn nn).before a0 Z = true) (w3 : (Jvm.Cond.initialized Cn).before a0 Z = true)
    (hL : own_Laid Z a0 Cn ds) (hdf : own_diff (ds.map fun d => d.1) = true) (hc : k + 1 ≤ R.cells) (hl : n + nn ≤ R.slots) (hfs : ds.map (fun d => (d.1, d.2.1, defaultValue d.2.2)) = fs) (hk' : k + 1 = k') (hn' : n + nn = n') (hq : pc + 3 = q)
    (K : ∀ a, G k' n' (H ++ [(a, .inr (Cn, fs))]) q ls (.ref a :: st)) : G k n H pc ls st := by
  subst hq hfs hk' hn'
  obtain ⟨p, e, s, m, args, below, meth, c, rfl, hx, hZ, hby, hml, hown, hnm, hret, hlk⟩ := C
  intro T L X N hH
  obtain ⟨T', h', X', e', E, A, D, -, stp⟩ := newO X hx hZ hown w1 w2 w3 rfl (g := mkF m pc ⟨ls⟩ st) rfl (hb hby hd) hc hl
  have at_ : ∀ (i : Nat) (f : String × String × Value), (ds.map (fun d => (d.1, d.2.1, defaultValue d.2.2)))[i]? = some f → ∃ d : String × String × FieldType, ds[i]? = some d ∧ f = (d.1, d.2.1, defaultValue d.2.2) := by
    intro i f hf
    rw [List.getElem?_map] at hf
    obtain ⟨d, h1, h2⟩ := Option.map_eq_some_iff.mp hf
    exact ⟨d, h1, h2.symm⟩
  obtain ⟨t, o, st2, P⟩ := K T.heap.size T' _ X' N (by
    rw [e']
    refine own_Hp_new hH E A.lt ⟨A, fun i j f g hf hg hs => ?_, fun i f hf => ?_⟩
    · obtain ⟨d, h1, rfl⟩ := at_ i f hf
      obtain ⟨d', h1', rfl⟩ := at_ j g hg
      by_cases hn : d.1 = d'.1
      · exact own_diff.inj hdf (s := d.1) (by rw [List.getElem?_map, h1]; rfl) (by rw [List.getElem?_map, h1', hn]; rfl)
      · exact absurd hs (slot_ne (hL.at h1).1 (hL.at h1').1 hn (hL.at h1).2 (hL.at h1').2)
    · obtain ⟨d, h1, rfl⟩ := at_ i f hf
      exact D (hL.at h1).1 (hL.at h1).2)
  exact ⟨t, o, stp _ st2, P⟩
theorem own_Wk.getf (C : own_Wk Z n0 R y bytes maxL ret l Q G) (i j : Nat) {ix : Nat} {Cn nm ds : String} {a : Addr} {fs : List (String × String × Value)} {v : Value} (hd : decode bytes pc = .ok (.getfield ix, 3)) (w : (Jvm.Cond.fieldLink y.cls ix Cn nm ds).before a0 Z = true)
    (hi : H[i]? = some (a, .inr (Cn, fs))) (hj : fs[j]? = some (nm, ds, v)) (hq : pc + 3 = q) (K : G k n H q ls (v :: st)) : G k n H pc ls (.ref a :: st) := by
  subst hq
  obtain ⟨p, e, s, m, args, below, meth, c, rfl, hx, hZ, hby, hml, hown, hnm, hret, hlk⟩ := C
  intro T L X N hH
  obtain ⟨-, -, hE, hS, hF⟩ := hH.2.2 i _ _ hi
  obtain ⟨T', X', e', stp⟩ := getF X hx hZ hown (host := "") (Or.inl w) Via.refl rfl (hF j _ hj) (g := mkF m pc ⟨ls⟩ (.ref a :: st)) rfl rfl (hb hby hd)
  obtain ⟨t, o, st2, P⟩ := K T' _ X' N (by rw [e']; exact hH)
  exact ⟨t, o, stp _ st2, P⟩
theorem own_Wk.putf (C : own_Wk Z n0 R y bytes maxL ret l Q G) (i j : Nat) {ix kk : Nat} {Cn nm ds : String} {a : Addr} {fs : List (String × String × Value)} {v old : Value} {ty : FieldType} {H' : own_Hs} (hd : decode bytes pc = .ok (.putfield ix, 3)) (w : (Jvm.Cond.fieldLink y.cls ix Cn nm ds).before a0 Z = true)
    (hL : (Jvm.Cond.lays Cn Cn nm ds).before a0 Z = true ∨ ((Jvm.Cond.laysFinal Cn Cn nm ds).before a0 Z = true ∧ y.cls = Cn ∧ y.name = "<init>")) (wi : (Jvm.Cond.instantiable Cn kk).before a0 Z = true)
    (hi : H[i]? = some (a, .inr (Cn, fs))) (hj : fs[j]? = some (nm, ds, old)) (hty : parseFieldDescriptor ds = some ty) (hn' : narrow ty v = v) (hf : fits ty v = true) (hH' : H.set i (a, .inr (Cn, fs.set j (nm, ds, v))) = H') (hq : pc + 3 = q) (K : G k n H' q ls st) : G k n H pc ls (v :: .ref a :: st) := by
  subst hq hH'
  obtain ⟨p, e, s, m, args, below, meth, c, rfl, hx, hZ, hby, hml, hown, hnm, hret, hlk⟩ := C
  intro T L X N hH
  obtain ⟨g1, -, hE, hS, hF⟩ := hH.2.2 i _ _ hi
  obtain ⟨T', h', X', e', W, stp⟩ := putF X hx hZ hown (host := "") (Or.inl w) Via.refl rfl (hF j _ hj) hE (hL.imp id fun z => ⟨z.1, z.2.1, hnm.trans z.2.2⟩) wi hty hn' hf (g := mkF m pc ⟨ls⟩ (v :: .ref a :: st)) rfl rfl (hb hby hd)
  have key : ∀ (i' : Nat) (f : String × String × Value), (fs.set j (nm, ds, v))[i']? = some f → (i' = j ∧ f = (nm, ds, v)) ∨ (i' ≠ j ∧ fs[i']? = some f) := by
    intro i' f hf'
    rw [List.getElem?_set] at hf'
    by_cases q : j = i'
    · subst q
      rw [if_pos rfl] at hf'
      split at hf'
      · exact Or.inl ⟨rfl, (Option.some.inj hf').symm⟩
      · cases hf'
    · rw [if_neg q] at hf'; exact Or.inr ⟨fun z => q z.symm, hf'⟩
  obtain ⟨t, o, st2, P⟩ := K T' _ X' (Fr.snoc X' N g1) (by
    rw [e']
    refine own_Hp_set hH hi W ⟨hE.wr W, fun i1 j1 f g h1 h2 hs => ?_, fun i1 f h1 => ?_⟩
    · rcases key i1 f h1 with ⟨z1, rfl⟩ | ⟨z1, z2⟩ <;> rcases key j1 g h2 with ⟨y1, rfl⟩ | ⟨y1, y2⟩
      · rw [z1, y1]
      · rw [z1]; exact hS j j1 (nm, ds, old) g hj y2 hs
      · rw [y1]; exact hS i1 j f (nm, ds, old) z2 hj hs
      · exact hS i1 j1 f g z2 y2 hs
    · rcases key i1 f h1 with ⟨z1, rfl⟩ | ⟨z1, z2⟩
      · exact (hF j _ hj).same W
      · exact (hF i1 f z2).other W (Or.inr fun z => z1 (hS i1 j f (nm, ds, old) z2 hj z)))
  exact ⟨t, o, stp _ st2, P⟩
theorem own_Wk.initO (C : own_Wk Z n0 R y bytes maxL ret l Q G) (W : Nat) {ix : Nat} {a : Addr} (hd : decode bytes pc = .ok (.invokespecial ix, 3)) (w1 : (Jvm.Cond.methodLink y.cls ix Lib.objectInit).before a0 Z = true) (w2 : (Jvm.Cond.instanceMethod Lib.objectInit).before a0 Z = true) (w3 : (Jvm.Cond.code Lib.objectInit ⟨#[0xb1]⟩ 1 none).before a0 Z = true)
    (hls : ls.length = maxL) (hf : 1 ≤ R.frames) (hW : (st.map fun v => v.category).sum ≤ W) (hl : W + 12 ≤ R.locals) (hq : pc + 3 = q) (K : G k n H q ls st) : G k n H pc ls (.ref a :: st) := by
  subst hq
  obtain ⟨p, e, s, m, args, below, meth, c, rfl, hx, hZ, hby, hml, hown, hnm, hret, hlk⟩ := C
  intro T L X N hH
  obtain ⟨T', X', e', stp⟩ := RoadKit.initO X hx hZ hown w1 w2 w3 rfl (g := mkF m pc ⟨ls⟩ (.ref a :: st)) rfl (by rw [hml]; exact hls) rfl (hb hby hd) hf (W := W) (by show 2 * 0 + _ ≤ _; rw [Nat.mul_zero, Nat.zero_add]; exact hW) hl
  obtain ⟨t, o, st2, P⟩ := K T' _ X' N (by rw [e']; exact hH)
  exact ⟨t, o, stp _ st2, P⟩
-- calls
theorem own_Wk.callS (C : own_Wk Z n0 R y bytes maxL ret l Q G) (W : Nat) (argsL rest : List Value) {ix : Nat} {y' : MethodName} {bytes' : ByteArray} {maxL' : Nat} {ret' r : Option FieldType} {ps : List FieldType} {rm : Room} {Q' : Option Value → own_Hs → Prop}
    (hd : decode bytes pc = .ok (.invokestatic ix, 3)) (w1 : (Jvm.Cond.methodLink y.cls ix y').before a0 Z = true) (w2 : (Jvm.Cond.static y').before a0 Z = true) (w3 : (Jvm.Cond.initialized y'.cls).before a0 Z = true) (w4 : (Jvm.Cond.code y' bytes' maxL' ret').before a0 Z = true)
    (hM : own_Con l Z n0 y' bytes' maxL' ret' [] rm argsL.toArray H Q') (hy : y'.cls ≠ "java/lang/invoke/MethodHandle" ∧ y'.cls ≠ "java/lang/invoke/VarHandle") (hfr : rm.frames + 1 ≤ R.frames) (hlo : W + (maxL' + 11) + rm.locals ≤ R.locals) (hds : parseMethodDescriptor y'.desc = some ⟨ps, r⟩) (hln : argsL.length = ps.length)
    (hls : ls.length = maxL) (hst : st = argsL.reverse ++ rest) (hW : (rest.map fun v => v.category).sum ≤ W) (hc : k + rm.cells ≤ R.cells) (hs : n + rm.slots ≤ R.slots) (hq : pc + 3 = q) (K : ∀ v H', Q' v H' → G (k + rm.cells) (n + rm.slots) H' q ls (v.toList ++ rest)) : G k n H pc ls st := by
  subst hq
  obtain ⟨p, e, s, m, args, below, meth, c, rfl, hx, hZ, hby, hml, hown, hnm, hret, hlk⟩ := C
  intro T L X N hH
  obtain ⟨v, vm₁, ⟨T', L', k', n'⟩, -, X', ⟨Lc, hQ, l', c', s'⟩, stp⟩ := Jvm.LawKit.callS X hx (y := y') hown (mvT hZ w1) (mvT hZ w2) (mvT hZ w3) (mvT hZ w4) hy
    (backOf (W := W) (Q := fun v h L => Fr n0 L ∧ ∃ H', own_Hp Z n0 h H' ∧ Q' v H') (hM T.heap hH) hZ w4 w3 hfr hlo) (g := mkF m pc ⟨ls⟩ st) rfl (by rw [hml]; exact hls) (argsL := argsL) (rest := rest) (lenOf hds hln) hst (by show 2 * 0 + _ ≤ _; rw [Nat.mul_zero, Nat.zero_add]; exact hW) (hb hby hd) (fun _ _ => ⟨rfl, rfl, hc, hs⟩)
  dsimp only [Pt.U, Pt.locs, Pt.cells, Pt.slots] at X' l' c' s' stp hQ
  subst l' c' s'
  obtain ⟨N', H', hH', hQ'⟩ := hQ
  obtain ⟨t, o, st2, P⟩ := K v H' hQ' T' _ X' (Fr.app N N') hH'
  exact ⟨t, o, stp _ st2, P⟩
theorem own_Wk.callI (C : own_Wk Z n0 R y bytes maxL ret l Q G) (W : Nat) (a : Addr) (argsL rest : List Value) {ix : Nat} {y' : MethodName} {bytes' : ByteArray} {maxL' : Nat} {r : Option FieldType} {ps : List FieldType} {rm : Room} {Q' : Option Value → own_Hs → Prop}
    (hd : decode bytes pc = .ok (.invokespecial ix, 3)) (w1 : (Jvm.Cond.methodLink y.cls ix y').before a0 Z = true) (w2 : (Jvm.Cond.instanceMethod y').before a0 Z = true) (w3 : (Jvm.Cond.initialized y'.cls).before a0 Z = true) (w4 : (Jvm.Cond.code y' bytes' maxL' none).before a0 Z = true)
    (hM : own_Con l Z n0 y' bytes' maxL' none [] rm (.ref a :: argsL).toArray H Q') (hnm' : y'.name = "<init>") (hy : y'.cls ≠ "java/lang/invoke/MethodHandle" ∧ y'.cls ≠ "java/lang/invoke/VarHandle") (hfr : rm.frames + 1 ≤ R.frames) (hlo : W + (maxL' + 11) + rm.locals ≤ R.locals) (hds : parseMethodDescriptor y'.desc = some ⟨ps, r⟩) (hln : argsL.length = ps.length)
    (hls : ls.length = maxL) (hst : st = argsL.reverse ++ .ref a :: rest) (hW : (rest.map fun v => v.category).sum ≤ W) (hc : k + rm.cells ≤ R.cells) (hs : n + rm.slots ≤ R.slots) (hq : pc + 3 = q) (K : ∀ v H', Q' v H' → G (k + rm.cells) (n + rm.slots) H' q ls (v.toList ++ rest)) : G k n H pc ls st := by
  subst hq
  obtain ⟨p, e, s, m, args, below, meth, c, rfl, hx, hZ, hby, hml, hown, hnm, hret, hlk⟩ := C
  intro T L X N hH
  obtain ⟨v, vm₁, ⟨T', L', k', n'⟩, -, X', ⟨Lc, hQ, l', c', s'⟩, stp⟩ := X.specialBack hx (y := y') hnm' hown (mvT hZ w1) (mvT hZ w2) (mvT hZ w4) hy
    (backOf (W := W) (Q := fun v h L => Fr n0 L ∧ ∃ H', own_Hp Z n0 h H' ∧ Q' v H') (hM T.heap hH) hZ w4 w3 hfr hlo) (g := mkF m pc ⟨ls⟩ st) rfl (by rw [hml]; exact hls) (Steps.refl _) (a := a) (argsL := argsL) (rest := rest) (lenOf hds hln) hst (by show 2 * 0 + _ ≤ _; rw [Nat.mul_zero, Nat.zero_add]; exact hW) (hb hby hd) (fun _ _ => ⟨rfl, rfl, hc, hs⟩)
  dsimp only [Pt.U, Pt.locs, Pt.cells, Pt.slots] at X' l' c' s' stp hQ
  subst l' c' s'
  obtain ⟨N', H', hH', hQ'⟩ := hQ
  obtain ⟨t, o, st2, P⟩ := K v H' hQ' T' _ X' (Fr.app N N') hH'
  exact ⟨t, o, stp.trans st2, P⟩
theorem own_Wk.callV (C : own_Wk Z n0 R y bytes maxL ret l Q G) (W i : Nat) (argsL rest : List Value) {a : Addr} {ix : Nat} {y' : MethodName} {bytes' : ByteArray} {maxL' : Nat} {ret' r : Option FieldType} {ps : List FieldType} {fs : List (String × String × Value)} {rm : Room} {Q' : Option Value → own_Hs → Prop}
    (hd : decode bytes pc = .ok (.invokevirtual ix, 3)) (w1 : (Jvm.Cond.methodLink y.cls ix y').before a0 Z = true) (w2 : (Jvm.Cond.declares y').before a0 Z = true) (w5 : (Jvm.Cond.instanceMethod y').before a0 Z = true) (w6 : (Jvm.Cond.selects y'.cls y' y').before a0 Z = true) (w3 : (Jvm.Cond.initialized y'.cls).before a0 Z = true) (w4 : (Jvm.Cond.code y' bytes' maxL' ret').before a0 Z = true)
    (hM : own_Con l Z n0 y' bytes' maxL' ret' [] rm (.ref a :: argsL).toArray H Q') (hy : y'.cls ≠ "java/lang/invoke/MethodHandle" ∧ y'.cls ≠ "java/lang/invoke/VarHandle") (hfr : rm.frames + 1 ≤ R.frames) (hlo : W + (maxL' + 11) + rm.locals ≤ R.locals) (hds : parseMethodDescriptor y'.desc = some ⟨ps, r⟩) (hln : argsL.length = ps.length)
    (hi : H[i]? = some (a, .inr (y'.cls, fs))) (hls : ls.length = maxL) (hst : st = argsL.reverse ++ .ref a :: rest) (hW : (rest.map fun v => v.category).sum ≤ W) (hc : k + rm.cells ≤ R.cells) (hs : n + rm.slots ≤ R.slots) (hq : pc + 3 = q) (K : ∀ v H', Q' v H' → G (k + rm.cells) (n + rm.slots) H' q ls (v.toList ++ rest)) : G k n H pc ls st := by
  subst hq
  obtain ⟨p, e, s, m, args, below, meth, c, rfl, hx, hZ, hby, hml, hown, hnm, hret, hlk⟩ := C
  intro T L X N hH
  obtain ⟨-, -, hE, -, -⟩ := hH.2.2 i _ _ hi
  obtain ⟨cB, kB, b1, -, b3⟩ := isOf hZ rfl hE
  obtain ⟨v, vm₁, ⟨T', L', k', n'⟩, -, X', ⟨Lc, hQ, l', c', s'⟩, stp⟩ := X.virtualBack hx (y := y') (z := y') hown (mvT hZ w1) (mvT hZ w2) (notFace_of_selects (args := #[]) (mvT hZ w6)) (mvT hZ w6) (mvT hZ w5) hy
    (backOf (W := W) (Q := fun v h L => Fr n0 L ∧ ∃ H', own_Hp Z n0 h H' ∧ Q' v H') (hM T.heap hH) hZ w4 w3 hfr hlo) b1 b3 (g := mkF m pc ⟨ls⟩ st) rfl (by rw [hml]; exact hls) (Steps.refl _) (argsL := argsL) (rest := rest) (lenOf hds hln) hst (by show 2 * 0 + _ ≤ _; rw [Nat.mul_zero, Nat.zero_add]; exact hW) (hb hby hd) (fun _ _ => ⟨rfl, rfl, hc, hs⟩)
  dsimp only [Pt.U, Pt.locs, Pt.cells, Pt.slots] at X' l' c' s' stp hQ
  subst l' c' s'
  obtain ⟨N', H', hH', hQ'⟩ := hQ
  obtain ⟨t, o, st2, P⟩ := K v H' hQ' T' _ X' (Fr.app N N') hH'
  exact ⟨t, o, stp.trans st2, P⟩
theorem own_Wk.callF (C : own_Wk Z n0 R y bytes maxL ret l Q G) (W i : Nat) (argsL rest : List Value) {a : Addr} {ix cnt : Nat} {xi y' : MethodName} {bytes' : ByteArray} {maxL' : Nat} {ret' r : Option FieldType} {ps : List FieldType} {fs : List (String × String × Value)} {rm : Room} {Q' : Option Value → own_Hs → Prop}
    (hd : decode bytes pc = .ok (.invokeinterface ix cnt, 5)) (w1 : (Jvm.Cond.methodLink y.cls ix xi).before a0 Z = true) (w2 : (Jvm.Cond.declares xi).before a0 Z = true) (w7 : ∀ {s : State} {args : Array Value}, Z.Warmed39 s.vm → (Jvm.Cond.interfaceMethod xi.cls xi.cls xi.name xi.desc).before args s = true) (w6 : (Jvm.Cond.selects y'.cls xi y').before a0 Z = true) (w5 : (Jvm.Cond.instanceMethod y').before a0 Z = true)
    (w8 : (Jvm.Cond.publicMethod y').before a0 Z = true) (w9 : (Jvm.Cond.unhidden y'.cls xi.name xi.desc).before a0 Z = true) (w10 : (Jvm.Cond.castable y'.cls xi.cls).before a0 Z = true) (w3 : (Jvm.Cond.initialized y'.cls).before a0 Z = true) (w4 : (Jvm.Cond.code y' bytes' maxL' ret').before a0 Z = true)
    (hM : own_Con l Z n0 y' bytes' maxL' ret' [] rm (.ref a :: argsL).toArray H Q') (hy : xi.cls ≠ "java/lang/invoke/MethodHandle" ∧ xi.cls ≠ "java/lang/invoke/VarHandle") (hfr : rm.frames + 1 ≤ R.frames) (hlo : W + (maxL' + 11) + rm.locals ≤ R.locals) (hds : parseMethodDescriptor xi.desc = some ⟨ps, r⟩) (hln : argsL.length = ps.length)
    (hi : H[i]? = some (a, .inr (y'.cls, fs))) (hls : ls.length = maxL) (hst : st = argsL.reverse ++ .ref a :: rest) (hW : (rest.map fun v => v.category).sum ≤ W) (hc : k + rm.cells ≤ R.cells) (hs : n + rm.slots ≤ R.slots) (hq : pc + 5 = q) (K : ∀ v H', Q' v H' → G (k + rm.cells) (n + rm.slots) H' q ls (v.toList ++ rest)) : G k n H pc ls st := by
  subst hq
  obtain ⟨p, e, s, m, args, below, meth, c, rfl, hx, hZ, hby, hml, hown, hnm, hret, hlk⟩ := C
  intro T L X N hH
  obtain ⟨-, -, hE, -, -⟩ := hH.2.2 i _ _ hi
  obtain ⟨cB, kB, b1, b2, b3⟩ := isOf hZ rfl hE
  obtain ⟨v, vm₁, ⟨T', L', k', n'⟩, -, X', ⟨Lc, hQ, l', c', s'⟩, stp⟩ := X.interfaceBack hx (xi := xi) (y := y') hown (mvT hZ w1) (mvT hZ w2) (w7 hZ) (mvT hZ w6) (mvT hZ w5) (mvT hZ w8) (mvT hZ w9) (mvT hZ w10) hy
    (backOf (W := W) (Q := fun v h L => Fr n0 L ∧ ∃ H', own_Hp Z n0 h H' ∧ Q' v H') (hM T.heap hH) hZ w4 w3 hfr hlo) b1 b2 b3 (g := mkF m pc ⟨ls⟩ st) rfl (by rw [hml]; exact hls) (Steps.refl _) (argsL := argsL) (rest := rest) (lenOf hds hln) hst (by show 2 * 0 + _ ≤ _; rw [Nat.mul_zero, Nat.zero_add]; exact hW) (hb hby hd) (fun _ _ => ⟨rfl, rfl, hc, hs⟩)
  dsimp only [Pt.U, Pt.locs, Pt.cells, Pt.slots] at X' l' c' s' stp hQ
  subst l' c' s'
  obtain ⟨N', H', hH', hQ'⟩ := hQ
  obtain ⟨t, o, st2, P⟩ := K v H' hQ' T' _ X' (Fr.app N N') hH'
  exact ⟨t, o, stp.trans st2, P⟩
end OwnKit
theorem own_pd0 : parseMethodDescriptor "([I[I)V" = some ⟨[(.array .int), (.array .int)], none⟩ := by decide +kernel
theorem own_pd1 : parseMethodDescriptor "([IIIII)I" = some ⟨[(.array .int), .int, .int, .int, .int], some .int⟩ := by decide +kernel
theorem own_pd2 : parseMethodDescriptor "(II)I" = some ⟨[.int, .int], some .int⟩ := by decide +kernel
def own_ev (v0 v1 v2 v3 v4 v5 v6 v7 : Int32) (i : Nat) : Int32 := match i with | 0 => v0 | 1 => v1 | 2 => v2 | 3 => v3 | 4 => v4 | 5 => v5 | 6 => v6 | _ => v7
def own_vs (f : Nat → Int32) : List Value := [.int (f 0), .int (f 1), .int (f 2), .int (f 3), .int (f 4), .int (f 5), .int (f 6), .int (f 7)]
theorem own_vs_at (f : Nat → Int32) {i : Nat} (h : i < 8) : (own_vs f)[i]? = some (.int (f i)) := by
  match i, h with
  | 0, _ => rfl
  | 1, _ => rfl
  | 2, _ => rfl
  | 3, _ => rfl
  | 4, _ => rfl
  | 5, _ => rfl
  | 6, _ => rfl
  | 7, _ => rfl
theorem own_ti {n : Nat} (h : n < 1000) : (Int32.ofNat n).toInt = n := Int32.toInt_ofNat_of_lt (by omega)
theorem own_nn {n : Nat} (h : n < 1000) : ¬ Int32.ofNat n < 0 := by rw [Int32.lt_iff_toInt_lt, own_ti h]; simp only [Int32.reduceToInt]; omega
theorem own_lt {i n : Nat} (h : i < 1000) (g : n < 1000) : Int32.ofNat i < Int32.ofNat n ↔ i < n := by rw [Int32.lt_iff_toInt_lt, own_ti h, own_ti g]; omega
theorem own_eq {i n : Nat} (h : i < 1000) (g : n < 1000) : Int32.ofNat i = Int32.ofNat n ↔ i = n := by rw [← Int32.toInt_inj, own_ti h, own_ti g]; omega
theorem own_cn {n : Nat} (h : n < 1000) : (Int32.ofNat n).toNatClampNeg = n := by rw [Int32.toNatClampNeg, own_ti h]; rfl
theorem own_ofInt {x : Int32} {n : Nat} (h : x.toInt = n) (hn : n < 1000) : x = Int32.ofNat n := by apply Int32.toInt_inj.mp; rw [own_ti hn, h]
theorem own_pr {n : Nat} (h : n < 1000) (h1 : 1 ≤ n) : Int32.ofNat n - (1 : Int32) = Int32.ofNat (n - 1) := by
  have d := c_isub (Int32.ofNat n) 1; have r := rng32 (Int32.ofNat n - 1); have e := own_ti h
  simp only [Int32.reduceToInt] at d
  exact own_ofInt (by omega) (by omega)
theorem own_sc {n : Nat} : Int32.ofNat n + (1 : Int32) = Int32.ofNat (n + 1) := (Int32.ofNat_add n 1).symm
theorem own_mid {i j : Nat} (hi : i < 100) (hj : j < 100) : ((Int32.ofNat i + Int32.ofNat j).toUInt32 >>> ((1 : Int32) &&& 31).toUInt32).toInt32 = Int32.ofNat ((i + j) / 2) := by
  rw [← Int32.ofNat_add]
  have e := c_iushr (Int32.ofNat (i + j)) 1 1 (by decide) (by decide)
  rw [own_ti (by omega)] at e
  exact own_ofInt (by rw [e]; simp only [Nat.pow_one]; omega) (by omega)
theorem own_n5 (a : Int32) : ∃ n : Nat, n ≤ 4 ∧ (a &&& (7 : Int32)) % (5 : Int32) = Int32.ofNat n := by
  have m := c_mask a 7 3 (by decide) (by decide)
  have e := (c_irem (a &&& 7) 5 5 rfl).1 (by omega)
  exact ⟨((a &&& (7 : Int32)) % (5 : Int32)).toInt.toNat, by omega, own_ofInt (by omega) (by omega)⟩
theorem own_b1 (a : Int32) : (a &&& (1 : Int32)) = 0 ∨ (a &&& (1 : Int32)) = 1 := and_one a
theorem own_m15 (a : Int32) : 0 ≤ (a &&& (15 : Int32)).toInt ∧ (a &&& (15 : Int32)).toInt ≤ 15 := by
  rw [c_mask a 15 4 (by decide) (by decide)]; omega
theorem own_ad {x : Int32} {m : Int} (hx : 0 ≤ x.toInt ∧ x.toInt ≤ m) (hm : m ≤ 200) (a : Int32) : x.toInt ≤ (x + (a &&& (15 : Int32))).toInt ∧ (x + (a &&& (15 : Int32))).toInt ≤ m + 15 := by
  have q := own_m15 a; have d := c_iadd x (a &&& 15); have r := rng32 (x + (a &&& 15)); omega
/-- the last sentence's end -/
theorem own_ix (f : Nat → Int32) {k j : Nat} (hk : k ≤ 8) (hj : j ≤ k) (h : ¬ Int32.ofNat k = Int32.ofNat j) : ¬ Int32.ofNat k - (1 : Int32) < 0 ∧ (own_vs f)[(Int32.ofNat k - (1 : Int32)).toNatClampNeg]? = some (.int (f (k - 1))) := by
  have hkj : k ≠ j := fun z => h (by rw [z])
  rw [own_pr (by omega) (by omega), own_cn (by omega)]
  exact ⟨own_nn (by omega), own_vs_at f (by omega)⟩
theorem d1_0 : decode prog_18_method_1_code 0 = .ok (.aload_n 0, 1) := by decide +kernel
theorem d1_1 : decode prog_18_method_1_code 1 = .ok (.invokespecial 1, 3) := by decide +kernel
theorem d1_4 : decode prog_18_method_1_code 4 = .ok (.aload_n 0, 1) := by decide +kernel
theorem d1_5 : decode prog_18_method_1_code 5 = .ok (.aload_n 1, 1) := by decide +kernel
theorem d1_6 : decode prog_18_method_1_code 6 = .ok (.putfield 7, 3) := by decide +kernel
theorem d1_9 : decode prog_18_method_1_code 9 = .ok (.aload_n 0, 1) := by decide +kernel
theorem d1_10 : decode prog_18_method_1_code 10 = .ok (.aload_n 2, 1) := by decide +kernel
theorem d1_11 : decode prog_18_method_1_code 11 = .ok (.putfield 13, 3) := by decide +kernel
theorem d1_14 : decode prog_18_method_1_code 14 = .ok (.aload_n 0, 1) := by decide +kernel
theorem d1_15 : decode prog_18_method_1_code 15 = .ok (.aload_n 1, 1) := by decide +kernel
theorem d1_16 : decode prog_18_method_1_code 16 = .ok (.arraylength, 1) := by decide +kernel
theorem d1_17 : decode prog_18_method_1_code 17 = .ok (.iconst 1, 1) := by decide +kernel
theorem d1_18 : decode prog_18_method_1_code 18 = .ok (.isub, 1) := by decide +kernel
theorem d1_19 : decode prog_18_method_1_code 19 = .ok (.newarray .int, 2) := by decide +kernel
theorem d1_21 : decode prog_18_method_1_code 21 = .ok (.putfield 16, 3) := by decide +kernel
theorem d1_24 : decode prog_18_method_1_code 24 = .ok (.iconst 0, 1) := by decide +kernel
theorem d1_25 : decode prog_18_method_1_code 25 = .ok (.istore_n 3, 1) := by decide +kernel
theorem d1_26 : decode prog_18_method_1_code 26 = .ok (.iload_n 3, 1) := by decide +kernel
theorem d1_27 : decode prog_18_method_1_code 27 = .ok (.aload_n 0, 1) := by decide +kernel
theorem d1_28 : decode prog_18_method_1_code 28 = .ok (.getfield 16, 3) := by decide +kernel
theorem d1_31 : decode prog_18_method_1_code 31 = .ok (.arraylength, 1) := by decide +kernel
theorem d1_32 : decode prog_18_method_1_code 32 = .ok (.if_icmp .ge 40, 3) := by decide +kernel
theorem d1_35 : decode prog_18_method_1_code 35 = .ok (.aload_n 1, 1) := by decide +kernel
theorem d1_36 : decode prog_18_method_1_code 36 = .ok (.iload_n 3, 1) := by decide +kernel
theorem d1_37 : decode prog_18_method_1_code 37 = .ok (.iconst 1, 1) := by decide +kernel
theorem d1_38 : decode prog_18_method_1_code 38 = .ok (.iadd, 1) := by decide +kernel
theorem d1_39 : decode prog_18_method_1_code 39 = .ok (.iaload, 1) := by decide +kernel
theorem d1_40 : decode prog_18_method_1_code 40 = .ok (.istore 4, 2) := by decide +kernel
theorem d1_42 : decode prog_18_method_1_code 42 = .ok (.aload_n 0, 1) := by decide +kernel
theorem d1_43 : decode prog_18_method_1_code 43 = .ok (.getfield 16, 3) := by decide +kernel
theorem d1_46 : decode prog_18_method_1_code 46 = .ok (.iload_n 3, 1) := by decide +kernel
theorem d1_47 : decode prog_18_method_1_code 47 = .ok (.iload 4, 2) := by decide +kernel
theorem d1_49 : decode prog_18_method_1_code 49 = .ok (.aload_n 1, 1) := by decide +kernel
theorem d1_50 : decode prog_18_method_1_code 50 = .ok (.iload_n 3, 1) := by decide +kernel
theorem d1_51 : decode prog_18_method_1_code 51 = .ok (.iaload, 1) := by decide +kernel
theorem d1_52 : decode prog_18_method_1_code 52 = .ok (.if_icmp .ne 7, 3) := by decide +kernel
theorem d1_55 : decode prog_18_method_1_code 55 = .ok (.iconst 0, 1) := by decide +kernel
theorem d1_56 : decode prog_18_method_1_code 56 = .ok (.goto 9, 3) := by decide +kernel
theorem d1_59 : decode prog_18_method_1_code 59 = .ok (.aload_n 2, 1) := by decide +kernel
theorem d1_60 : decode prog_18_method_1_code 60 = .ok (.iload 4, 2) := by decide +kernel
theorem d1_62 : decode prog_18_method_1_code 62 = .ok (.iconst 1, 1) := by decide +kernel
theorem d1_63 : decode prog_18_method_1_code 63 = .ok (.isub, 1) := by decide +kernel
theorem d1_64 : decode prog_18_method_1_code 64 = .ok (.iaload, 1) := by decide +kernel
theorem d1_65 : decode prog_18_method_1_code 65 = .ok (.iastore, 1) := by decide +kernel
theorem d1_66 : decode prog_18_method_1_code 66 = .ok (.iinc 3 1, 3) := by decide +kernel
theorem d1_69 : decode prog_18_method_1_code 69 = .ok (.goto (-43), 3) := by decide +kernel
theorem d1_72 : decode prog_18_method_1_code 72 = .ok (.return_, 1) := by decide +kernel
theorem own_pn1 : plainFor (⟨"com/example/kingfisher/kingfisher/index/SentenceBounds", "<init>", "([I[I)V"⟩ : MethodName) = true := by first | exact plainFor_of_name (by first | (simp [plainName, overriddenIn]; done) | decide +kernel) | decide +kernel
set_option maxHeartbeats 4000000 in
theorem own_ef1 (m : MethodId) (x0 : Addr) (x1 : Addr) (x2 : Addr) : entryFrame m #[.ref x0, .ref x1, .ref x2] 5 = mkF m 0 #[.val (.ref x0), .val (.ref x1), .val (.ref x2), .unset, .unset] [] := by first | (simp [entryFrame, mkF, argsToLocals, Value.category, maxLocals]; done) | rfl
set_option maxRecDepth 65536 in
set_option maxHeartbeats 40000000 in
theorem own_c1 (l : Launch) (Z : State) (a0 : Array Value) (n0 : Nat) (hw : ∀ d ∈ tables_1, d.before a0 Z = true) (ws : List Jvm.Cond) (o f e : Addr) (g : Nat → Int32) (p0 p1 p2 : Nat) (h1 : p0 ≤ p1) (h2 : p1 ≤ p2) (h3 : p2 ≤ 8) :
    own_Con l Z n0 (⟨"com/example/kingfisher/kingfisher/index/SentenceBounds", "<init>", "([I[I)V"⟩ : MethodName) prog_18_method_1_code 5 none ws ({ frames := 1, cells := 1, slots := 2, locals := 12 } : Room) #[.ref o, .ref f, .ref e] [(e, .inl (.int, (own_vs g))), (f, .inl (.int, [.int (Int32.ofNat p0), .int (Int32.ofNat p1), .int (Int32.ofNat p2)])), (o, .inr ("com/example/kingfisher/kingfisher/index/SentenceBounds", [("firstSentences", "[I", .null), ("ends", "[I", .null), ("lengths", "[I", .null)]))] (fun v H' => v = none ∧ ∃ b z1 z2, H' = [(e, .inl (.int, (own_vs g))), (f, .inl (.int, [.int (Int32.ofNat p0), .int (Int32.ofNat p1), .int (Int32.ofNat p2)])), (o, .inr ("com/example/kingfisher/kingfisher/index/SentenceBounds", [("firstSentences", "[I", .ref f), ("ends", "[I", .ref e), ("lengths", "[I", .ref b)])), (b, .inl (.int, [.int z1, .int z2]))]) := by
  refine own_con own_pn1 (fun m_ => own_ef1 m_ o f e) ?_
  intro G C
  refine C.aloadN (q := 1) d1_0 rfl rfl rfl ?_
  refine C.initO (q := 4) 0 d1_1 (hw _ (List.mem_of_getElem? (i := 7) rfl)) (hw _ (List.mem_of_getElem? (i := 8) rfl)) (hw _ (List.mem_of_getElem? (i := 9) rfl)) rfl (by decide) (Nat.le_of_eq rfl) (by decide) rfl ?_
  refine C.aloadN (q := 5) d1_4 rfl rfl rfl ?_
  refine C.aloadN (q := 6) d1_5 rfl rfl rfl ?_
  refine C.putf (q := 9) 2 0 (ty := (.array .int)) (H' := [(e, .inl (.int, (own_vs g))), (f, .inl (.int, [.int (Int32.ofNat p0), .int (Int32.ofNat p1), .int (Int32.ofNat p2)])), (o, .inr ("com/example/kingfisher/kingfisher/index/SentenceBounds", [("firstSentences", "[I", .ref f), ("ends", "[I", .null), ("lengths", "[I", .null)]))]) d1_6 (hw _ (List.mem_of_getElem? (i := 10) rfl)) (Or.inr ⟨(hw _ (List.mem_of_getElem? (i := 11) rfl)), rfl, rfl⟩) (hw _ (List.mem_of_getElem? (i := 2) rfl)) rfl rfl (by decide) rfl rfl rfl rfl ?_
  refine C.aloadN (q := 10) d1_9 rfl rfl rfl ?_
  refine C.aloadN (q := 11) d1_10 rfl rfl rfl ?_
  refine C.putf (q := 14) 2 1 (ty := (.array .int)) (H' := [(e, .inl (.int, (own_vs g))), (f, .inl (.int, [.int (Int32.ofNat p0), .int (Int32.ofNat p1), .int (Int32.ofNat p2)])), (o, .inr ("com/example/kingfisher/kingfisher/index/SentenceBounds", [("firstSentences", "[I", .ref f), ("ends", "[I", .ref e), ("lengths", "[I", .null)]))]) d1_11 (hw _ (List.mem_of_getElem? (i := 12) rfl)) (Or.inr ⟨(hw _ (List.mem_of_getElem? (i := 13) rfl)), rfl, rfl⟩) (hw _ (List.mem_of_getElem? (i := 2) rfl)) rfl rfl (by decide) rfl rfl rfl rfl ?_
  refine C.aloadN (q := 15) d1_14 rfl rfl rfl ?_
  refine C.aloadN (q := 16) d1_15 rfl rfl rfl ?_
  refine C.alen (q := 17) 1 (z := (3 : Int32)) d1_16 rfl rfl rfl ?_
  refine C.iconst (q := 18) (z := (1 : Int32)) d1_17 rfl rfl ?_
  refine C.isub (q := 19) d1_18 rfl ?_
  show G 0 0 [(e, .inl (.int, (own_vs g))), (f, .inl (.int, [.int (Int32.ofNat p0), .int (Int32.ofNat p1), .int (Int32.ofNat p2)])), (o, .inr ("com/example/kingfisher/kingfisher/index/SentenceBounds", [("firstSentences", "[I", .ref f), ("ends", "[I", .ref e), ("lengths", "[I", .null)]))] 19 [.val (.ref o), .val (.ref f), .val (.ref e), .unset, .unset] [.int (2 : Int32), .ref o]
  refine C.newarr (q := 21) 2 (ty := .int) (vs := [.int (0 : Int32), .int (0 : Int32)]) (k' := 1) (n' := 2) d1_19 (hw _ (List.mem_of_getElem? (i := 0) rfl)) (by decide) (by decide) (by decide) (by decide) (by decide) rfl rfl rfl rfl rfl (fun a19 => ?_)
  show G 1 2 [(e, .inl (.int, (own_vs g))), (f, .inl (.int, [.int (Int32.ofNat p0), .int (Int32.ofNat p1), .int (Int32.ofNat p2)])), (o, .inr ("com/example/kingfisher/kingfisher/index/SentenceBounds", [("firstSentences", "[I", .ref f), ("ends", "[I", .ref e), ("lengths", "[I", .null)])), (a19, .inl (.int, [.int (0 : Int32), .int (0 : Int32)]))] 21 [.val (.ref o), .val (.ref f), .val (.ref e), .unset, .unset] [.ref a19, .ref o]
  refine C.putf (q := 24) 2 2 (ty := (.array .int)) (H' := [(e, .inl (.int, (own_vs g))), (f, .inl (.int, [.int (Int32.ofNat p0), .int (Int32.ofNat p1), .int (Int32.ofNat p2)])), (o, .inr ("com/example/kingfisher/kingfisher/index/SentenceBounds", [("firstSentences", "[I", .ref f), ("ends", "[I", .ref e), ("lengths", "[I", .ref a19)])), (a19, .inl (.int, [.int (0 : Int32), .int (0 : Int32)]))]) d1_21 (hw _ (List.mem_of_getElem? (i := 14) rfl)) (Or.inr ⟨(hw _ (List.mem_of_getElem? (i := 15) rfl)), rfl, rfl⟩) (hw _ (List.mem_of_getElem? (i := 2) rfl)) rfl rfl (by decide) rfl rfl rfl rfl ?_
  refine C.iconst (q := 25) (z := (0 : Int32)) d1_24 rfl rfl ?_
  refine C.istoreN (q := 26) (ls' := [.val (.ref o), .val (.ref f), .val (.ref e), .val (.int (0 : Int32)), .unset]) d1_25 rfl rfl ?_
  refine C.iloadN (q := 27) d1_26 rfl rfl ?_
  refine C.aloadN (q := 28) d1_27 rfl rfl rfl ?_
  refine C.getf (q := 31) 2 2 (v := .ref a19) d1_28 (hw _ (List.mem_of_getElem? (i := 14) rfl)) rfl rfl rfl ?_
  refine C.alen (q := 32) 3 (z := (2 : Int32)) d1_31 rfl rfl rfl ?_
  refine C.icmpGe (q := 72) (q' := 35) d1_32 (by decide) (by decide) rfl (fun h32 => ?_) (fun h32 => absurd (by decide) h32)
  refine C.aloadN (q := 36) d1_35 rfl rfl rfl ?_
  refine C.iloadN (q := 37) d1_36 rfl rfl ?_
  refine C.iconst (q := 38) (z := (1 : Int32)) d1_37 rfl rfl ?_
  refine C.iadd (q := 39) d1_38 rfl ?_
  show G 1 2 [(e, .inl (.int, (own_vs g))), (f, .inl (.int, [.int (Int32.ofNat p0), .int (Int32.ofNat p1), .int (Int32.ofNat p2)])), (o, .inr ("com/example/kingfisher/kingfisher/index/SentenceBounds", [("firstSentences", "[I", .ref f), ("ends", "[I", .ref e), ("lengths", "[I", .ref a19)])), (a19, .inl (.int, [.int (0 : Int32), .int (0 : Int32)]))] 39 [.val (.ref o), .val (.ref f), .val (.ref e), .val (.int (0 : Int32)), .unset] [.int (1 : Int32), .ref f]
  refine C.iaload (q := 40) 1 (v := .int (Int32.ofNat p1)) d1_39 rfl (by decide) rfl rfl ?_
  refine C.istore (q := 42) (ls' := [.val (.ref o), .val (.ref f), .val (.ref e), .val (.int (0 : Int32)), .val (.int (Int32.ofNat p1))]) d1_40 rfl rfl ?_
  refine C.aloadN (q := 43) d1_42 rfl rfl rfl ?_
  refine C.getf (q := 46) 2 2 (v := .ref a19) d1_43 (hw _ (List.mem_of_getElem? (i := 14) rfl)) rfl rfl rfl ?_
  refine C.iloadN (q := 47) d1_46 rfl rfl ?_
  refine C.iload (q := 49) d1_47 rfl rfl ?_
  refine C.aloadN (q := 50) d1_49 rfl rfl rfl ?_
  refine C.iloadN (q := 51) d1_50 rfl rfl ?_
  refine C.iaload (q := 52) 1 (v := .int (Int32.ofNat p0)) d1_51 rfl (by decide) rfl rfl ?_
  have J52 : ∀ (z52 : Int32), (True ∨ z52 = 0) → G 1 2 [(e, .inl (.int, (own_vs g))), (f, .inl (.int, [.int (Int32.ofNat p0), .int (Int32.ofNat p1), .int (Int32.ofNat p2)])), (o, .inr ("com/example/kingfisher/kingfisher/index/SentenceBounds", [("firstSentences", "[I", .ref f), ("ends", "[I", .ref e), ("lengths", "[I", .ref a19)])), (a19, .inl (.int, [.int (0 : Int32), .int (0 : Int32)]))] 65 [.val (.ref o), .val (.ref f), .val (.ref e), .val (.int (0 : Int32)), .val (.int (Int32.ofNat p1))] [.int z52, .int (0 : Int32), .ref a19] := by
    intro z52 hz52
    refine C.iastore (q := 66) 3 (H' := [(e, .inl (.int, (own_vs g))), (f, .inl (.int, [.int (Int32.ofNat p0), .int (Int32.ofNat p1), .int (Int32.ofNat p2)])), (o, .inr ("com/example/kingfisher/kingfisher/index/SentenceBounds", [("firstSentences", "[I", .ref f), ("ends", "[I", .ref e), ("lengths", "[I", .ref a19)])), (a19, .inl (.int, [.int z52, .int (0 : Int32)]))]) d1_65 rfl (by decide) (by show _ < 2; decide) rfl rfl ?_
    refine C.iinc (q := 69) (z := (1 : Int32)) (ls' := [.val (.ref o), .val (.ref f), .val (.ref e), .val (.int ((0 : Int32) + (1 : Int32))), .val (.int (Int32.ofNat p1))]) d1_66 rfl rfl rfl rfl ?_
    show G 1 2 [(e, .inl (.int, (own_vs g))), (f, .inl (.int, [.int (Int32.ofNat p0), .int (Int32.ofNat p1), .int (Int32.ofNat p2)])), (o, .inr ("com/example/kingfisher/kingfisher/index/SentenceBounds", [("firstSentences", "[I", .ref f), ("ends", "[I", .ref e), ("lengths", "[I", .ref a19)])), (a19, .inl (.int, [.int z52, .int (0 : Int32)]))] 69 [.val (.ref o), .val (.ref f), .val (.ref e), .val (.int (1 : Int32)), .val (.int (Int32.ofNat p1))] []
    refine C.goto (q := 26) d1_69 (by decide) (by decide) ?_
    refine C.iloadN (q := 27) d1_26 rfl rfl ?_
    refine C.aloadN (q := 28) d1_27 rfl rfl rfl ?_
    refine C.getf (q := 31) 2 2 (v := .ref a19) d1_28 (hw _ (List.mem_of_getElem? (i := 14) rfl)) rfl rfl rfl ?_
    refine C.alen (q := 32) 3 (z := (2 : Int32)) d1_31 rfl rfl rfl ?_
    refine C.icmpGe (q := 72) (q' := 35) d1_32 (by decide) (by decide) rfl (fun h32 => ?_) (fun h32 => absurd (by decide) h32)
    refine C.aloadN (q := 36) d1_35 rfl rfl rfl ?_
    refine C.iloadN (q := 37) d1_36 rfl rfl ?_
    refine C.iconst (q := 38) (z := (1 : Int32)) d1_37 rfl rfl ?_
    refine C.iadd (q := 39) d1_38 rfl ?_
    show G 1 2 [(e, .inl (.int, (own_vs g))), (f, .inl (.int, [.int (Int32.ofNat p0), .int (Int32.ofNat p1), .int (Int32.ofNat p2)])), (o, .inr ("com/example/kingfisher/kingfisher/index/SentenceBounds", [("firstSentences", "[I", .ref f), ("ends", "[I", .ref e), ("lengths", "[I", .ref a19)])), (a19, .inl (.int, [.int z52, .int (0 : Int32)]))] 39 [.val (.ref o), .val (.ref f), .val (.ref e), .val (.int (1 : Int32)), .val (.int (Int32.ofNat p1))] [.int (2 : Int32), .ref f]
    refine C.iaload (q := 40) 1 (v := .int (Int32.ofNat p2)) d1_39 rfl (by decide) rfl rfl ?_
    refine C.istore (q := 42) (ls' := [.val (.ref o), .val (.ref f), .val (.ref e), .val (.int (1 : Int32)), .val (.int (Int32.ofNat p2))]) d1_40 rfl rfl ?_
    refine C.aloadN (q := 43) d1_42 rfl rfl rfl ?_
    refine C.getf (q := 46) 2 2 (v := .ref a19) d1_43 (hw _ (List.mem_of_getElem? (i := 14) rfl)) rfl rfl rfl ?_
    refine C.iloadN (q := 47) d1_46 rfl rfl ?_
    refine C.iload (q := 49) d1_47 rfl rfl ?_
    refine C.aloadN (q := 50) d1_49 rfl rfl rfl ?_
    refine C.iloadN (q := 51) d1_50 rfl rfl ?_
    refine C.iaload (q := 52) 1 (v := .int (Int32.ofNat p1)) d1_51 rfl (by decide) rfl rfl ?_
    have J52 : ∀ (z52x : Int32), (True ∨ z52x = 0) → G 1 2 [(e, .inl (.int, (own_vs g))), (f, .inl (.int, [.int (Int32.ofNat p0), .int (Int32.ofNat p1), .int (Int32.ofNat p2)])), (o, .inr ("com/example/kingfisher/kingfisher/index/SentenceBounds", [("firstSentences", "[I", .ref f), ("ends", "[I", .ref e), ("lengths", "[I", .ref a19)])), (a19, .inl (.int, [.int z52, .int (0 : Int32)]))] 65 [.val (.ref o), .val (.ref f), .val (.ref e), .val (.int (1 : Int32)), .val (.int (Int32.ofNat p2))] [.int z52x, .int (1 : Int32), .ref a19] := by
      intro z52x hz52x
      refine C.iastore (q := 66) 3 (H' := [(e, .inl (.int, (own_vs g))), (f, .inl (.int, [.int (Int32.ofNat p0), .int (Int32.ofNat p1), .int (Int32.ofNat p2)])), (o, .inr ("com/example/kingfisher/kingfisher/index/SentenceBounds", [("firstSentences", "[I", .ref f), ("ends", "[I", .ref e), ("lengths", "[I", .ref a19)])), (a19, .inl (.int, [.int z52, .int z52x]))]) d1_65 rfl (by decide) (by show _ < 2; decide) rfl rfl ?_
      refine C.iinc (q := 69) (z := (1 : Int32)) (ls' := [.val (.ref o), .val (.ref f), .val (.ref e), .val (.int ((1 : Int32) + (1 : Int32))), .val (.int (Int32.ofNat p2))]) d1_66 rfl rfl rfl rfl ?_
      show G 1 2 [(e, .inl (.int, (own_vs g))), (f, .inl (.int, [.int (Int32.ofNat p0), .int (Int32.ofNat p1), .int (Int32.ofNat p2)])), (o, .inr ("com/example/kingfisher/kingfisher/index/SentenceBounds", [("firstSentences", "[I", .ref f), ("ends", "[I", .ref e), ("lengths", "[I", .ref a19)])), (a19, .inl (.int, [.int z52, .int z52x]))] 69 [.val (.ref o), .val (.ref f), .val (.ref e), .val (.int (2 : Int32)), .val (.int (Int32.ofNat p2))] []
      refine C.goto (q := 26) d1_69 (by decide) (by decide) ?_
      refine C.iloadN (q := 27) d1_26 rfl rfl ?_
      refine C.aloadN (q := 28) d1_27 rfl rfl rfl ?_
      refine C.getf (q := 31) 2 2 (v := .ref a19) d1_28 (hw _ (List.mem_of_getElem? (i := 14) rfl)) rfl rfl rfl ?_
      refine C.alen (q := 32) 3 (z := (2 : Int32)) d1_31 rfl rfl rfl ?_
      refine C.icmpGe (q := 72) (q' := 35) d1_32 (by decide) (by decide) rfl (fun h32 => absurd h32 (by decide)) (fun h32 => ?_)
      exact C.retV d1_72 (by decide) (by decide) ⟨rfl, a19, _, _, rfl⟩
    refine C.icmpNe (q := 59) (q' := 55) d1_52 (by decide) (by decide) rfl (fun h52 => ?_) (fun h52 => ?_)
    · refine C.iconst (q := 56) (z := (0 : Int32)) d1_55 rfl rfl ?_
      refine C.goto (q := 65) d1_56 (by decide) (by decide) ?_
      exact J52 _ (Or.inl trivial)
    · refine C.aloadN (q := 60) d1_59 rfl rfl rfl ?_
      refine C.iload (q := 62) d1_60 rfl rfl ?_
      refine C.iconst (q := 63) (z := (1 : Int32)) d1_62 rfl rfl ?_
      refine C.isub (q := 64) d1_63 rfl ?_
      refine C.iaload (q := 65) 0 (v := .int (g (p2 - 1))) d1_64 rfl (own_ix g (k := p2) (j := p1) (by omega) (by omega) h52).1 (own_ix g (k := p2) (j := p1) (by omega) (by omega) h52).2 rfl ?_
      exact J52 _ (Or.inl trivial)
  refine C.icmpNe (q := 59) (q' := 55) d1_52 (by decide) (by decide) rfl (fun h52 => ?_) (fun h52 => ?_)
  · refine C.iconst (q := 56) (z := (0 : Int32)) d1_55 rfl rfl ?_
    refine C.goto (q := 65) d1_56 (by decide) (by decide) ?_
    exact J52 _ (Or.inl trivial)
  · refine C.aloadN (q := 60) d1_59 rfl rfl rfl ?_
    refine C.iload (q := 62) d1_60 rfl rfl ?_
    refine C.iconst (q := 63) (z := (1 : Int32)) d1_62 rfl rfl ?_
    refine C.isub (q := 64) d1_63 rfl ?_
    refine C.iaload (q := 65) 0 (v := .int (g (p1 - 1))) d1_64 rfl (own_ix g (k := p1) (j := p0) (by omega) (by omega) h52).1 (own_ix g (k := p1) (j := p0) (by omega) (by omega) h52).2 rfl ?_
    exact J52 _ (Or.inl trivial)
def own_bl (F N P x : Int32) (i : Nat) : Int32 := if ¬ Int32.ofNat i < F ∧ Int32.ofNat i < N ∧ ¬ P < x then 1 else 0
theorem own_b_1 {F N P x : Int32} {i : Nat} (h : ¬ Int32.ofNat i < F) (g : Int32.ofNat i < N) (k : ¬ P < x) : own_bl F N P x i = 1 := if_pos ⟨h, g, k⟩
theorem own_b_2 {F N P x : Int32} {i : Nat} (h : Int32.ofNat i < F) : own_bl F N P x i = 0 := if_neg fun z => z.1 h
theorem own_b_3 {F N P x : Int32} {i : Nat} (h : ¬ Int32.ofNat i < N) : own_bl F N P x i = 0 := if_neg fun z => h z.2.1
theorem own_b_4 {F N P x : Int32} {i : Nat} (h : P < x) : own_bl F N P x i = 0 := if_neg fun z => z.2.2 h
theorem d2_0 : decode method_3_code 0 = .ok (.iload 4, 2) := by decide +kernel
theorem d2_2 : decode method_3_code 2 = .ok (.iload_n 1, 1) := by decide +kernel
theorem d2_3 : decode method_3_code 3 = .ok (.if_icmp .lt 21, 3) := by decide +kernel
theorem d2_6 : decode method_3_code 6 = .ok (.iload 4, 2) := by decide +kernel
theorem d2_8 : decode method_3_code 8 = .ok (.iload_n 2, 1) := by decide +kernel
theorem d2_9 : decode method_3_code 9 = .ok (.if_icmp .ge 15, 3) := by decide +kernel
theorem d2_12 : decode method_3_code 12 = .ok (.aload_n 0, 1) := by decide +kernel
theorem d2_13 : decode method_3_code 13 = .ok (.iload 4, 2) := by decide +kernel
theorem d2_15 : decode method_3_code 15 = .ok (.iaload, 1) := by decide +kernel
theorem d2_16 : decode method_3_code 16 = .ok (.iload_n 3, 1) := by decide +kernel
theorem d2_17 : decode method_3_code 17 = .ok (.if_icmp .gt 7, 3) := by decide +kernel
theorem d2_20 : decode method_3_code 20 = .ok (.iconst 1, 1) := by decide +kernel
theorem d2_21 : decode method_3_code 21 = .ok (.goto 4, 3) := by decide +kernel
theorem d2_24 : decode method_3_code 24 = .ok (.iconst 0, 1) := by decide +kernel
theorem d2_25 : decode method_3_code 25 = .ok (.ireturn, 1) := by decide +kernel
theorem own_pn2 : plainFor (⟨"com/example/kingfisher/kingfisher/index/SentenceBoundsSentencePinLaw", "below", "([IIIII)I"⟩ : MethodName) = true := by first | exact plainFor_of_name (by first | (simp [plainName, overriddenIn]; done) | decide +kernel) | decide +kernel
set_option maxHeartbeats 4000000 in
theorem own_ef2 (m : MethodId) (x0 : Addr) (x1 : Int32) (x2 : Int32) (x3 : Int32) (x4 : Int32) : entryFrame m #[.ref x0, .int x1, .int x2, .int x3, .int x4] 5 = mkF m 0 #[.val (.ref x0), .val (.int x1), .val (.int x2), .val (.int x3), .val (.int x4)] [] := by first | (simp [entryFrame, mkF, argsToLocals, Value.category, maxLocals]; done) | rfl
set_option maxRecDepth 65536 in
set_option maxHeartbeats 40000000 in
theorem own_c2 (l : Launch) (Z : State) (a0 : Array Value) (n0 : Nat) (hw : ∀ d ∈ tables_1, d.before a0 Z = true) (ws : List Jvm.Cond) (e : Addr) (g : Nat → Int32) (Hr : own_Hs) (F N P : Int32) (i : Nat) (hi : i < 8) :
    own_Con l Z n0 (⟨"com/example/kingfisher/kingfisher/index/SentenceBoundsSentencePinLaw", "below", "([IIIII)I"⟩ : MethodName) method_3_code 5 (some .int) ws ({ frames := 0, cells := 0, slots := 0, locals := 0 } : Room) #[.ref e, .int F, .int N, .int P, .int (Int32.ofNat i)] ((e, .inl (.int, (own_vs g))) :: Hr) (fun v H' => v = some (.int (own_bl F N P (g i) i)) ∧ H' = ((e, .inl (.int, (own_vs g))) :: Hr)) := by
  refine own_con own_pn2 (fun m_ => own_ef2 m_ e F N P (Int32.ofNat i)) ?_
  intro G C
  refine C.iload (q := 2) d2_0 rfl rfl ?_
  refine C.iloadN (q := 3) d2_2 rfl rfl ?_
  refine C.icmpLt (q := 24) (q' := 6) d2_3 (by decide) (by decide) rfl (fun h3 => ?_) (fun h3 => ?_)
  · refine C.iconst (q := 25) (z := (0 : Int32)) d2_24 rfl rfl ?_
    exact C.retI d2_25 (by decide) (by decide) ⟨congrArg (fun z => some (Value.int z)) (by first | exact (own_b_1 h3 h9 h17).symm | exact (own_b_4 h17).symm | exact (own_b_3 h9).symm | exact (own_b_2 h3).symm), rfl⟩
  · refine C.iload (q := 8) d2_6 rfl rfl ?_
    refine C.iloadN (q := 9) d2_8 rfl rfl ?_
    refine C.icmpGe (q := 24) (q' := 12) d2_9 (by decide) (by decide) rfl (fun h9 => ?_) (fun h9 => ?_)
    · refine C.aloadN (q := 13) d2_12 rfl rfl rfl ?_
      refine C.iload (q := 15) d2_13 rfl rfl ?_
      refine C.iaload (q := 16) 0 (v := .int (g i)) d2_15 rfl (own_nn (by omega)) (by rw [own_cn (by omega)]; exact own_vs_at g hi) rfl ?_
      refine C.iloadN (q := 17) d2_16 rfl rfl ?_
      refine C.icmpGt (q := 24) (q' := 20) d2_17 (by decide) (by decide) rfl (fun h17 => ?_) (fun h17 => ?_)
      · refine C.iconst (q := 25) (z := (0 : Int32)) d2_24 rfl rfl ?_
        exact C.retI d2_25 (by decide) (by decide) ⟨congrArg (fun z => some (Value.int z)) (by first | exact (own_b_1 h3 h9 h17).symm | exact (own_b_4 h17).symm | exact (own_b_3 h9).symm | exact (own_b_2 h3).symm), rfl⟩
      · refine C.iconst (q := 21) (z := (1 : Int32)) d2_20 rfl rfl ?_
        refine C.goto (q := 25) d2_21 (by decide) (by decide) ?_
        exact C.retI d2_25 (by decide) (by decide) ⟨congrArg (fun z => some (Value.int z)) (by first | exact (own_b_1 h3 h9 h17).symm | exact (own_b_4 h17).symm | exact (own_b_3 h9).symm | exact (own_b_2 h3).symm), rfl⟩
    · refine C.iconst (q := 25) (z := (0 : Int32)) d2_24 rfl rfl ?_
      exact C.retI d2_25 (by decide) (by decide) ⟨congrArg (fun z => some (Value.int z)) (by first | exact (own_b_1 h3 h9 h17).symm | exact (own_b_4 h17).symm | exact (own_b_3 h9).symm | exact (own_b_2 h3).symm), rfl⟩
theorem d3_22 : decode prog_18_method_4_code 22 = .ok (.iload 4, 2) := by decide +kernel
theorem d3_24 : decode prog_18_method_4_code 24 = .ok (.iload 5, 2) := by decide +kernel
theorem d3_26 : decode prog_18_method_4_code 26 = .ok (.if_icmp .ge 39, 3) := by decide +kernel
theorem d3_29 : decode prog_18_method_4_code 29 = .ok (.iload 4, 2) := by decide +kernel
theorem d3_31 : decode prog_18_method_4_code 31 = .ok (.iload 5, 2) := by decide +kernel
theorem d3_33 : decode prog_18_method_4_code 33 = .ok (.iadd, 1) := by decide +kernel
theorem d3_34 : decode prog_18_method_4_code 34 = .ok (.iconst 1, 1) := by decide +kernel
theorem d3_35 : decode prog_18_method_4_code 35 = .ok (.iushr, 1) := by decide +kernel
theorem d3_36 : decode prog_18_method_4_code 36 = .ok (.istore 6, 2) := by decide +kernel
theorem d3_38 : decode prog_18_method_4_code 38 = .ok (.aload_n 0, 1) := by decide +kernel
theorem d3_39 : decode prog_18_method_4_code 39 = .ok (.getfield 13, 3) := by decide +kernel
theorem d3_42 : decode prog_18_method_4_code 42 = .ok (.iload 6, 2) := by decide +kernel
theorem d3_44 : decode prog_18_method_4_code 44 = .ok (.iaload, 1) := by decide +kernel
theorem d3_45 : decode prog_18_method_4_code 45 = .ok (.iload_n 2, 1) := by decide +kernel
theorem d3_46 : decode prog_18_method_4_code 46 = .ok (.if_icmp .le 10, 3) := by decide +kernel
theorem d3_49 : decode prog_18_method_4_code 49 = .ok (.iload 6, 2) := by decide +kernel
theorem d3_51 : decode prog_18_method_4_code 51 = .ok (.istore 5, 2) := by decide +kernel
theorem d3_53 : decode prog_18_method_4_code 53 = .ok (.goto 9, 3) := by decide +kernel
theorem d3_56 : decode prog_18_method_4_code 56 = .ok (.iload 6, 2) := by decide +kernel
theorem d3_58 : decode prog_18_method_4_code 58 = .ok (.iconst 1, 1) := by decide +kernel
theorem d3_59 : decode prog_18_method_4_code 59 = .ok (.iadd, 1) := by decide +kernel
theorem d3_60 : decode prog_18_method_4_code 60 = .ok (.istore 4, 2) := by decide +kernel
theorem d3_62 : decode prog_18_method_4_code 62 = .ok (.goto (-40), 3) := by decide +kernel
set_option maxRecDepth 65536 in
theorem own_tn {Z : State} {a0 : Array Value} {n0 : Nat} {R : Room} {l : Launch} {Q : Option Value → own_Hs → Prop} {G : Nat → Nat → own_Hs → Nat → List Slot → List Value → Prop} (hw : ∀ d ∈ tables_1, d.before a0 Z = true)
    (C : own_Wk Z n0 R (⟨"com/example/kingfisher/kingfisher/index/SentenceBounds", "sentence", "(II)I"⟩ : MethodName) prog_18_method_4_code 7 (some .int) l Q G) (o f e b : Addr) (g : Nat → Int32) (ps : List Value) (Hr : own_Hs) (dc P fi : Int32) (i j x : Int32) (s6 : Slot) (hs6 : s6 = .unset ∨ ∃ w : Value, s6 = .val w ∧ w.category = 1) (hm0 : i < j → ¬ (((i + j).toUInt32 >>> ((1 : Int32) &&& 31).toUInt32).toInt32) < 0) (hm1 : i < j → (own_vs g)[(((i + j).toUInt32 >>> ((1 : Int32) &&& 31).toUInt32).toInt32).toNatClampNeg]? = some (.int x))
    (K0 : ¬ i < j → G 0 0 ((e, .inl (.int, (own_vs g))) :: (f, .inl (.int, ps)) :: (o, .inr ("com/example/kingfisher/kingfisher/index/SentenceBounds", [("firstSentences", "[I", .ref f), ("ends", "[I", .ref e), ("lengths", "[I", .ref b)])) :: Hr) 65 [.val (.ref o), .val (.int dc), .val (.int P), .val (.int fi), .val (.int i), .val (.int j), s6] []) (K1 : i < j → P < x → ∀ z : Int32, G 0 0 ((e, .inl (.int, (own_vs g))) :: (f, .inl (.int, ps)) :: (o, .inr ("com/example/kingfisher/kingfisher/index/SentenceBounds", [("firstSentences", "[I", .ref f), ("ends", "[I", .ref e), ("lengths", "[I", .ref b)])) :: Hr) 22 [.val (.ref o), .val (.int dc), .val (.int P), .val (.int fi), .val (.int i), .val (.int (((i + j).toUInt32 >>> ((1 : Int32) &&& 31).toUInt32).toInt32)), .val (.int z)] []) (K2 : i < j → ¬ P < x → ∀ z : Int32, G 0 0 ((e, .inl (.int, (own_vs g))) :: (f, .inl (.int, ps)) :: (o, .inr ("com/example/kingfisher/kingfisher/index/SentenceBounds", [("firstSentences", "[I", .ref f), ("ends", "[I", .ref e), ("lengths", "[I", .ref b)])) :: Hr) 22 [.val (.ref o), .val (.int dc), .val (.int P), .val (.int fi), .val (.int ((((i + j).toUInt32 >>> ((1 : Int32) &&& 31).toUInt32).toInt32) + (1 : Int32))), .val (.int j), .val (.int z)] []) : G 0 0 ((e, .inl (.int, (own_vs g))) :: (f, .inl (.int, ps)) :: (o, .inr ("com/example/kingfisher/kingfisher/index/SentenceBounds", [("firstSentences", "[I", .ref f), ("ends", "[I", .ref e), ("lengths", "[I", .ref b)])) :: Hr) 22 [.val (.ref o), .val (.int dc), .val (.int P), .val (.int fi), .val (.int i), .val (.int j), s6] [] := by
    refine C.iload (q := 24) d3_22 rfl rfl ?_
    refine C.iload (q := 26) d3_24 rfl rfl ?_
    refine C.icmpGe (q := 65) (q' := 29) d3_26 (by decide) (by decide) rfl (fun h26 => ?_) (fun h26 => ?_)
    · refine C.iload (q := 31) d3_29 rfl rfl ?_
      refine C.iload (q := 33) d3_31 rfl rfl ?_
      refine C.iadd (q := 34) d3_33 rfl ?_
      refine C.iconst (q := 35) (z := (1 : Int32)) d3_34 rfl rfl ?_
      refine C.iushr (q := 36) d3_35 rfl ?_
      refine C.istore (q := 38) (ls' := [.val (.ref o), .val (.int dc), .val (.int P), .val (.int fi), .val (.int i), .val (.int j), .val (.int (((i + j).toUInt32 >>> ((1 : Int32) &&& 31).toUInt32).toInt32))]) d3_36 (XS.store1 rfl hs6 rfl) rfl ?_
      refine C.aloadN (q := 39) d3_38 rfl rfl rfl ?_
      refine C.getf (q := 42) 2 1 (v := .ref e) d3_39 (hw _ (List.mem_of_getElem? (i := 12) rfl)) rfl rfl rfl ?_
      refine C.iload (q := 44) d3_42 rfl rfl ?_
      refine C.iaload (q := 45) 0 (v := .int x) d3_44 rfl (hm0 h26) (hm1 h26) rfl ?_
      refine C.iloadN (q := 46) d3_45 rfl rfl ?_
      refine C.icmpLe (q := 56) (q' := 49) d3_46 (by decide) (by decide) rfl (fun h46 => ?_) (fun h46 => ?_)
      · refine C.iload (q := 51) d3_49 rfl rfl ?_
        refine C.istore (q := 53) (ls' := [.val (.ref o), .val (.int dc), .val (.int P), .val (.int fi), .val (.int i), .val (.int (((i + j).toUInt32 >>> ((1 : Int32) &&& 31).toUInt32).toInt32)), .val (.int (((i + j).toUInt32 >>> ((1 : Int32) &&& 31).toUInt32).toInt32))]) d3_51 rfl rfl ?_
        refine C.goto (q := 62) d3_53 (by decide) (by decide) ?_
        refine C.goto (q := 22) d3_62 (by decide) (by decide) ?_
        exact K1 h26 h46 _
      · refine C.iload (q := 58) d3_56 rfl rfl ?_
        refine C.iconst (q := 59) (z := (1 : Int32)) d3_58 rfl rfl ?_
        refine C.iadd (q := 60) d3_59 rfl ?_
        refine C.istore (q := 62) (ls' := [.val (.ref o), .val (.int dc), .val (.int P), .val (.int fi), .val (.int ((((i + j).toUInt32 >>> ((1 : Int32) &&& 31).toUInt32).toInt32) + (1 : Int32))), .val (.int j), .val (.int (((i + j).toUInt32 >>> ((1 : Int32) &&& 31).toUInt32).toInt32))]) d3_60 rfl rfl ?_
        refine C.goto (q := 22) d3_62 (by decide) (by decide) ?_
        exact K2 h26 h46 _
    · exact K0 h26
theorem own_lp {Z : State} {a0 : Array Value} {n0 : Nat} {R : Room} {l : Launch} {Q : Option Value → own_Hs → Prop} {G : Nat → Nat → own_Hs → Nat → List Slot → List Value → Prop} (hw : ∀ d ∈ tables_1, d.before a0 Z = true)
    (C : own_Wk Z n0 R (⟨"com/example/kingfisher/kingfisher/index/SentenceBounds", "sentence", "(II)I"⟩ : MethodName) prog_18_method_4_code 7 (some .int) l Q G) (o f e b : Addr) (g : Nat → Int32) (ps : List Value) (Hr : own_Hs) (dc P fi : Int32) (fN nN : Nat) (hn : nN < 8) (mono : ∀ m, m < 7 → ¬ g (m + 1) < g m) :
    ∀ (k i j : Nat) (s6 : Slot), (s6 = .unset ∨ ∃ w : Value, s6 = .val w ∧ w.category = 1) → j - i ≤ k → fN ≤ i → i ≤ j → j ≤ nN → (∀ m, fN ≤ m → m < i → ¬ P < g m) → P < g j →
      (∀ (r : Nat) (s : Slot), fN ≤ r → r ≤ nN → (∀ m, fN ≤ m → m < r → ¬ P < g m) → P < g r → G 0 0 ((e, .inl (.int, (own_vs g))) :: (f, .inl (.int, ps)) :: (o, .inr ("com/example/kingfisher/kingfisher/index/SentenceBounds", [("firstSentences", "[I", .ref f), ("ends", "[I", .ref e), ("lengths", "[I", .ref b)])) :: Hr) 65 [.val (.ref o), .val (.int dc), .val (.int P), .val (.int fi), .val (.int (Int32.ofNat r)), .val (.int (Int32.ofNat r)), s] []) → G 0 0 ((e, .inl (.int, (own_vs g))) :: (f, .inl (.int, ps)) :: (o, .inr ("com/example/kingfisher/kingfisher/index/SentenceBounds", [("firstSentences", "[I", .ref f), ("ends", "[I", .ref e), ("lengths", "[I", .ref b)])) :: Hr) 22 [.val (.ref o), .val (.int dc), .val (.int P), .val (.int fi), .val (.int (Int32.ofNat i)), .val (.int (Int32.ofNat j)), s6] [] := by
  have mono2 : ∀ d m, m + d < 8 → ¬ g (m + d) < g m := by
    intro d
    induction d with
    | zero => intro m _; exact Int32.lt_irrefl
    | succ d ih =>
      intro m h
      have a := ih m (by omega); have b := mono (m + d) (by omega)
      rw [Int32.lt_iff_toInt_lt] at a b ⊢
      rw [← Nat.add_assoc]; omega
  intro k
  induction k with
  | zero =>
    intro i j s6 hs6 hk hf hij hj hlo hhi K
    have hij' : i = j := by omega
    subst hij'
    refine own_tn hw C o f e b g ps Hr dc P fi (Int32.ofNat i) (Int32.ofNat i) 0 s6 hs6 (fun h => absurd h Int32.lt_irrefl) (fun h => absurd h Int32.lt_irrefl) (fun _ => ?_) (fun h => absurd h Int32.lt_irrefl) (fun h => absurd h Int32.lt_irrefl)
    exact K i s6 hf hj hlo hhi
  | succ k ih =>
    intro i j s6 hs6 hk hf hij hj hlo hhi K
    by_cases hlt : i < j
    · have hm : (i + j) / 2 < j := by omega
      refine own_tn hw C o f e b g ps Hr dc P fi (Int32.ofNat i) (Int32.ofNat j) (g ((i + j) / 2)) s6 hs6 (fun _ => ?_) (fun _ => ?_) (fun h => ?_) (fun _ h z => ?_) (fun _ h z => ?_)
      · rw [own_mid (by omega) (by omega)]; exact own_nn (by omega)
      · rw [own_mid (by omega) (by omega), own_cn (by omega)]; exact own_vs_at g (by omega)
      · exact absurd ((own_lt (by omega) (by omega)).mpr hlt) h
      · rw [own_mid (by omega) (by omega)]
        exact ih i ((i + j) / 2) _ (Or.inr ⟨_, rfl, rfl⟩) (by omega) hf (by omega) (by omega) hlo h K
      · rw [own_mid (by omega) (by omega), own_sc]
        refine ih ((i + j) / 2 + 1) j _ (Or.inr ⟨_, rfl, rfl⟩) (by omega) (by omega) (by omega) hj (fun m h1 h2 => ?_) hhi K
        have q := mono2 ((i + j) / 2 - m) m (by omega)
        rw [show m + ((i + j) / 2 - m) = (i + j) / 2 by omega] at q
        rw [Int32.lt_iff_toInt_lt] at h q ⊢
        omega
    · have hij' : i = j := by omega
      subst hij'
      refine own_tn hw C o f e b g ps Hr dc P fi (Int32.ofNat i) (Int32.ofNat i) 0 s6 hs6 (fun h => absurd h Int32.lt_irrefl) (fun h => absurd h Int32.lt_irrefl) (fun _ => ?_) (fun h => absurd h Int32.lt_irrefl) (fun h => absurd h Int32.lt_irrefl)
      exact K i s6 hf hj hlo hhi
theorem d3_0 : decode prog_18_method_4_code 0 = .ok (.aload_n 0, 1) := by decide +kernel
theorem d3_1 : decode prog_18_method_4_code 1 = .ok (.getfield 7, 3) := by decide +kernel
theorem d3_4 : decode prog_18_method_4_code 4 = .ok (.iload_n 1, 1) := by decide +kernel
theorem d3_5 : decode prog_18_method_4_code 5 = .ok (.iaload, 1) := by decide +kernel
theorem d3_6 : decode prog_18_method_4_code 6 = .ok (.istore_n 3, 1) := by decide +kernel
theorem d3_7 : decode prog_18_method_4_code 7 = .ok (.iload_n 3, 1) := by decide +kernel
theorem d3_8 : decode prog_18_method_4_code 8 = .ok (.istore 4, 2) := by decide +kernel
theorem d3_10 : decode prog_18_method_4_code 10 = .ok (.aload_n 0, 1) := by decide +kernel
theorem d3_11 : decode prog_18_method_4_code 11 = .ok (.getfield 7, 3) := by decide +kernel
theorem d3_14 : decode prog_18_method_4_code 14 = .ok (.iload_n 1, 1) := by decide +kernel
theorem d3_15 : decode prog_18_method_4_code 15 = .ok (.iconst 1, 1) := by decide +kernel
theorem d3_16 : decode prog_18_method_4_code 16 = .ok (.iadd, 1) := by decide +kernel
theorem d3_17 : decode prog_18_method_4_code 17 = .ok (.iaload, 1) := by decide +kernel
theorem d3_18 : decode prog_18_method_4_code 18 = .ok (.iconst 1, 1) := by decide +kernel
theorem d3_19 : decode prog_18_method_4_code 19 = .ok (.isub, 1) := by decide +kernel
theorem d3_20 : decode prog_18_method_4_code 20 = .ok (.istore 5, 2) := by decide +kernel
theorem d3_65 : decode prog_18_method_4_code 65 = .ok (.iload 4, 2) := by decide +kernel
theorem d3_67 : decode prog_18_method_4_code 67 = .ok (.iload_n 3, 1) := by decide +kernel
theorem d3_68 : decode prog_18_method_4_code 68 = .ok (.isub, 1) := by decide +kernel
theorem d3_69 : decode prog_18_method_4_code 69 = .ok (.ireturn, 1) := by decide +kernel
theorem own_pn3 : plainFor (⟨"com/example/kingfisher/kingfisher/index/SentenceBounds", "sentence", "(II)I"⟩ : MethodName) = true := by first | exact plainFor_of_name (by first | (simp [plainName, overriddenIn]; done) | decide +kernel) | decide +kernel
set_option maxHeartbeats 4000000 in
theorem own_ef3 (m : MethodId) (x0 : Addr) (x1 : Int32) (x2 : Int32) : entryFrame m #[.ref x0, .int x1, .int x2] 7 = mkF m 0 #[.val (.ref x0), .val (.int x1), .val (.int x2), .unset, .unset, .unset, .unset] [] := by first | (simp [entryFrame, mkF, argsToLocals, Value.category, maxLocals]; done) | rfl
set_option maxRecDepth 65536 in
set_option maxHeartbeats 40000000 in
theorem own_c3 (l : Launch) (Z : State) (a0 : Array Value) (n0 : Nat) (hw : ∀ d ∈ tables_1, d.before a0 Z = true) (ws : List Jvm.Cond) (o f e b : Addr) (g : Nat → Int32) (ps : List Value) (Hr : own_Hs) (dc P : Int32) (fN nN : Nat) (hf : fN < nN) (hn : nN ≤ 8) (mono : ∀ m, m < 7 → ¬ g (m + 1) < g m) (hP : P < g (nN - 1)) (d0 : ¬ dc < 0) (d1 : ps[dc.toNatClampNeg]? = some (.int (Int32.ofNat fN))) (d2 : ¬ dc + (1 : Int32) < 0) (d3 : ps[(dc + (1 : Int32)).toNatClampNeg]? = some (.int (Int32.ofNat nN))) :
    own_Con l Z n0 (⟨"com/example/kingfisher/kingfisher/index/SentenceBounds", "sentence", "(II)I"⟩ : MethodName) prog_18_method_4_code 7 (some .int) ws ({ frames := 0, cells := 0, slots := 0, locals := 0 } : Room) #[.ref o, .int dc, .int P] ((e, .inl (.int, (own_vs g))) :: (f, .inl (.int, ps)) :: (o, .inr ("com/example/kingfisher/kingfisher/index/SentenceBounds", [("firstSentences", "[I", .ref f), ("ends", "[I", .ref e), ("lengths", "[I", .ref b)])) :: Hr) (fun v H' => ∃ r : Nat, v = some (.int (Int32.ofNat r - Int32.ofNat fN)) ∧ fN ≤ r ∧ r < nN ∧ (∀ m, fN ≤ m → m < r → ¬ P < g m) ∧ P < g r ∧ H' = ((e, .inl (.int, (own_vs g))) :: (f, .inl (.int, ps)) :: (o, .inr ("com/example/kingfisher/kingfisher/index/SentenceBounds", [("firstSentences", "[I", .ref f), ("ends", "[I", .ref e), ("lengths", "[I", .ref b)])) :: Hr)) := by
  refine own_con own_pn3 (fun m_ => own_ef3 m_ o dc P) ?_
  intro G C
  refine C.aloadN (q := 1) d3_0 rfl rfl rfl ?_
  refine C.getf (q := 4) 2 0 (v := .ref f) d3_1 (hw _ (List.mem_of_getElem? (i := 10) rfl)) rfl rfl rfl ?_
  refine C.iloadN (q := 5) d3_4 rfl rfl ?_
  refine C.iaload (q := 6) 1 (v := .int (Int32.ofNat fN)) d3_5 rfl d0 d1 rfl ?_
  refine C.istoreN (q := 7) (ls' := [.val (.ref o), .val (.int dc), .val (.int P), .val (.int (Int32.ofNat fN)), .unset, .unset, .unset]) d3_6 rfl rfl ?_
  refine C.iloadN (q := 8) d3_7 rfl rfl ?_
  refine C.istore (q := 10) (ls' := [.val (.ref o), .val (.int dc), .val (.int P), .val (.int (Int32.ofNat fN)), .val (.int (Int32.ofNat fN)), .unset, .unset]) d3_8 rfl rfl ?_
  refine C.aloadN (q := 11) d3_10 rfl rfl rfl ?_
  refine C.getf (q := 14) 2 0 (v := .ref f) d3_11 (hw _ (List.mem_of_getElem? (i := 10) rfl)) rfl rfl rfl ?_
  refine C.iloadN (q := 15) d3_14 rfl rfl ?_
  refine C.iconst (q := 16) (z := (1 : Int32)) d3_15 rfl rfl ?_
  refine C.iadd (q := 17) d3_16 rfl ?_
  refine C.iaload (q := 18) 1 (v := .int (Int32.ofNat nN)) d3_17 rfl d2 d3 rfl ?_
  refine C.iconst (q := 19) (z := (1 : Int32)) d3_18 rfl rfl ?_
  refine C.isub (q := 20) d3_19 rfl ?_
  refine C.istore (q := 22) (ls' := [.val (.ref o), .val (.int dc), .val (.int P), .val (.int (Int32.ofNat fN)), .val (.int (Int32.ofNat fN)), .val (.int ((Int32.ofNat nN) - (1 : Int32))), .unset]) d3_20 rfl rfl ?_
  rw [own_pr (by omega) (by omega)]
  refine own_lp hw C o f e b g ps Hr dc P (Int32.ofNat fN) fN (nN - 1) (by omega) mono 8 fN (nN - 1) .unset (Or.inl rfl) (by omega) (Nat.le_refl _) (by omega) (Nat.le_refl _) (fun m h1 h2 => absurd h1 (by omega)) hP (fun r s h1 h2 h3 h4 => ?_)
  refine C.iload (q := 67) d3_65 rfl rfl ?_
  refine C.iloadN (q := 68) d3_67 rfl rfl ?_
  refine C.isub (q := 69) d3_68 rfl ?_
  exact C.retI d3_69 (by decide) (by decide) ⟨r, rfl, h1, by omega, h3, h4, rfl⟩
theorem own_bl1 {g : Nat → Int32} {P : Int32} {fN nN r i : Nat} (hi : i < 8) (hf : fN ≤ 8) (hn : nN ≤ 8) (h1 : fN ≤ r) (h2 : r < nN) (h3 : ∀ m, fN ≤ m → m < r → ¬ P < g m) (h4 : P < g r) (mono : ∀ m, m < 7 → ¬ g (m + 1) < g m) : own_bl (Int32.ofNat fN) (Int32.ofNat nN) P (g i) i = if fN ≤ i ∧ i < r then 1 else 0 := by
  have mono2 : ∀ d m, m + d < 8 → ¬ g (m + d) < g m := by
    intro d
    induction d with
    | zero => intro m _; exact Int32.lt_irrefl
    | succ d ih =>
      intro m h
      have a := ih m (by omega); have b := mono (m + d) (by omega)
      rw [Int32.lt_iff_toInt_lt] at a b ⊢
      rw [← Nat.add_assoc]; omega
  unfold own_bl
  have A := own_lt (i := i) (n := fN) (by omega) (by omega)
  have B := own_lt (i := i) (n := nN) (by omega) (by omega)
  by_cases q : fN ≤ i ∧ i < r
  · rw [if_pos q, if_pos ⟨fun z => absurd (A.mp z) (by omega), B.mpr (by omega), h3 i q.1 q.2⟩]
  · rw [if_neg q, if_neg]
    intro z
    have zA : ¬ i < fN := fun h => z.1 (A.mpr h)
    have zB : i < nN := B.mp z.2.1
    have hr : r ≤ i := by omega
    have c := mono2 (i - r) r (by omega)
    rw [show r + (i - r) = i by omega] at c
    have z2 := z.2.2
    rw [Int32.lt_iff_toInt_lt] at c h4 z2
    omega
theorem own_sum {g : Nat → Int32} {P : Int32} {fN nN r : Nat} (hn : nN ≤ 8) (h1 : fN ≤ r) (h2 : r < nN) (h3 : ∀ m, fN ≤ m → m < r → ¬ P < g m) (h4 : P < g r) (mono : ∀ m, m < 7 → ¬ g (m + 1) < g m) :
    Int32.ofNat r - Int32.ofNat fN = (((((((own_bl (Int32.ofNat fN) (Int32.ofNat nN) P (g 0) 0 + own_bl (Int32.ofNat fN) (Int32.ofNat nN) P (g 1) 1) + own_bl (Int32.ofNat fN) (Int32.ofNat nN) P (g 2) 2) + own_bl (Int32.ofNat fN) (Int32.ofNat nN) P (g 3) 3) + own_bl (Int32.ofNat fN) (Int32.ofNat nN) P (g 4) 4) + own_bl (Int32.ofNat fN) (Int32.ofNat nN) P (g 5) 5) + own_bl (Int32.ofNat fN) (Int32.ofNat nN) P (g 6) 6) + own_bl (Int32.ofNat fN) (Int32.ofNat nN) P (g 7) 7) := by
  rw [own_bl1 (i := 0) (by omega) (by omega) hn h1 h2 h3 h4 mono, own_bl1 (i := 1) (by omega) (by omega) hn h1 h2 h3 h4 mono, own_bl1 (i := 2) (by omega) (by omega) hn h1 h2 h3 h4 mono, own_bl1 (i := 3) (by omega) (by omega) hn h1 h2 h3 h4 mono,
    own_bl1 (i := 4) (by omega) (by omega) hn h1 h2 h3 h4 mono, own_bl1 (i := 5) (by omega) (by omega) hn h1 h2 h3 h4 mono, own_bl1 (i := 6) (by omega) (by omega) hn h1 h2 h3 h4 mono, own_bl1 (i := 7) (by omega) (by omega) hn h1 h2 h3 h4 mono]
  have key : ∀ a b : Fin 8, a.val ≤ b.val → Int32.ofNat b.val - Int32.ofNat a.val = ((((((((if a.val ≤ 0 ∧ 0 < b.val then 1 else 0) + (if a.val ≤ 1 ∧ 1 < b.val then 1 else 0)) + (if a.val ≤ 2 ∧ 2 < b.val then 1 else 0)) + (if a.val ≤ 3 ∧ 3 < b.val then 1 else 0)) + (if a.val ≤ 4 ∧ 4 < b.val then 1 else 0)) + (if a.val ≤ 5 ∧ 5 < b.val then 1 else 0)) + (if a.val ≤ 6 ∧ 6 < b.val then 1 else 0)) + (if a.val ≤ 7 ∧ 7 < b.val then 1 else 0) : Int32) := by decide +kernel
  exact key ⟨fN, by omega⟩ ⟨r, by omega⟩ h1
theorem own_ps {q len : Int32} (h0 : 0 ≤ len.toInt) (h : ¬ len = 0) : (q &&& (2147483647 : Int32)) % len < len := by
  have m := c_mask q 2147483647 31 (by decide) (by decide)
  rw [← Int32.toInt_inj] at h
  simp only [Int32.reduceToInt] at h
  have e := (c_iremV (q &&& 2147483647) len).1 (by omega) (by omega)
  rw [Int32.lt_iff_toInt_lt]; omega
theorem own_pnlaw : plainFor x = true := by first | exact plainFor_of_name (by first | (simp [plainName, overriddenIn]; done) | decide +kernel) | decide +kernel
set_option maxHeartbeats 4000000 in
theorem own_eflaw (m : MethodId) (x0 : Int32) (x1 : Int32) (x2 : Int32) (x3 : Int32) : entryFrame m #[.int x0, .int x1, .int x2, .int x3] maxLocals = mkF m 0 #[.val (.int x0), .val (.int x1), .val (.int x2), .val (.int x3), .unset, .unset, .unset, .unset, .unset, .unset, .unset, .unset, .unset, .unset, .unset] [] := by first | (simp [entryFrame, mkF, argsToLocals, Value.category, maxLocals]; done) | rfl
set_option maxRecDepth 65536 in
set_option maxHeartbeats 40000000 in
theorem own_claw (l : Launch) (Z : State) (a0 : Array Value) (n0 : Nat) (hw : ∀ d ∈ tables_1, d.before a0 Z = true) (ws : List Jvm.Cond) (a b c d : Int32)  :
    own_Con l Z n0 x code maxLocals ret ws room_1 #[.int a, .int b, .int c, .int d] [] (fun v _ => v = some (.int 1)) := by
  refine own_con own_pnlaw (fun m_ => own_eflaw m_ a b c d) ?_
  intro G C
  refine C.iloadN (q := 1) at_0 rfl rfl ?_
  refine C.bipush (q := 3) (z := (7 : Int32)) at_1 rfl rfl ?_
  refine C.iand (q := 4) at_3 rfl ?_
  refine C.iconst (q := 5) (z := (5 : Int32)) at_4 rfl rfl ?_
  refine C.irem (q := 6) at_5 (by decide) rfl ?_
  obtain ⟨n, hn, en⟩ := own_n5 a
  rw [en]
  refine C.istore (q := 8) (ls' := [.val (.int a), .val (.int b), .val (.int c), .val (.int d), .val (.int (Int32.ofNat n)), .unset, .unset, .unset, .unset, .unset, .unset, .unset, .unset, .unset, .unset]) at_6 rfl rfl ?_
  refine C.iloadN (q := 9) at_8 rfl rfl ?_
  refine C.iconst (q := 10) (z := (3 : Int32)) at_9 rfl rfl ?_
  refine C.iushr (q := 11) at_10 rfl ?_
  refine C.bipush (q := 13) (z := (7 : Int32)) at_11 rfl rfl ?_
  refine C.iand (q := 14) at_13 rfl ?_
  refine C.iconst (q := 15) (z := (5 : Int32)) at_14 rfl rfl ?_
  refine C.irem (q := 16) at_15 (by decide) rfl ?_
  obtain ⟨m, hm, em⟩ := own_n5 ((a.toUInt32 >>> ((3 : Int32) &&& 31).toUInt32).toInt32)
  rw [em]
  refine C.istore (q := 18) (ls' := [.val (.int a), .val (.int b), .val (.int c), .val (.int d), .val (.int (Int32.ofNat n)), .val (.int (Int32.ofNat m)), .unset, .unset, .unset, .unset, .unset, .unset, .unset, .unset, .unset]) at_16 rfl rfl ?_
  refine C.bipush (q := 20) (z := (8 : Int32)) at_18 rfl rfl ?_
  refine C.newarr (q := 22) 8 (ty := .int) (vs := [.int (0 : Int32), .int (0 : Int32), .int (0 : Int32), .int (0 : Int32), .int (0 : Int32), .int (0 : Int32), .int (0 : Int32), .int (0 : Int32)]) (k' := 1) (n' := 8) at_20 (hw _ (List.mem_of_getElem? (i := 0) rfl)) (by decide) (by decide) (by decide) (by decide) (by decide) rfl rfl rfl rfl rfl (fun a20 => ?_)
  show G 1 8 [(a20, .inl (.int, [.int (0 : Int32), .int (0 : Int32), .int (0 : Int32), .int (0 : Int32), .int (0 : Int32), .int (0 : Int32), .int (0 : Int32), .int (0 : Int32)]))] 22 [.val (.int a), .val (.int b), .val (.int c), .val (.int d), .val (.int (Int32.ofNat n)), .val (.int (Int32.ofNat m)), .unset, .unset, .unset, .unset, .unset, .unset, .unset, .unset, .unset] [.ref a20]
  refine C.astore (q := 24) (ls' := [.val (.int a), .val (.int b), .val (.int c), .val (.int d), .val (.int (Int32.ofNat n)), .val (.int (Int32.ofNat m)), .val (.ref a20), .unset, .unset, .unset, .unset, .unset, .unset, .unset, .unset]) at_22 rfl rfl rfl ?_
  refine C.aload (q := 26) at_24 rfl rfl rfl ?_
  refine C.iconst (q := 27) (z := (0 : Int32)) at_26 rfl rfl ?_
  refine C.iloadN (q := 28) at_27 rfl rfl ?_
  refine C.bipush (q := 30) (z := (15 : Int32)) at_28 rfl rfl ?_
  refine C.iand (q := 31) at_30 rfl ?_
  generalize hv0 : (b &&& (15 : Int32)) = v0
  have b0 : 0 ≤ v0.toInt ∧ v0.toInt ≤ 15 := by rw [← hv0]; exact own_m15 _
  refine C.iastore (q := 32) 0 (H' := [(a20, .inl (.int, [.int v0, .int (0 : Int32), .int (0 : Int32), .int (0 : Int32), .int (0 : Int32), .int (0 : Int32), .int (0 : Int32), .int (0 : Int32)]))]) at_31 rfl (by decide) (by show _ < 8; decide) rfl rfl ?_
  refine C.aload (q := 34) at_32 rfl rfl rfl ?_
  refine C.iconst (q := 35) (z := (1 : Int32)) at_34 rfl rfl ?_
  refine C.aload (q := 37) at_35 rfl rfl rfl ?_
  refine C.iconst (q := 38) (z := (0 : Int32)) at_37 rfl rfl ?_
  refine C.iaload (q := 39) 0 (v := .int v0) at_38 rfl (by decide) rfl rfl ?_
  refine C.iloadN (q := 40) at_39 rfl rfl ?_
  refine C.iconst (q := 41) (z := (4 : Int32)) at_40 rfl rfl ?_
  refine C.iushr (q := 42) at_41 rfl ?_
  refine C.bipush (q := 44) (z := (15 : Int32)) at_42 rfl rfl ?_
  refine C.iand (q := 45) at_44 rfl ?_
  refine C.iadd (q := 46) at_45 rfl ?_
  generalize hv1 : (v0 + (((b.toUInt32 >>> ((4 : Int32) &&& 31).toUInt32).toInt32) &&& (15 : Int32))) = v1
  have c1 : v0.toInt ≤ v1.toInt ∧ v1.toInt ≤ 30 := by rw [← hv1]; exact own_ad b0 (by decide) _
  have b1 : 0 ≤ v1.toInt ∧ v1.toInt ≤ 30 := ⟨by omega, c1.2⟩
  refine C.iastore (q := 47) 0 (H' := [(a20, .inl (.int, [.int v0, .int v1, .int (0 : Int32), .int (0 : Int32), .int (0 : Int32), .int (0 : Int32), .int (0 : Int32), .int (0 : Int32)]))]) at_46 rfl (by decide) (by show _ < 8; decide) rfl rfl ?_
  refine C.aload (q := 49) at_47 rfl rfl rfl ?_
  refine C.iconst (q := 50) (z := (2 : Int32)) at_49 rfl rfl ?_
  refine C.aload (q := 52) at_50 rfl rfl rfl ?_
  refine C.iconst (q := 53) (z := (1 : Int32)) at_52 rfl rfl ?_
  refine C.iaload (q := 54) 0 (v := .int v1) at_53 rfl (by decide) rfl rfl ?_
  refine C.iloadN (q := 55) at_54 rfl rfl ?_
  refine C.bipush (q := 57) (z := (8 : Int32)) at_55 rfl rfl ?_
  refine C.iushr (q := 58) at_57 rfl ?_
  refine C.bipush (q := 60) (z := (15 : Int32)) at_58 rfl rfl ?_
  refine C.iand (q := 61) at_60 rfl ?_
  refine C.iadd (q := 62) at_61 rfl ?_
  generalize hv2 : (v1 + (((b.toUInt32 >>> ((8 : Int32) &&& 31).toUInt32).toInt32) &&& (15 : Int32))) = v2
  have c2 : v1.toInt ≤ v2.toInt ∧ v2.toInt ≤ 45 := by rw [← hv2]; exact own_ad b1 (by decide) _
  have b2 : 0 ≤ v2.toInt ∧ v2.toInt ≤ 45 := ⟨by omega, c2.2⟩
  refine C.iastore (q := 63) 0 (H' := [(a20, .inl (.int, [.int v0, .int v1, .int v2, .int (0 : Int32), .int (0 : Int32), .int (0 : Int32), .int (0 : Int32), .int (0 : Int32)]))]) at_62 rfl (by decide) (by show _ < 8; decide) rfl rfl ?_
  refine C.aload (q := 65) at_63 rfl rfl rfl ?_
  refine C.iconst (q := 66) (z := (3 : Int32)) at_65 rfl rfl ?_
  refine C.aload (q := 68) at_66 rfl rfl rfl ?_
  refine C.iconst (q := 69) (z := (2 : Int32)) at_68 rfl rfl ?_
  refine C.iaload (q := 70) 0 (v := .int v2) at_69 rfl (by decide) rfl rfl ?_
  refine C.iloadN (q := 71) at_70 rfl rfl ?_
  refine C.bipush (q := 73) (z := (12 : Int32)) at_71 rfl rfl ?_
  refine C.iushr (q := 74) at_73 rfl ?_
  refine C.bipush (q := 76) (z := (15 : Int32)) at_74 rfl rfl ?_
  refine C.iand (q := 77) at_76 rfl ?_
  refine C.iadd (q := 78) at_77 rfl ?_
  generalize hv3 : (v2 + (((b.toUInt32 >>> ((12 : Int32) &&& 31).toUInt32).toInt32) &&& (15 : Int32))) = v3
  have c3 : v2.toInt ≤ v3.toInt ∧ v3.toInt ≤ 60 := by rw [← hv3]; exact own_ad b2 (by decide) _
  have b3 : 0 ≤ v3.toInt ∧ v3.toInt ≤ 60 := ⟨by omega, c3.2⟩
  refine C.iastore (q := 79) 0 (H' := [(a20, .inl (.int, [.int v0, .int v1, .int v2, .int v3, .int (0 : Int32), .int (0 : Int32), .int (0 : Int32), .int (0 : Int32)]))]) at_78 rfl (by decide) (by show _ < 8; decide) rfl rfl ?_
  refine C.aload (q := 81) at_79 rfl rfl rfl ?_
  refine C.iconst (q := 82) (z := (4 : Int32)) at_81 rfl rfl ?_
  refine C.aload (q := 84) at_82 rfl rfl rfl ?_
  refine C.iconst (q := 85) (z := (3 : Int32)) at_84 rfl rfl ?_
  refine C.iaload (q := 86) 0 (v := .int v3) at_85 rfl (by decide) rfl rfl ?_
  refine C.iloadN (q := 87) at_86 rfl rfl ?_
  refine C.bipush (q := 89) (z := (16 : Int32)) at_87 rfl rfl ?_
  refine C.iushr (q := 90) at_89 rfl ?_
  refine C.bipush (q := 92) (z := (15 : Int32)) at_90 rfl rfl ?_
  refine C.iand (q := 93) at_92 rfl ?_
  refine C.iadd (q := 94) at_93 rfl ?_
  generalize hv4 : (v3 + (((b.toUInt32 >>> ((16 : Int32) &&& 31).toUInt32).toInt32) &&& (15 : Int32))) = v4
  have c4 : v3.toInt ≤ v4.toInt ∧ v4.toInt ≤ 75 := by rw [← hv4]; exact own_ad b3 (by decide) _
  have b4 : 0 ≤ v4.toInt ∧ v4.toInt ≤ 75 := ⟨by omega, c4.2⟩
  refine C.iastore (q := 95) 0 (H' := [(a20, .inl (.int, [.int v0, .int v1, .int v2, .int v3, .int v4, .int (0 : Int32), .int (0 : Int32), .int (0 : Int32)]))]) at_94 rfl (by decide) (by show _ < 8; decide) rfl rfl ?_
  refine C.aload (q := 97) at_95 rfl rfl rfl ?_
  refine C.iconst (q := 98) (z := (5 : Int32)) at_97 rfl rfl ?_
  refine C.aload (q := 100) at_98 rfl rfl rfl ?_
  refine C.iconst (q := 101) (z := (4 : Int32)) at_100 rfl rfl ?_
  refine C.iaload (q := 102) 0 (v := .int v4) at_101 rfl (by decide) rfl rfl ?_
  refine C.iloadN (q := 103) at_102 rfl rfl ?_
  refine C.bipush (q := 105) (z := (20 : Int32)) at_103 rfl rfl ?_
  refine C.iushr (q := 106) at_105 rfl ?_
  refine C.bipush (q := 108) (z := (15 : Int32)) at_106 rfl rfl ?_
  refine C.iand (q := 109) at_108 rfl ?_
  refine C.iadd (q := 110) at_109 rfl ?_
  generalize hv5 : (v4 + (((b.toUInt32 >>> ((20 : Int32) &&& 31).toUInt32).toInt32) &&& (15 : Int32))) = v5
  have c5 : v4.toInt ≤ v5.toInt ∧ v5.toInt ≤ 90 := by rw [← hv5]; exact own_ad b4 (by decide) _
  have b5 : 0 ≤ v5.toInt ∧ v5.toInt ≤ 90 := ⟨by omega, c5.2⟩
  refine C.iastore (q := 111) 0 (H' := [(a20, .inl (.int, [.int v0, .int v1, .int v2, .int v3, .int v4, .int v5, .int (0 : Int32), .int (0 : Int32)]))]) at_110 rfl (by decide) (by show _ < 8; decide) rfl rfl ?_
  refine C.aload (q := 113) at_111 rfl rfl rfl ?_
  refine C.bipush (q := 115) (z := (6 : Int32)) at_113 rfl rfl ?_
  refine C.aload (q := 117) at_115 rfl rfl rfl ?_
  refine C.iconst (q := 118) (z := (5 : Int32)) at_117 rfl rfl ?_
  refine C.iaload (q := 119) 0 (v := .int v5) at_118 rfl (by decide) rfl rfl ?_
  refine C.iloadN (q := 120) at_119 rfl rfl ?_
  refine C.bipush (q := 122) (z := (24 : Int32)) at_120 rfl rfl ?_
  refine C.iushr (q := 123) at_122 rfl ?_
  refine C.bipush (q := 125) (z := (15 : Int32)) at_123 rfl rfl ?_
  refine C.iand (q := 126) at_125 rfl ?_
  refine C.iadd (q := 127) at_126 rfl ?_
  generalize hv6 : (v5 + (((b.toUInt32 >>> ((24 : Int32) &&& 31).toUInt32).toInt32) &&& (15 : Int32))) = v6
  have c6 : v5.toInt ≤ v6.toInt ∧ v6.toInt ≤ 105 := by rw [← hv6]; exact own_ad b5 (by decide) _
  have b6 : 0 ≤ v6.toInt ∧ v6.toInt ≤ 105 := ⟨by omega, c6.2⟩
  refine C.iastore (q := 128) 0 (H' := [(a20, .inl (.int, [.int v0, .int v1, .int v2, .int v3, .int v4, .int v5, .int v6, .int (0 : Int32)]))]) at_127 rfl (by decide) (by show _ < 8; decide) rfl rfl ?_
  refine C.aload (q := 130) at_128 rfl rfl rfl ?_
  refine C.bipush (q := 132) (z := (7 : Int32)) at_130 rfl rfl ?_
  refine C.aload (q := 134) at_132 rfl rfl rfl ?_
  refine C.bipush (q := 136) (z := (6 : Int32)) at_134 rfl rfl ?_
  refine C.iaload (q := 137) 0 (v := .int v6) at_136 rfl (by decide) rfl rfl ?_
  refine C.iloadN (q := 138) at_137 rfl rfl ?_
  refine C.bipush (q := 140) (z := (28 : Int32)) at_138 rfl rfl ?_
  refine C.iushr (q := 141) at_140 rfl ?_
  refine C.bipush (q := 143) (z := (15 : Int32)) at_141 rfl rfl ?_
  refine C.iand (q := 144) at_143 rfl ?_
  refine C.iadd (q := 145) at_144 rfl ?_
  generalize hv7 : (v6 + (((b.toUInt32 >>> ((28 : Int32) &&& 31).toUInt32).toInt32) &&& (15 : Int32))) = v7
  have c7 : v6.toInt ≤ v7.toInt ∧ v7.toInt ≤ 120 := by rw [← hv7]; exact own_ad b6 (by decide) _
  have b7 : 0 ≤ v7.toInt ∧ v7.toInt ≤ 120 := ⟨by omega, c7.2⟩
  refine C.iastore (q := 146) 0 (H' := [(a20, .inl (.int, [.int v0, .int v1, .int v2, .int v3, .int v4, .int v5, .int v6, .int v7]))]) at_145 rfl (by decide) (by show _ < 8; decide) rfl rfl ?_
  have mono : ∀ m, m < 7 → ¬ (own_ev v0 v1 v2 v3 v4 v5 v6 v7) (m + 1) < (own_ev v0 v1 v2 v3 v4 v5 v6 v7) m := by
    intro m hm
    match m, hm with
    | 0, _ => show ¬ v1 < v0; rw [Int32.lt_iff_toInt_lt]; omega
    | 1, _ => show ¬ v2 < v1; rw [Int32.lt_iff_toInt_lt]; omega
    | 2, _ => show ¬ v3 < v2; rw [Int32.lt_iff_toInt_lt]; omega
    | 3, _ => show ¬ v4 < v3; rw [Int32.lt_iff_toInt_lt]; omega
    | 4, _ => show ¬ v5 < v4; rw [Int32.lt_iff_toInt_lt]; omega
    | 5, _ => show ¬ v6 < v5; rw [Int32.lt_iff_toInt_lt]; omega
    | 6, _ => show ¬ v7 < v6; rw [Int32.lt_iff_toInt_lt]; omega
  have pos : ∀ m, 0 ≤ ((own_ev v0 v1 v2 v3 v4 v5 v6 v7) m).toInt := by
    intro m
    match m with
    | 0 => show 0 ≤ v0.toInt; omega
    | 1 => show 0 ≤ v1.toInt; omega
    | 2 => show 0 ≤ v2.toInt; omega
    | 3 => show 0 ≤ v3.toInt; omega
    | 4 => show 0 ≤ v4.toInt; omega
    | 5 => show 0 ≤ v5.toInt; omega
    | 6 => show 0 ≤ v6.toInt; omega
    | _ + 7 => show 0 ≤ v7.toInt; omega
  show G 1 8 [(a20, .inl (.int, (own_vs (own_ev v0 v1 v2 v3 v4 v5 v6 v7))))] 146 [.val (.int a), .val (.int b), .val (.int c), .val (.int d), .val (.int (Int32.ofNat n)), .val (.int (Int32.ofNat m)), .val (.ref a20), .unset, .unset, .unset, .unset, .unset, .unset, .unset, .unset] []
  refine C.iconst (q := 147) (z := (3 : Int32)) at_146 rfl rfl ?_
  refine C.newarr (q := 149) 3 (ty := .int) (vs := [.int (0 : Int32), .int (0 : Int32), .int (0 : Int32)]) (k' := 2) (n' := 11) at_147 (hw _ (List.mem_of_getElem? (i := 0) rfl)) (by decide) (by decide) (by decide) (by decide) (by decide) rfl rfl rfl rfl rfl (fun a147 => ?_)
  show G 2 11 [(a20, .inl (.int, (own_vs (own_ev v0 v1 v2 v3 v4 v5 v6 v7)))), (a147, .inl (.int, [.int (0 : Int32), .int (0 : Int32), .int (0 : Int32)]))] 149 [.val (.int a), .val (.int b), .val (.int c), .val (.int d), .val (.int (Int32.ofNat n)), .val (.int (Int32.ofNat m)), .val (.ref a20), .unset, .unset, .unset, .unset, .unset, .unset, .unset, .unset] [.ref a147]
  refine C.dup (q := 150) at_149 rfl rfl ?_
  refine C.iconst (q := 151) (z := (0 : Int32)) at_150 rfl rfl ?_
  refine C.iconst (q := 152) (z := (0 : Int32)) at_151 rfl rfl ?_
  refine C.iastore (q := 153) 1 (H' := [(a20, .inl (.int, (own_vs (own_ev v0 v1 v2 v3 v4 v5 v6 v7)))), (a147, .inl (.int, [.int (0 : Int32), .int (0 : Int32), .int (0 : Int32)]))]) at_152 rfl (by decide) (by show _ < 3; decide) rfl rfl ?_
  refine C.dup (q := 154) at_153 rfl rfl ?_
  refine C.iconst (q := 155) (z := (1 : Int32)) at_154 rfl rfl ?_
  refine C.iload (q := 157) at_155 rfl rfl ?_
  refine C.iastore (q := 158) 1 (H' := [(a20, .inl (.int, (own_vs (own_ev v0 v1 v2 v3 v4 v5 v6 v7)))), (a147, .inl (.int, [.int (0 : Int32), .int (Int32.ofNat n), .int (0 : Int32)]))]) at_157 rfl (by decide) (by show _ < 3; decide) rfl rfl ?_
  refine C.dup (q := 159) at_158 rfl rfl ?_
  refine C.iconst (q := 160) (z := (2 : Int32)) at_159 rfl rfl ?_
  refine C.iload (q := 162) at_160 rfl rfl ?_
  refine C.iload (q := 164) at_162 rfl rfl ?_
  refine C.iadd (q := 165) at_164 rfl ?_
  rw [← Int32.ofNat_add]
  refine C.iastore (q := 166) 1 (H' := [(a20, .inl (.int, (own_vs (own_ev v0 v1 v2 v3 v4 v5 v6 v7)))), (a147, .inl (.int, [.int (0 : Int32), .int (Int32.ofNat n), .int (Int32.ofNat (n + m))]))]) at_165 rfl (by decide) (by show _ < 3; decide) rfl rfl ?_
  refine C.astore (q := 168) (ls' := [.val (.int a), .val (.int b), .val (.int c), .val (.int d), .val (.int (Int32.ofNat n)), .val (.int (Int32.ofNat m)), .val (.ref a20), .val (.ref a147), .unset, .unset, .unset, .unset, .unset, .unset, .unset]) at_166 rfl rfl rfl ?_
  refine C.newobj (q := 171) [("firstSentences", "[I", (.array .int)), ("ends", "[I", (.array .int)), ("lengths", "[I", (.array .int))] (fs := [("firstSentences", "[I", .null), ("ends", "[I", .null), ("lengths", "[I", .null)]) (k' := 3) (n' := 14) at_168 (hw _ (List.mem_of_getElem? (i := 1) rfl)) (hw _ (List.mem_of_getElem? (i := 2) rfl)) (hw _ (List.mem_of_getElem? (i := 3) rfl)) ⟨⟨Or.inr (hw _ (List.mem_of_getElem? (i := 11) rfl)), by decide⟩, ⟨⟨Or.inr (hw _ (List.mem_of_getElem? (i := 13) rfl)), by decide⟩, ⟨⟨Or.inr (hw _ (List.mem_of_getElem? (i := 15) rfl)), by decide⟩, trivial⟩⟩⟩ (by decide) (by decide) (by decide) rfl rfl rfl rfl (fun a168 => ?_)
  show G 3 14 [(a20, .inl (.int, (own_vs (own_ev v0 v1 v2 v3 v4 v5 v6 v7)))), (a147, .inl (.int, [.int (0 : Int32), .int (Int32.ofNat n), .int (Int32.ofNat (n + m))])), (a168, .inr ("com/example/kingfisher/kingfisher/index/SentenceBounds", [("firstSentences", "[I", .null), ("ends", "[I", .null), ("lengths", "[I", .null)]))] 171 [.val (.int a), .val (.int b), .val (.int c), .val (.int d), .val (.int (Int32.ofNat n)), .val (.int (Int32.ofNat m)), .val (.ref a20), .val (.ref a147), .unset, .unset, .unset, .unset, .unset, .unset, .unset] [.ref a168]
  refine C.dup (q := 172) at_171 rfl rfl ?_
  refine C.aload (q := 174) at_172 rfl rfl rfl ?_
  refine C.aload (q := 176) at_174 rfl rfl rfl ?_
  refine C.callI (q := 179) 1 a168 [.ref a147, .ref a20] [.ref a168] at_176 (hw _ (List.mem_of_getElem? (i := 4) rfl)) (hw _ (List.mem_of_getElem? (i := 5) rfl)) (hw _ (List.mem_of_getElem? (i := 3) rfl)) (hw _ (List.mem_of_getElem? (i := 6) rfl)) (own_c1 l Z a0 n0 hw [] a168 a147 a20 (own_ev v0 v1 v2 v3 v4 v5 v6 v7) 0 n (n + m) (by omega) (by omega) (by omega)) rfl (by decide) (by decide) (by decide) own_pd0 rfl rfl rfl (Nat.le_of_eq rfl) (by decide) (by decide) rfl ?_
  rintro _ _ ⟨rfl, lg, z1, z2, rfl⟩
  show G 4 16 [(a20, .inl (.int, (own_vs (own_ev v0 v1 v2 v3 v4 v5 v6 v7)))), (a147, .inl (.int, [.int (0 : Int32), .int (Int32.ofNat n), .int (Int32.ofNat (n + m))])), (a168, .inr ("com/example/kingfisher/kingfisher/index/SentenceBounds", [("firstSentences", "[I", .ref a147), ("ends", "[I", .ref a20), ("lengths", "[I", .ref lg)])), (lg, .inl (.int, [.int z1, .int z2]))] 179 [.val (.int a), .val (.int b), .val (.int c), .val (.int d), .val (.int (Int32.ofNat n)), .val (.int (Int32.ofNat m)), .val (.ref a20), .val (.ref a147), .unset, .unset, .unset, .unset, .unset, .unset, .unset] [.ref a168]
  refine C.astore (q := 181) (ls' := [.val (.int a), .val (.int b), .val (.int c), .val (.int d), .val (.int (Int32.ofNat n)), .val (.int (Int32.ofNat m)), .val (.ref a20), .val (.ref a147), .val (.ref a168), .unset, .unset, .unset, .unset, .unset, .unset]) at_179 rfl rfl rfl ?_
  refine C.iloadN (q := 182) at_181 rfl rfl ?_
  refine C.iconst (q := 183) (z := (1 : Int32)) at_182 rfl rfl ?_
  refine C.iand (q := 184) at_183 rfl ?_
  rcases own_b1 d with ed | ed
  · rw [ed]
    show G 4 16 [(a20, .inl (.int, (own_vs (own_ev v0 v1 v2 v3 v4 v5 v6 v7)))), (a147, .inl (.int, [.int (0 : Int32), .int (Int32.ofNat n), .int (Int32.ofNat (n + m))])), (a168, .inr ("com/example/kingfisher/kingfisher/index/SentenceBounds", [("firstSentences", "[I", .ref a147), ("ends", "[I", .ref a20), ("lengths", "[I", .ref lg)])), (lg, .inl (.int, [.int z1, .int z2]))] 184 [.val (.int a), .val (.int b), .val (.int c), .val (.int d), .val (.int (Int32.ofNat n)), .val (.int (Int32.ofNat m)), .val (.ref a20), .val (.ref a147), .val (.ref a168), .unset, .unset, .unset, .unset, .unset, .unset] [.int (0 : Int32)]
    refine C.istore (q := 186) (ls' := [.val (.int a), .val (.int b), .val (.int c), .val (.int d), .val (.int (Int32.ofNat n)), .val (.int (Int32.ofNat m)), .val (.ref a20), .val (.ref a147), .val (.ref a168), .val (.int (0 : Int32)), .unset, .unset, .unset, .unset, .unset]) at_184 rfl rfl ?_
    refine C.aload (q := 188) at_186 rfl rfl rfl ?_
    refine C.iload (q := 190) at_188 rfl rfl ?_
    refine C.iaload (q := 191) 1 (v := .int (0 : Int32)) at_190 rfl (by decide) rfl rfl ?_
    refine C.istore (q := 193) (ls' := [.val (.int a), .val (.int b), .val (.int c), .val (.int d), .val (.int (Int32.ofNat n)), .val (.int (Int32.ofNat m)), .val (.ref a20), .val (.ref a147), .val (.ref a168), .val (.int (0 : Int32)), .val (.int (0 : Int32)), .unset, .unset, .unset, .unset]) at_191 rfl rfl ?_
    refine C.aload (q := 195) at_193 rfl rfl rfl ?_
    refine C.iload (q := 197) at_195 rfl rfl ?_
    refine C.iconst (q := 198) (z := (1 : Int32)) at_197 rfl rfl ?_
    refine C.iadd (q := 199) at_198 rfl ?_
    show G 4 16 [(a20, .inl (.int, (own_vs (own_ev v0 v1 v2 v3 v4 v5 v6 v7)))), (a147, .inl (.int, [.int (0 : Int32), .int (Int32.ofNat n), .int (Int32.ofNat (n + m))])), (a168, .inr ("com/example/kingfisher/kingfisher/index/SentenceBounds", [("firstSentences", "[I", .ref a147), ("ends", "[I", .ref a20), ("lengths", "[I", .ref lg)])), (lg, .inl (.int, [.int z1, .int z2]))] 199 [.val (.int a), .val (.int b), .val (.int c), .val (.int d), .val (.int (Int32.ofNat n)), .val (.int (Int32.ofNat m)), .val (.ref a20), .val (.ref a147), .val (.ref a168), .val (.int (0 : Int32)), .val (.int (0 : Int32)), .unset, .unset, .unset, .unset] [.int (1 : Int32), .ref a147]
    refine C.iaload (q := 200) 1 (v := .int (Int32.ofNat n)) at_199 rfl (by decide) rfl rfl ?_
    refine C.istore (q := 202) (ls' := [.val (.int a), .val (.int b), .val (.int c), .val (.int d), .val (.int (Int32.ofNat n)), .val (.int (Int32.ofNat m)), .val (.ref a20), .val (.ref a147), .val (.ref a168), .val (.int (0 : Int32)), .val (.int (0 : Int32)), .val (.int (Int32.ofNat n)), .unset, .unset, .unset]) at_200 rfl rfl ?_
    refine C.iload (q := 204) at_202 rfl rfl ?_
    refine C.iload (q := 206) at_204 rfl rfl ?_
    refine C.icmpNe (q := 211) (q' := 209) at_206 (by decide) (by decide) rfl (fun h206 => ?_) (fun h206 => ?_)
    · refine C.iconst (q := 210) (z := (1 : Int32)) at_209 rfl rfl ?_
      exact C.retB (by simp) at_210 (by decide) (by decide) rfl
    · refine C.aload (q := 213) at_211 rfl rfl rfl ?_
      refine C.iload (q := 215) at_213 rfl rfl ?_
      refine C.iconst (q := 216) (z := (1 : Int32)) at_215 rfl rfl ?_
      refine C.isub (q := 217) at_216 rfl ?_
      refine C.iaload (q := 218) 0 (v := .int ((own_ev v0 v1 v2 v3 v4 v5 v6 v7) (n - 1))) at_217 rfl (own_ix (own_ev v0 v1 v2 v3 v4 v5 v6 v7) (k := n) (j := 0) (by omega) (by omega) h206).1 (own_ix (own_ev v0 v1 v2 v3 v4 v5 v6 v7) (k := n) (j := 0) (by omega) (by omega) h206).2 rfl ?_
      refine C.istore (q := 220) (ls' := [.val (.int a), .val (.int b), .val (.int c), .val (.int d), .val (.int (Int32.ofNat n)), .val (.int (Int32.ofNat m)), .val (.ref a20), .val (.ref a147), .val (.ref a168), .val (.int (0 : Int32)), .val (.int (0 : Int32)), .val (.int (Int32.ofNat n)), .val (.int ((own_ev v0 v1 v2 v3 v4 v5 v6 v7) (n - 1))), .unset, .unset]) at_218 rfl rfl ?_
      refine C.iload (q := 222) at_220 rfl rfl ?_
      refine C.ifNe (q := 227) (q' := 225) at_222 (by decide) (by decide) rfl (fun h222 => ?_) (fun h222 => ?_)
      · refine C.iconst (q := 226) (z := (1 : Int32)) at_225 rfl rfl ?_
        exact C.retB (by simp) at_226 (by decide) (by decide) rfl
      · refine C.iloadN (q := 228) at_227 rfl rfl ?_
        refine C.ldc (q := 230) (v := (2147483647 : Int32)) at_228 (hw _ (List.mem_of_getElem? (i := 16) rfl)) rfl ?_
        refine C.iand (q := 231) at_230 rfl ?_
        refine C.iload (q := 233) at_231 rfl rfl ?_
        refine C.irem (q := 234) at_233 (h222) rfl ?_
        have hne : 0 < n := by have q : n ≠ 0 := fun z => h206 (by rw [z]; rfl); omega
        have hP := own_ps (q := c) (pos (n - 1)) h222
        generalize hps : ((c &&& (2147483647 : Int32)) % ((own_ev v0 v1 v2 v3 v4 v5 v6 v7) (n - 1))) = ps at hP ⊢
        show G 4 16 [(a20, .inl (.int, (own_vs (own_ev v0 v1 v2 v3 v4 v5 v6 v7)))), (a147, .inl (.int, [.int (0 : Int32), .int (Int32.ofNat n), .int (Int32.ofNat (n + m))])), (a168, .inr ("com/example/kingfisher/kingfisher/index/SentenceBounds", [("firstSentences", "[I", .ref a147), ("ends", "[I", .ref a20), ("lengths", "[I", .ref lg)])), (lg, .inl (.int, [.int z1, .int z2]))] 234 [.val (.int a), .val (.int b), .val (.int c), .val (.int d), .val (.int (Int32.ofNat n)), .val (.int (Int32.ofNat m)), .val (.ref a20), .val (.ref a147), .val (.ref a168), .val (.int (0 : Int32)), .val (.int (0 : Int32)), .val (.int (Int32.ofNat n)), .val (.int ((own_ev v0 v1 v2 v3 v4 v5 v6 v7) (n - 1))), .unset, .unset] [.int ps]
        refine C.istore (q := 236) (ls' := [.val (.int a), .val (.int b), .val (.int c), .val (.int d), .val (.int (Int32.ofNat n)), .val (.int (Int32.ofNat m)), .val (.ref a20), .val (.ref a147), .val (.ref a168), .val (.int (0 : Int32)), .val (.int (0 : Int32)), .val (.int (Int32.ofNat n)), .val (.int ((own_ev v0 v1 v2 v3 v4 v5 v6 v7) (n - 1))), .val (.int ps), .unset]) at_234 rfl rfl ?_
        refine C.aload (q := 238) at_236 rfl rfl rfl ?_
        refine C.iload (q := 240) at_238 rfl rfl ?_
        refine C.iload (q := 242) at_240 rfl rfl ?_
        refine C.iload (q := 244) at_242 rfl rfl ?_
        refine C.iconst (q := 245) (z := (0 : Int32)) at_244 rfl rfl ?_
        refine C.callS (q := 248) 0 [.ref a20, .int (0 : Int32), .int (Int32.ofNat n), .int ps, .int (0 : Int32)] [] at_245 (hw _ (List.mem_of_getElem? (i := 17) rfl)) (hw _ (List.mem_of_getElem? (i := 18) rfl)) (hw _ (List.mem_of_getElem? (i := 19) rfl)) (hw _ (List.mem_of_getElem? (i := 20) rfl)) (own_c2 l Z a0 n0 hw [] a20 (own_ev v0 v1 v2 v3 v4 v5 v6 v7) _ (Int32.ofNat 0) (Int32.ofNat n) ps 0 (by decide)) (by decide) (by decide) (by decide) own_pd1 rfl rfl rfl (Nat.le_of_eq rfl) (by decide) (by decide) rfl ?_
        rintro _ _ ⟨rfl, hE⟩
        rw [hE]
        show G 4 16 [(a20, .inl (.int, (own_vs (own_ev v0 v1 v2 v3 v4 v5 v6 v7)))), (a147, .inl (.int, [.int (0 : Int32), .int (Int32.ofNat n), .int (Int32.ofNat (n + m))])), (a168, .inr ("com/example/kingfisher/kingfisher/index/SentenceBounds", [("firstSentences", "[I", .ref a147), ("ends", "[I", .ref a20), ("lengths", "[I", .ref lg)])), (lg, .inl (.int, [.int z1, .int z2]))] 248 [.val (.int a), .val (.int b), .val (.int c), .val (.int d), .val (.int (Int32.ofNat n)), .val (.int (Int32.ofNat m)), .val (.ref a20), .val (.ref a147), .val (.ref a168), .val (.int (0 : Int32)), .val (.int (0 : Int32)), .val (.int (Int32.ofNat n)), .val (.int ((own_ev v0 v1 v2 v3 v4 v5 v6 v7) (n - 1))), .val (.int ps), .unset] [.int (own_bl (Int32.ofNat 0) (Int32.ofNat n) ps ((own_ev v0 v1 v2 v3 v4 v5 v6 v7) 0) 0)]
        refine C.aload (q := 250) at_248 rfl rfl rfl ?_
        refine C.iload (q := 252) at_250 rfl rfl ?_
        refine C.iload (q := 254) at_252 rfl rfl ?_
        refine C.iload (q := 256) at_254 rfl rfl ?_
        refine C.iconst (q := 257) (z := (1 : Int32)) at_256 rfl rfl ?_
        refine C.callS (q := 260) 1 [.ref a20, .int (0 : Int32), .int (Int32.ofNat n), .int ps, .int (1 : Int32)] [.int (own_bl (Int32.ofNat 0) (Int32.ofNat n) ps ((own_ev v0 v1 v2 v3 v4 v5 v6 v7) 0) 0)] at_257 (hw _ (List.mem_of_getElem? (i := 17) rfl)) (hw _ (List.mem_of_getElem? (i := 18) rfl)) (hw _ (List.mem_of_getElem? (i := 19) rfl)) (hw _ (List.mem_of_getElem? (i := 20) rfl)) (own_c2 l Z a0 n0 hw [] a20 (own_ev v0 v1 v2 v3 v4 v5 v6 v7) _ (Int32.ofNat 0) (Int32.ofNat n) ps 1 (by decide)) (by decide) (by decide) (by decide) own_pd1 rfl rfl rfl (Nat.le_of_eq rfl) (by decide) (by decide) rfl ?_
        rintro _ _ ⟨rfl, hE⟩
        rw [hE]
        show G 4 16 [(a20, .inl (.int, (own_vs (own_ev v0 v1 v2 v3 v4 v5 v6 v7)))), (a147, .inl (.int, [.int (0 : Int32), .int (Int32.ofNat n), .int (Int32.ofNat (n + m))])), (a168, .inr ("com/example/kingfisher/kingfisher/index/SentenceBounds", [("firstSentences", "[I", .ref a147), ("ends", "[I", .ref a20), ("lengths", "[I", .ref lg)])), (lg, .inl (.int, [.int z1, .int z2]))] 260 [.val (.int a), .val (.int b), .val (.int c), .val (.int d), .val (.int (Int32.ofNat n)), .val (.int (Int32.ofNat m)), .val (.ref a20), .val (.ref a147), .val (.ref a168), .val (.int (0 : Int32)), .val (.int (0 : Int32)), .val (.int (Int32.ofNat n)), .val (.int ((own_ev v0 v1 v2 v3 v4 v5 v6 v7) (n - 1))), .val (.int ps), .unset] [.int (own_bl (Int32.ofNat 0) (Int32.ofNat n) ps ((own_ev v0 v1 v2 v3 v4 v5 v6 v7) 1) 1), .int (own_bl (Int32.ofNat 0) (Int32.ofNat n) ps ((own_ev v0 v1 v2 v3 v4 v5 v6 v7) 0) 0)]
        refine C.iadd (q := 261) at_260 rfl ?_
        refine C.aload (q := 263) at_261 rfl rfl rfl ?_
        refine C.iload (q := 265) at_263 rfl rfl ?_
        refine C.iload (q := 267) at_265 rfl rfl ?_
        refine C.iload (q := 269) at_267 rfl rfl ?_
        refine C.iconst (q := 270) (z := (2 : Int32)) at_269 rfl rfl ?_
        refine C.callS (q := 273) 1 [.ref a20, .int (0 : Int32), .int (Int32.ofNat n), .int ps, .int (2 : Int32)] [.int ((own_bl (Int32.ofNat 0) (Int32.ofNat n) ps ((own_ev v0 v1 v2 v3 v4 v5 v6 v7) 0) 0) + (own_bl (Int32.ofNat 0) (Int32.ofNat n) ps ((own_ev v0 v1 v2 v3 v4 v5 v6 v7) 1) 1))] at_270 (hw _ (List.mem_of_getElem? (i := 17) rfl)) (hw _ (List.mem_of_getElem? (i := 18) rfl)) (hw _ (List.mem_of_getElem? (i := 19) rfl)) (hw _ (List.mem_of_getElem? (i := 20) rfl)) (own_c2 l Z a0 n0 hw [] a20 (own_ev v0 v1 v2 v3 v4 v5 v6 v7) _ (Int32.ofNat 0) (Int32.ofNat n) ps 2 (by decide)) (by decide) (by decide) (by decide) own_pd1 rfl rfl rfl (Nat.le_of_eq rfl) (by decide) (by decide) rfl ?_
        rintro _ _ ⟨rfl, hE⟩
        rw [hE]
        show G 4 16 [(a20, .inl (.int, (own_vs (own_ev v0 v1 v2 v3 v4 v5 v6 v7)))), (a147, .inl (.int, [.int (0 : Int32), .int (Int32.ofNat n), .int (Int32.ofNat (n + m))])), (a168, .inr ("com/example/kingfisher/kingfisher/index/SentenceBounds", [("firstSentences", "[I", .ref a147), ("ends", "[I", .ref a20), ("lengths", "[I", .ref lg)])), (lg, .inl (.int, [.int z1, .int z2]))] 273 [.val (.int a), .val (.int b), .val (.int c), .val (.int d), .val (.int (Int32.ofNat n)), .val (.int (Int32.ofNat m)), .val (.ref a20), .val (.ref a147), .val (.ref a168), .val (.int (0 : Int32)), .val (.int (0 : Int32)), .val (.int (Int32.ofNat n)), .val (.int ((own_ev v0 v1 v2 v3 v4 v5 v6 v7) (n - 1))), .val (.int ps), .unset] [.int (own_bl (Int32.ofNat 0) (Int32.ofNat n) ps ((own_ev v0 v1 v2 v3 v4 v5 v6 v7) 2) 2), .int ((own_bl (Int32.ofNat 0) (Int32.ofNat n) ps ((own_ev v0 v1 v2 v3 v4 v5 v6 v7) 0) 0) + (own_bl (Int32.ofNat 0) (Int32.ofNat n) ps ((own_ev v0 v1 v2 v3 v4 v5 v6 v7) 1) 1))]
        refine C.iadd (q := 274) at_273 rfl ?_
        refine C.aload (q := 276) at_274 rfl rfl rfl ?_
        refine C.iload (q := 278) at_276 rfl rfl ?_
        refine C.iload (q := 280) at_278 rfl rfl ?_
        refine C.iload (q := 282) at_280 rfl rfl ?_
        refine C.iconst (q := 283) (z := (3 : Int32)) at_282 rfl rfl ?_
        refine C.callS (q := 286) 1 [.ref a20, .int (0 : Int32), .int (Int32.ofNat n), .int ps, .int (3 : Int32)] [.int (((own_bl (Int32.ofNat 0) (Int32.ofNat n) ps ((own_ev v0 v1 v2 v3 v4 v5 v6 v7) 0) 0) + (own_bl (Int32.ofNat 0) (Int32.ofNat n) ps ((own_ev v0 v1 v2 v3 v4 v5 v6 v7) 1) 1)) + (own_bl (Int32.ofNat 0) (Int32.ofNat n) ps ((own_ev v0 v1 v2 v3 v4 v5 v6 v7) 2) 2))] at_283 (hw _ (List.mem_of_getElem? (i := 17) rfl)) (hw _ (List.mem_of_getElem? (i := 18) rfl)) (hw _ (List.mem_of_getElem? (i := 19) rfl)) (hw _ (List.mem_of_getElem? (i := 20) rfl)) (own_c2 l Z a0 n0 hw [] a20 (own_ev v0 v1 v2 v3 v4 v5 v6 v7) _ (Int32.ofNat 0) (Int32.ofNat n) ps 3 (by decide)) (by decide) (by decide) (by decide) own_pd1 rfl rfl rfl (Nat.le_of_eq rfl) (by decide) (by decide) rfl ?_
        rintro _ _ ⟨rfl, hE⟩
        rw [hE]
        show G 4 16 [(a20, .inl (.int, (own_vs (own_ev v0 v1 v2 v3 v4 v5 v6 v7)))), (a147, .inl (.int, [.int (0 : Int32), .int (Int32.ofNat n), .int (Int32.ofNat (n + m))])), (a168, .inr ("com/example/kingfisher/kingfisher/index/SentenceBounds", [("firstSentences", "[I", .ref a147), ("ends", "[I", .ref a20), ("lengths", "[I", .ref lg)])), (lg, .inl (.int, [.int z1, .int z2]))] 286 [.val (.int a), .val (.int b), .val (.int c), .val (.int d), .val (.int (Int32.ofNat n)), .val (.int (Int32.ofNat m)), .val (.ref a20), .val (.ref a147), .val (.ref a168), .val (.int (0 : Int32)), .val (.int (0 : Int32)), .val (.int (Int32.ofNat n)), .val (.int ((own_ev v0 v1 v2 v3 v4 v5 v6 v7) (n - 1))), .val (.int ps), .unset] [.int (own_bl (Int32.ofNat 0) (Int32.ofNat n) ps ((own_ev v0 v1 v2 v3 v4 v5 v6 v7) 3) 3), .int (((own_bl (Int32.ofNat 0) (Int32.ofNat n) ps ((own_ev v0 v1 v2 v3 v4 v5 v6 v7) 0) 0) + (own_bl (Int32.ofNat 0) (Int32.ofNat n) ps ((own_ev v0 v1 v2 v3 v4 v5 v6 v7) 1) 1)) + (own_bl (Int32.ofNat 0) (Int32.ofNat n) ps ((own_ev v0 v1 v2 v3 v4 v5 v6 v7) 2) 2))]
        refine C.iadd (q := 287) at_286 rfl ?_
        refine C.aload (q := 289) at_287 rfl rfl rfl ?_
        refine C.iload (q := 291) at_289 rfl rfl ?_
        refine C.iload (q := 293) at_291 rfl rfl ?_
        refine C.iload (q := 295) at_293 rfl rfl ?_
        refine C.iconst (q := 296) (z := (4 : Int32)) at_295 rfl rfl ?_
        refine C.callS (q := 299) 1 [.ref a20, .int (0 : Int32), .int (Int32.ofNat n), .int ps, .int (4 : Int32)] [.int ((((own_bl (Int32.ofNat 0) (Int32.ofNat n) ps ((own_ev v0 v1 v2 v3 v4 v5 v6 v7) 0) 0) + (own_bl (Int32.ofNat 0) (Int32.ofNat n) ps ((own_ev v0 v1 v2 v3 v4 v5 v6 v7) 1) 1)) + (own_bl (Int32.ofNat 0) (Int32.ofNat n) ps ((own_ev v0 v1 v2 v3 v4 v5 v6 v7) 2) 2)) + (own_bl (Int32.ofNat 0) (Int32.ofNat n) ps ((own_ev v0 v1 v2 v3 v4 v5 v6 v7) 3) 3))] at_296 (hw _ (List.mem_of_getElem? (i := 17) rfl)) (hw _ (List.mem_of_getElem? (i := 18) rfl)) (hw _ (List.mem_of_getElem? (i := 19) rfl)) (hw _ (List.mem_of_getElem? (i := 20) rfl)) (own_c2 l Z a0 n0 hw [] a20 (own_ev v0 v1 v2 v3 v4 v5 v6 v7) _ (Int32.ofNat 0) (Int32.ofNat n) ps 4 (by decide)) (by decide) (by decide) (by decide) own_pd1 rfl rfl rfl (Nat.le_of_eq rfl) (by decide) (by decide) rfl ?_
        rintro _ _ ⟨rfl, hE⟩
        rw [hE]
        show G 4 16 [(a20, .inl (.int, (own_vs (own_ev v0 v1 v2 v3 v4 v5 v6 v7)))), (a147, .inl (.int, [.int (0 : Int32), .int (Int32.ofNat n), .int (Int32.ofNat (n + m))])), (a168, .inr ("com/example/kingfisher/kingfisher/index/SentenceBounds", [("firstSentences", "[I", .ref a147), ("ends", "[I", .ref a20), ("lengths", "[I", .ref lg)])), (lg, .inl (.int, [.int z1, .int z2]))] 299 [.val (.int a), .val (.int b), .val (.int c), .val (.int d), .val (.int (Int32.ofNat n)), .val (.int (Int32.ofNat m)), .val (.ref a20), .val (.ref a147), .val (.ref a168), .val (.int (0 : Int32)), .val (.int (0 : Int32)), .val (.int (Int32.ofNat n)), .val (.int ((own_ev v0 v1 v2 v3 v4 v5 v6 v7) (n - 1))), .val (.int ps), .unset] [.int (own_bl (Int32.ofNat 0) (Int32.ofNat n) ps ((own_ev v0 v1 v2 v3 v4 v5 v6 v7) 4) 4), .int ((((own_bl (Int32.ofNat 0) (Int32.ofNat n) ps ((own_ev v0 v1 v2 v3 v4 v5 v6 v7) 0) 0) + (own_bl (Int32.ofNat 0) (Int32.ofNat n) ps ((own_ev v0 v1 v2 v3 v4 v5 v6 v7) 1) 1)) + (own_bl (Int32.ofNat 0) (Int32.ofNat n) ps ((own_ev v0 v1 v2 v3 v4 v5 v6 v7) 2) 2)) + (own_bl (Int32.ofNat 0) (Int32.ofNat n) ps ((own_ev v0 v1 v2 v3 v4 v5 v6 v7) 3) 3))]
        refine C.iadd (q := 300) at_299 rfl ?_
        refine C.aload (q := 302) at_300 rfl rfl rfl ?_
        refine C.iload (q := 304) at_302 rfl rfl ?_
        refine C.iload (q := 306) at_304 rfl rfl ?_
        refine C.iload (q := 308) at_306 rfl rfl ?_
        refine C.iconst (q := 309) (z := (5 : Int32)) at_308 rfl rfl ?_
        refine C.callS (q := 312) 1 [.ref a20, .int (0 : Int32), .int (Int32.ofNat n), .int ps, .int (5 : Int32)] [.int (((((own_bl (Int32.ofNat 0) (Int32.ofNat n) ps ((own_ev v0 v1 v2 v3 v4 v5 v6 v7) 0) 0) + (own_bl (Int32.ofNat 0) (Int32.ofNat n) ps ((own_ev v0 v1 v2 v3 v4 v5 v6 v7) 1) 1)) + (own_bl (Int32.ofNat 0) (Int32.ofNat n) ps ((own_ev v0 v1 v2 v3 v4 v5 v6 v7) 2) 2)) + (own_bl (Int32.ofNat 0) (Int32.ofNat n) ps ((own_ev v0 v1 v2 v3 v4 v5 v6 v7) 3) 3)) + (own_bl (Int32.ofNat 0) (Int32.ofNat n) ps ((own_ev v0 v1 v2 v3 v4 v5 v6 v7) 4) 4))] at_309 (hw _ (List.mem_of_getElem? (i := 17) rfl)) (hw _ (List.mem_of_getElem? (i := 18) rfl)) (hw _ (List.mem_of_getElem? (i := 19) rfl)) (hw _ (List.mem_of_getElem? (i := 20) rfl)) (own_c2 l Z a0 n0 hw [] a20 (own_ev v0 v1 v2 v3 v4 v5 v6 v7) _ (Int32.ofNat 0) (Int32.ofNat n) ps 5 (by decide)) (by decide) (by decide) (by decide) own_pd1 rfl rfl rfl (Nat.le_of_eq rfl) (by decide) (by decide) rfl ?_
        rintro _ _ ⟨rfl, hE⟩
        rw [hE]
        show G 4 16 [(a20, .inl (.int, (own_vs (own_ev v0 v1 v2 v3 v4 v5 v6 v7)))), (a147, .inl (.int, [.int (0 : Int32), .int (Int32.ofNat n), .int (Int32.ofNat (n + m))])), (a168, .inr ("com/example/kingfisher/kingfisher/index/SentenceBounds", [("firstSentences", "[I", .ref a147), ("ends", "[I", .ref a20), ("lengths", "[I", .ref lg)])), (lg, .inl (.int, [.int z1, .int z2]))] 312 [.val (.int a), .val (.int b), .val (.int c), .val (.int d), .val (.int (Int32.ofNat n)), .val (.int (Int32.ofNat m)), .val (.ref a20), .val (.ref a147), .val (.ref a168), .val (.int (0 : Int32)), .val (.int (0 : Int32)), .val (.int (Int32.ofNat n)), .val (.int ((own_ev v0 v1 v2 v3 v4 v5 v6 v7) (n - 1))), .val (.int ps), .unset] [.int (own_bl (Int32.ofNat 0) (Int32.ofNat n) ps ((own_ev v0 v1 v2 v3 v4 v5 v6 v7) 5) 5), .int (((((own_bl (Int32.ofNat 0) (Int32.ofNat n) ps ((own_ev v0 v1 v2 v3 v4 v5 v6 v7) 0) 0) + (own_bl (Int32.ofNat 0) (Int32.ofNat n) ps ((own_ev v0 v1 v2 v3 v4 v5 v6 v7) 1) 1)) + (own_bl (Int32.ofNat 0) (Int32.ofNat n) ps ((own_ev v0 v1 v2 v3 v4 v5 v6 v7) 2) 2)) + (own_bl (Int32.ofNat 0) (Int32.ofNat n) ps ((own_ev v0 v1 v2 v3 v4 v5 v6 v7) 3) 3)) + (own_bl (Int32.ofNat 0) (Int32.ofNat n) ps ((own_ev v0 v1 v2 v3 v4 v5 v6 v7) 4) 4))]
        refine C.iadd (q := 313) at_312 rfl ?_
        refine C.aload (q := 315) at_313 rfl rfl rfl ?_
        refine C.iload (q := 317) at_315 rfl rfl ?_
        refine C.iload (q := 319) at_317 rfl rfl ?_
        refine C.iload (q := 321) at_319 rfl rfl ?_
        refine C.bipush (q := 323) (z := (6 : Int32)) at_321 rfl rfl ?_
        refine C.callS (q := 326) 1 [.ref a20, .int (0 : Int32), .int (Int32.ofNat n), .int ps, .int (6 : Int32)] [.int ((((((own_bl (Int32.ofNat 0) (Int32.ofNat n) ps ((own_ev v0 v1 v2 v3 v4 v5 v6 v7) 0) 0) + (own_bl (Int32.ofNat 0) (Int32.ofNat n) ps ((own_ev v0 v1 v2 v3 v4 v5 v6 v7) 1) 1)) + (own_bl (Int32.ofNat 0) (Int32.ofNat n) ps ((own_ev v0 v1 v2 v3 v4 v5 v6 v7) 2) 2)) + (own_bl (Int32.ofNat 0) (Int32.ofNat n) ps ((own_ev v0 v1 v2 v3 v4 v5 v6 v7) 3) 3)) + (own_bl (Int32.ofNat 0) (Int32.ofNat n) ps ((own_ev v0 v1 v2 v3 v4 v5 v6 v7) 4) 4)) + (own_bl (Int32.ofNat 0) (Int32.ofNat n) ps ((own_ev v0 v1 v2 v3 v4 v5 v6 v7) 5) 5))] at_323 (hw _ (List.mem_of_getElem? (i := 17) rfl)) (hw _ (List.mem_of_getElem? (i := 18) rfl)) (hw _ (List.mem_of_getElem? (i := 19) rfl)) (hw _ (List.mem_of_getElem? (i := 20) rfl)) (own_c2 l Z a0 n0 hw [] a20 (own_ev v0 v1 v2 v3 v4 v5 v6 v7) _ (Int32.ofNat 0) (Int32.ofNat n) ps 6 (by decide)) (by decide) (by decide) (by decide) own_pd1 rfl rfl rfl (Nat.le_of_eq rfl) (by decide) (by decide) rfl ?_
        rintro _ _ ⟨rfl, hE⟩
        rw [hE]
        show G 4 16 [(a20, .inl (.int, (own_vs (own_ev v0 v1 v2 v3 v4 v5 v6 v7)))), (a147, .inl (.int, [.int (0 : Int32), .int (Int32.ofNat n), .int (Int32.ofNat (n + m))])), (a168, .inr ("com/example/kingfisher/kingfisher/index/SentenceBounds", [("firstSentences", "[I", .ref a147), ("ends", "[I", .ref a20), ("lengths", "[I", .ref lg)])), (lg, .inl (.int, [.int z1, .int z2]))] 326 [.val (.int a), .val (.int b), .val (.int c), .val (.int d), .val (.int (Int32.ofNat n)), .val (.int (Int32.ofNat m)), .val (.ref a20), .val (.ref a147), .val (.ref a168), .val (.int (0 : Int32)), .val (.int (0 : Int32)), .val (.int (Int32.ofNat n)), .val (.int ((own_ev v0 v1 v2 v3 v4 v5 v6 v7) (n - 1))), .val (.int ps), .unset] [.int (own_bl (Int32.ofNat 0) (Int32.ofNat n) ps ((own_ev v0 v1 v2 v3 v4 v5 v6 v7) 6) 6), .int ((((((own_bl (Int32.ofNat 0) (Int32.ofNat n) ps ((own_ev v0 v1 v2 v3 v4 v5 v6 v7) 0) 0) + (own_bl (Int32.ofNat 0) (Int32.ofNat n) ps ((own_ev v0 v1 v2 v3 v4 v5 v6 v7) 1) 1)) + (own_bl (Int32.ofNat 0) (Int32.ofNat n) ps ((own_ev v0 v1 v2 v3 v4 v5 v6 v7) 2) 2)) + (own_bl (Int32.ofNat 0) (Int32.ofNat n) ps ((own_ev v0 v1 v2 v3 v4 v5 v6 v7) 3) 3)) + (own_bl (Int32.ofNat 0) (Int32.ofNat n) ps ((own_ev v0 v1 v2 v3 v4 v5 v6 v7) 4) 4)) + (own_bl (Int32.ofNat 0) (Int32.ofNat n) ps ((own_ev v0 v1 v2 v3 v4 v5 v6 v7) 5) 5))]
        refine C.iadd (q := 327) at_326 rfl ?_
        refine C.aload (q := 329) at_327 rfl rfl rfl ?_
        refine C.iload (q := 331) at_329 rfl rfl ?_
        refine C.iload (q := 333) at_331 rfl rfl ?_
        refine C.iload (q := 335) at_333 rfl rfl ?_
        refine C.bipush (q := 337) (z := (7 : Int32)) at_335 rfl rfl ?_
        refine C.callS (q := 340) 1 [.ref a20, .int (0 : Int32), .int (Int32.ofNat n), .int ps, .int (7 : Int32)] [.int (((((((own_bl (Int32.ofNat 0) (Int32.ofNat n) ps ((own_ev v0 v1 v2 v3 v4 v5 v6 v7) 0) 0) + (own_bl (Int32.ofNat 0) (Int32.ofNat n) ps ((own_ev v0 v1 v2 v3 v4 v5 v6 v7) 1) 1)) + (own_bl (Int32.ofNat 0) (Int32.ofNat n) ps ((own_ev v0 v1 v2 v3 v4 v5 v6 v7) 2) 2)) + (own_bl (Int32.ofNat 0) (Int32.ofNat n) ps ((own_ev v0 v1 v2 v3 v4 v5 v6 v7) 3) 3)) + (own_bl (Int32.ofNat 0) (Int32.ofNat n) ps ((own_ev v0 v1 v2 v3 v4 v5 v6 v7) 4) 4)) + (own_bl (Int32.ofNat 0) (Int32.ofNat n) ps ((own_ev v0 v1 v2 v3 v4 v5 v6 v7) 5) 5)) + (own_bl (Int32.ofNat 0) (Int32.ofNat n) ps ((own_ev v0 v1 v2 v3 v4 v5 v6 v7) 6) 6))] at_337 (hw _ (List.mem_of_getElem? (i := 17) rfl)) (hw _ (List.mem_of_getElem? (i := 18) rfl)) (hw _ (List.mem_of_getElem? (i := 19) rfl)) (hw _ (List.mem_of_getElem? (i := 20) rfl)) (own_c2 l Z a0 n0 hw [] a20 (own_ev v0 v1 v2 v3 v4 v5 v6 v7) _ (Int32.ofNat 0) (Int32.ofNat n) ps 7 (by decide)) (by decide) (by decide) (by decide) own_pd1 rfl rfl rfl (Nat.le_of_eq rfl) (by decide) (by decide) rfl ?_
        rintro _ _ ⟨rfl, hE⟩
        rw [hE]
        show G 4 16 [(a20, .inl (.int, (own_vs (own_ev v0 v1 v2 v3 v4 v5 v6 v7)))), (a147, .inl (.int, [.int (0 : Int32), .int (Int32.ofNat n), .int (Int32.ofNat (n + m))])), (a168, .inr ("com/example/kingfisher/kingfisher/index/SentenceBounds", [("firstSentences", "[I", .ref a147), ("ends", "[I", .ref a20), ("lengths", "[I", .ref lg)])), (lg, .inl (.int, [.int z1, .int z2]))] 340 [.val (.int a), .val (.int b), .val (.int c), .val (.int d), .val (.int (Int32.ofNat n)), .val (.int (Int32.ofNat m)), .val (.ref a20), .val (.ref a147), .val (.ref a168), .val (.int (0 : Int32)), .val (.int (0 : Int32)), .val (.int (Int32.ofNat n)), .val (.int ((own_ev v0 v1 v2 v3 v4 v5 v6 v7) (n - 1))), .val (.int ps), .unset] [.int (own_bl (Int32.ofNat 0) (Int32.ofNat n) ps ((own_ev v0 v1 v2 v3 v4 v5 v6 v7) 7) 7), .int (((((((own_bl (Int32.ofNat 0) (Int32.ofNat n) ps ((own_ev v0 v1 v2 v3 v4 v5 v6 v7) 0) 0) + (own_bl (Int32.ofNat 0) (Int32.ofNat n) ps ((own_ev v0 v1 v2 v3 v4 v5 v6 v7) 1) 1)) + (own_bl (Int32.ofNat 0) (Int32.ofNat n) ps ((own_ev v0 v1 v2 v3 v4 v5 v6 v7) 2) 2)) + (own_bl (Int32.ofNat 0) (Int32.ofNat n) ps ((own_ev v0 v1 v2 v3 v4 v5 v6 v7) 3) 3)) + (own_bl (Int32.ofNat 0) (Int32.ofNat n) ps ((own_ev v0 v1 v2 v3 v4 v5 v6 v7) 4) 4)) + (own_bl (Int32.ofNat 0) (Int32.ofNat n) ps ((own_ev v0 v1 v2 v3 v4 v5 v6 v7) 5) 5)) + (own_bl (Int32.ofNat 0) (Int32.ofNat n) ps ((own_ev v0 v1 v2 v3 v4 v5 v6 v7) 6) 6))]
        refine C.iadd (q := 341) at_340 rfl ?_
        refine C.istore (q := 343) (ls' := [.val (.int a), .val (.int b), .val (.int c), .val (.int d), .val (.int (Int32.ofNat n)), .val (.int (Int32.ofNat m)), .val (.ref a20), .val (.ref a147), .val (.ref a168), .val (.int (0 : Int32)), .val (.int (0 : Int32)), .val (.int (Int32.ofNat n)), .val (.int ((own_ev v0 v1 v2 v3 v4 v5 v6 v7) (n - 1))), .val (.int ps), .val (.int ((((((((own_bl (Int32.ofNat 0) (Int32.ofNat n) ps ((own_ev v0 v1 v2 v3 v4 v5 v6 v7) 0) 0) + (own_bl (Int32.ofNat 0) (Int32.ofNat n) ps ((own_ev v0 v1 v2 v3 v4 v5 v6 v7) 1) 1)) + (own_bl (Int32.ofNat 0) (Int32.ofNat n) ps ((own_ev v0 v1 v2 v3 v4 v5 v6 v7) 2) 2)) + (own_bl (Int32.ofNat 0) (Int32.ofNat n) ps ((own_ev v0 v1 v2 v3 v4 v5 v6 v7) 3) 3)) + (own_bl (Int32.ofNat 0) (Int32.ofNat n) ps ((own_ev v0 v1 v2 v3 v4 v5 v6 v7) 4) 4)) + (own_bl (Int32.ofNat 0) (Int32.ofNat n) ps ((own_ev v0 v1 v2 v3 v4 v5 v6 v7) 5) 5)) + (own_bl (Int32.ofNat 0) (Int32.ofNat n) ps ((own_ev v0 v1 v2 v3 v4 v5 v6 v7) 6) 6)) + (own_bl (Int32.ofNat 0) (Int32.ofNat n) ps ((own_ev v0 v1 v2 v3 v4 v5 v6 v7) 7) 7)))]) at_341 rfl rfl ?_
        refine C.aload (q := 345) at_343 rfl rfl rfl ?_
        refine C.iload (q := 347) at_345 rfl rfl ?_
        refine C.iload (q := 349) at_347 rfl rfl ?_
        refine C.callV (q := 352) 0 2 [.int (0 : Int32), .int ps] [] at_349 (hw _ (List.mem_of_getElem? (i := 21) rfl)) (hw _ (List.mem_of_getElem? (i := 22) rfl)) (hw _ (List.mem_of_getElem? (i := 23) rfl)) (hw _ (List.mem_of_getElem? (i := 24) rfl)) (hw _ (List.mem_of_getElem? (i := 3) rfl)) (hw _ (List.mem_of_getElem? (i := 25) rfl)) (own_c3 l Z a0 n0 hw [] a168 a147 a20 lg (own_ev v0 v1 v2 v3 v4 v5 v6 v7) _ _ (0 : Int32) ps 0 n (by omega) (by omega) mono hP (by decide) rfl (by decide) rfl) (by decide) (by decide) (by decide) own_pd2 rfl rfl rfl rfl (Nat.le_of_eq rfl) (by decide) (by decide) rfl ?_
        rintro _ _ ⟨r, rfl, r1, r2, r3, r4, rfl⟩
        show G 4 16 [(a20, .inl (.int, (own_vs (own_ev v0 v1 v2 v3 v4 v5 v6 v7)))), (a147, .inl (.int, [.int (0 : Int32), .int (Int32.ofNat n), .int (Int32.ofNat (n + m))])), (a168, .inr ("com/example/kingfisher/kingfisher/index/SentenceBounds", [("firstSentences", "[I", .ref a147), ("ends", "[I", .ref a20), ("lengths", "[I", .ref lg)])), (lg, .inl (.int, [.int z1, .int z2]))] 352 [.val (.int a), .val (.int b), .val (.int c), .val (.int d), .val (.int (Int32.ofNat n)), .val (.int (Int32.ofNat m)), .val (.ref a20), .val (.ref a147), .val (.ref a168), .val (.int (0 : Int32)), .val (.int (0 : Int32)), .val (.int (Int32.ofNat n)), .val (.int ((own_ev v0 v1 v2 v3 v4 v5 v6 v7) (n - 1))), .val (.int ps), .val (.int ((((((((own_bl (Int32.ofNat 0) (Int32.ofNat n) ps ((own_ev v0 v1 v2 v3 v4 v5 v6 v7) 0) 0) + (own_bl (Int32.ofNat 0) (Int32.ofNat n) ps ((own_ev v0 v1 v2 v3 v4 v5 v6 v7) 1) 1)) + (own_bl (Int32.ofNat 0) (Int32.ofNat n) ps ((own_ev v0 v1 v2 v3 v4 v5 v6 v7) 2) 2)) + (own_bl (Int32.ofNat 0) (Int32.ofNat n) ps ((own_ev v0 v1 v2 v3 v4 v5 v6 v7) 3) 3)) + (own_bl (Int32.ofNat 0) (Int32.ofNat n) ps ((own_ev v0 v1 v2 v3 v4 v5 v6 v7) 4) 4)) + (own_bl (Int32.ofNat 0) (Int32.ofNat n) ps ((own_ev v0 v1 v2 v3 v4 v5 v6 v7) 5) 5)) + (own_bl (Int32.ofNat 0) (Int32.ofNat n) ps ((own_ev v0 v1 v2 v3 v4 v5 v6 v7) 6) 6)) + (own_bl (Int32.ofNat 0) (Int32.ofNat n) ps ((own_ev v0 v1 v2 v3 v4 v5 v6 v7) 7) 7)))] [.int (Int32.ofNat r - Int32.ofNat 0)]
        refine C.iload (q := 354) at_352 rfl rfl ?_
        refine C.icmpNe (q := 361) (q' := 357) at_354 (by decide) (by decide) rfl (fun h354 => ?_) (fun h354 => absurd (own_sum (by omega) r1 r2 r3 r4 mono) h354)
        refine C.iconst (q := 358) (z := (1 : Int32)) at_357 rfl rfl ?_
        refine C.goto (q := 362) at_358 (by decide) (by decide) ?_
        exact C.retB (by simp) at_362 (by decide) (by decide) rfl
  · rw [ed]
    show G 4 16 [(a20, .inl (.int, (own_vs (own_ev v0 v1 v2 v3 v4 v5 v6 v7)))), (a147, .inl (.int, [.int (0 : Int32), .int (Int32.ofNat n), .int (Int32.ofNat (n + m))])), (a168, .inr ("com/example/kingfisher/kingfisher/index/SentenceBounds", [("firstSentences", "[I", .ref a147), ("ends", "[I", .ref a20), ("lengths", "[I", .ref lg)])), (lg, .inl (.int, [.int z1, .int z2]))] 184 [.val (.int a), .val (.int b), .val (.int c), .val (.int d), .val (.int (Int32.ofNat n)), .val (.int (Int32.ofNat m)), .val (.ref a20), .val (.ref a147), .val (.ref a168), .unset, .unset, .unset, .unset, .unset, .unset] [.int (1 : Int32)]
    refine C.istore (q := 186) (ls' := [.val (.int a), .val (.int b), .val (.int c), .val (.int d), .val (.int (Int32.ofNat n)), .val (.int (Int32.ofNat m)), .val (.ref a20), .val (.ref a147), .val (.ref a168), .val (.int (1 : Int32)), .unset, .unset, .unset, .unset, .unset]) at_184 rfl rfl ?_
    refine C.aload (q := 188) at_186 rfl rfl rfl ?_
    refine C.iload (q := 190) at_188 rfl rfl ?_
    refine C.iaload (q := 191) 1 (v := .int (Int32.ofNat n)) at_190 rfl (by decide) rfl rfl ?_
    refine C.istore (q := 193) (ls' := [.val (.int a), .val (.int b), .val (.int c), .val (.int d), .val (.int (Int32.ofNat n)), .val (.int (Int32.ofNat m)), .val (.ref a20), .val (.ref a147), .val (.ref a168), .val (.int (1 : Int32)), .val (.int (Int32.ofNat n)), .unset, .unset, .unset, .unset]) at_191 rfl rfl ?_
    refine C.aload (q := 195) at_193 rfl rfl rfl ?_
    refine C.iload (q := 197) at_195 rfl rfl ?_
    refine C.iconst (q := 198) (z := (1 : Int32)) at_197 rfl rfl ?_
    refine C.iadd (q := 199) at_198 rfl ?_
    show G 4 16 [(a20, .inl (.int, (own_vs (own_ev v0 v1 v2 v3 v4 v5 v6 v7)))), (a147, .inl (.int, [.int (0 : Int32), .int (Int32.ofNat n), .int (Int32.ofNat (n + m))])), (a168, .inr ("com/example/kingfisher/kingfisher/index/SentenceBounds", [("firstSentences", "[I", .ref a147), ("ends", "[I", .ref a20), ("lengths", "[I", .ref lg)])), (lg, .inl (.int, [.int z1, .int z2]))] 199 [.val (.int a), .val (.int b), .val (.int c), .val (.int d), .val (.int (Int32.ofNat n)), .val (.int (Int32.ofNat m)), .val (.ref a20), .val (.ref a147), .val (.ref a168), .val (.int (1 : Int32)), .val (.int (Int32.ofNat n)), .unset, .unset, .unset, .unset] [.int (2 : Int32), .ref a147]
    refine C.iaload (q := 200) 1 (v := .int (Int32.ofNat (n + m))) at_199 rfl (by decide) rfl rfl ?_
    refine C.istore (q := 202) (ls' := [.val (.int a), .val (.int b), .val (.int c), .val (.int d), .val (.int (Int32.ofNat n)), .val (.int (Int32.ofNat m)), .val (.ref a20), .val (.ref a147), .val (.ref a168), .val (.int (1 : Int32)), .val (.int (Int32.ofNat n)), .val (.int (Int32.ofNat (n + m))), .unset, .unset, .unset]) at_200 rfl rfl ?_
    refine C.iload (q := 204) at_202 rfl rfl ?_
    refine C.iload (q := 206) at_204 rfl rfl ?_
    refine C.icmpNe (q := 211) (q' := 209) at_206 (by decide) (by decide) rfl (fun h206 => ?_) (fun h206 => ?_)
    · refine C.iconst (q := 210) (z := (1 : Int32)) at_209 rfl rfl ?_
      exact C.retB (by simp) at_210 (by decide) (by decide) rfl
    · refine C.aload (q := 213) at_211 rfl rfl rfl ?_
      refine C.iload (q := 215) at_213 rfl rfl ?_
      refine C.iconst (q := 216) (z := (1 : Int32)) at_215 rfl rfl ?_
      refine C.isub (q := 217) at_216 rfl ?_
      refine C.iaload (q := 218) 0 (v := .int ((own_ev v0 v1 v2 v3 v4 v5 v6 v7) ((n + m) - 1))) at_217 rfl (own_ix (own_ev v0 v1 v2 v3 v4 v5 v6 v7) (k := (n + m)) (j := n) (by omega) (by omega) h206).1 (own_ix (own_ev v0 v1 v2 v3 v4 v5 v6 v7) (k := (n + m)) (j := n) (by omega) (by omega) h206).2 rfl ?_
      refine C.istore (q := 220) (ls' := [.val (.int a), .val (.int b), .val (.int c), .val (.int d), .val (.int (Int32.ofNat n)), .val (.int (Int32.ofNat m)), .val (.ref a20), .val (.ref a147), .val (.ref a168), .val (.int (1 : Int32)), .val (.int (Int32.ofNat n)), .val (.int (Int32.ofNat (n + m))), .val (.int ((own_ev v0 v1 v2 v3 v4 v5 v6 v7) ((n + m) - 1))), .unset, .unset]) at_218 rfl rfl ?_
      refine C.iload (q := 222) at_220 rfl rfl ?_
      refine C.ifNe (q := 227) (q' := 225) at_222 (by decide) (by decide) rfl (fun h222 => ?_) (fun h222 => ?_)
      · refine C.iconst (q := 226) (z := (1 : Int32)) at_225 rfl rfl ?_
        exact C.retB (by simp) at_226 (by decide) (by decide) rfl
      · refine C.iloadN (q := 228) at_227 rfl rfl ?_
        refine C.ldc (q := 230) (v := (2147483647 : Int32)) at_228 (hw _ (List.mem_of_getElem? (i := 16) rfl)) rfl ?_
        refine C.iand (q := 231) at_230 rfl ?_
        refine C.iload (q := 233) at_231 rfl rfl ?_
        refine C.irem (q := 234) at_233 (h222) rfl ?_
        have hne : n < (n + m) := by have q : (n + m) ≠ n := fun z => h206 (by rw [z]); omega
        have hP := own_ps (q := c) (pos ((n + m) - 1)) h222
        generalize hps : ((c &&& (2147483647 : Int32)) % ((own_ev v0 v1 v2 v3 v4 v5 v6 v7) ((n + m) - 1))) = ps at hP ⊢
        show G 4 16 [(a20, .inl (.int, (own_vs (own_ev v0 v1 v2 v3 v4 v5 v6 v7)))), (a147, .inl (.int, [.int (0 : Int32), .int (Int32.ofNat n), .int (Int32.ofNat (n + m))])), (a168, .inr ("com/example/kingfisher/kingfisher/index/SentenceBounds", [("firstSentences", "[I", .ref a147), ("ends", "[I", .ref a20), ("lengths", "[I", .ref lg)])), (lg, .inl (.int, [.int z1, .int z2]))] 234 [.val (.int a), .val (.int b), .val (.int c), .val (.int d), .val (.int (Int32.ofNat n)), .val (.int (Int32.ofNat m)), .val (.ref a20), .val (.ref a147), .val (.ref a168), .val (.int (1 : Int32)), .val (.int (Int32.ofNat n)), .val (.int (Int32.ofNat (n + m))), .val (.int ((own_ev v0 v1 v2 v3 v4 v5 v6 v7) ((n + m) - 1))), .unset, .unset] [.int ps]
        refine C.istore (q := 236) (ls' := [.val (.int a), .val (.int b), .val (.int c), .val (.int d), .val (.int (Int32.ofNat n)), .val (.int (Int32.ofNat m)), .val (.ref a20), .val (.ref a147), .val (.ref a168), .val (.int (1 : Int32)), .val (.int (Int32.ofNat n)), .val (.int (Int32.ofNat (n + m))), .val (.int ((own_ev v0 v1 v2 v3 v4 v5 v6 v7) ((n + m) - 1))), .val (.int ps), .unset]) at_234 rfl rfl ?_
        refine C.aload (q := 238) at_236 rfl rfl rfl ?_
        refine C.iload (q := 240) at_238 rfl rfl ?_
        refine C.iload (q := 242) at_240 rfl rfl ?_
        refine C.iload (q := 244) at_242 rfl rfl ?_
        refine C.iconst (q := 245) (z := (0 : Int32)) at_244 rfl rfl ?_
        refine C.callS (q := 248) 0 [.ref a20, .int (Int32.ofNat n), .int (Int32.ofNat (n + m)), .int ps, .int (0 : Int32)] [] at_245 (hw _ (List.mem_of_getElem? (i := 17) rfl)) (hw _ (List.mem_of_getElem? (i := 18) rfl)) (hw _ (List.mem_of_getElem? (i := 19) rfl)) (hw _ (List.mem_of_getElem? (i := 20) rfl)) (own_c2 l Z a0 n0 hw [] a20 (own_ev v0 v1 v2 v3 v4 v5 v6 v7) _ (Int32.ofNat n) (Int32.ofNat (n + m)) ps 0 (by decide)) (by decide) (by decide) (by decide) own_pd1 rfl rfl rfl (Nat.le_of_eq rfl) (by decide) (by decide) rfl ?_
        rintro _ _ ⟨rfl, hE⟩
        rw [hE]
        show G 4 16 [(a20, .inl (.int, (own_vs (own_ev v0 v1 v2 v3 v4 v5 v6 v7)))), (a147, .inl (.int, [.int (0 : Int32), .int (Int32.ofNat n), .int (Int32.ofNat (n + m))])), (a168, .inr ("com/example/kingfisher/kingfisher/index/SentenceBounds", [("firstSentences", "[I", .ref a147), ("ends", "[I", .ref a20), ("lengths", "[I", .ref lg)])), (lg, .inl (.int, [.int z1, .int z2]))] 248 [.val (.int a), .val (.int b), .val (.int c), .val (.int d), .val (.int (Int32.ofNat n)), .val (.int (Int32.ofNat m)), .val (.ref a20), .val (.ref a147), .val (.ref a168), .val (.int (1 : Int32)), .val (.int (Int32.ofNat n)), .val (.int (Int32.ofNat (n + m))), .val (.int ((own_ev v0 v1 v2 v3 v4 v5 v6 v7) ((n + m) - 1))), .val (.int ps), .unset] [.int (own_bl (Int32.ofNat n) (Int32.ofNat (n + m)) ps ((own_ev v0 v1 v2 v3 v4 v5 v6 v7) 0) 0)]
        refine C.aload (q := 250) at_248 rfl rfl rfl ?_
        refine C.iload (q := 252) at_250 rfl rfl ?_
        refine C.iload (q := 254) at_252 rfl rfl ?_
        refine C.iload (q := 256) at_254 rfl rfl ?_
        refine C.iconst (q := 257) (z := (1 : Int32)) at_256 rfl rfl ?_
        refine C.callS (q := 260) 1 [.ref a20, .int (Int32.ofNat n), .int (Int32.ofNat (n + m)), .int ps, .int (1 : Int32)] [.int (own_bl (Int32.ofNat n) (Int32.ofNat (n + m)) ps ((own_ev v0 v1 v2 v3 v4 v5 v6 v7) 0) 0)] at_257 (hw _ (List.mem_of_getElem? (i := 17) rfl)) (hw _ (List.mem_of_getElem? (i := 18) rfl)) (hw _ (List.mem_of_getElem? (i := 19) rfl)) (hw _ (List.mem_of_getElem? (i := 20) rfl)) (own_c2 l Z a0 n0 hw [] a20 (own_ev v0 v1 v2 v3 v4 v5 v6 v7) _ (Int32.ofNat n) (Int32.ofNat (n + m)) ps 1 (by decide)) (by decide) (by decide) (by decide) own_pd1 rfl rfl rfl (Nat.le_of_eq rfl) (by decide) (by decide) rfl ?_
        rintro _ _ ⟨rfl, hE⟩
        rw [hE]
        show G 4 16 [(a20, .inl (.int, (own_vs (own_ev v0 v1 v2 v3 v4 v5 v6 v7)))), (a147, .inl (.int, [.int (0 : Int32), .int (Int32.ofNat n), .int (Int32.ofNat (n + m))])), (a168, .inr ("com/example/kingfisher/kingfisher/index/SentenceBounds", [("firstSentences", "[I", .ref a147), ("ends", "[I", .ref a20), ("lengths", "[I", .ref lg)])), (lg, .inl (.int, [.int z1, .int z2]))] 260 [.val (.int a), .val (.int b), .val (.int c), .val (.int d), .val (.int (Int32.ofNat n)), .val (.int (Int32.ofNat m)), .val (.ref a20), .val (.ref a147), .val (.ref a168), .val (.int (1 : Int32)), .val (.int (Int32.ofNat n)), .val (.int (Int32.ofNat (n + m))), .val (.int ((own_ev v0 v1 v2 v3 v4 v5 v6 v7) ((n + m) - 1))), .val (.int ps), .unset] [.int (own_bl (Int32.ofNat n) (Int32.ofNat (n + m)) ps ((own_ev v0 v1 v2 v3 v4 v5 v6 v7) 1) 1), .int (own_bl (Int32.ofNat n) (Int32.ofNat (n + m)) ps ((own_ev v0 v1 v2 v3 v4 v5 v6 v7) 0) 0)]
        refine C.iadd (q := 261) at_260 rfl ?_
        refine C.aload (q := 263) at_261 rfl rfl rfl ?_
        refine C.iload (q := 265) at_263 rfl rfl ?_
        refine C.iload (q := 267) at_265 rfl rfl ?_
        refine C.iload (q := 269) at_267 rfl rfl ?_
        refine C.iconst (q := 270) (z := (2 : Int32)) at_269 rfl rfl ?_
        refine C.callS (q := 273) 1 [.ref a20, .int (Int32.ofNat n), .int (Int32.ofNat (n + m)), .int ps, .int (2 : Int32)] [.int ((own_bl (Int32.ofNat n) (Int32.ofNat (n + m)) ps ((own_ev v0 v1 v2 v3 v4 v5 v6 v7) 0) 0) + (own_bl (Int32.ofNat n) (Int32.ofNat (n + m)) ps ((own_ev v0 v1 v2 v3 v4 v5 v6 v7) 1) 1))] at_270 (hw _ (List.mem_of_getElem? (i := 17) rfl)) (hw _ (List.mem_of_getElem? (i := 18) rfl)) (hw _ (List.mem_of_getElem? (i := 19) rfl)) (hw _ (List.mem_of_getElem? (i := 20) rfl)) (own_c2 l Z a0 n0 hw [] a20 (own_ev v0 v1 v2 v3 v4 v5 v6 v7) _ (Int32.ofNat n) (Int32.ofNat (n + m)) ps 2 (by decide)) (by decide) (by decide) (by decide) own_pd1 rfl rfl rfl (Nat.le_of_eq rfl) (by decide) (by decide) rfl ?_
        rintro _ _ ⟨rfl, hE⟩
        rw [hE]
        show G 4 16 [(a20, .inl (.int, (own_vs (own_ev v0 v1 v2 v3 v4 v5 v6 v7)))), (a147, .inl (.int, [.int (0 : Int32), .int (Int32.ofNat n), .int (Int32.ofNat (n + m))])), (a168, .inr ("com/example/kingfisher/kingfisher/index/SentenceBounds", [("firstSentences", "[I", .ref a147), ("ends", "[I", .ref a20), ("lengths", "[I", .ref lg)])), (lg, .inl (.int, [.int z1, .int z2]))] 273 [.val (.int a), .val (.int b), .val (.int c), .val (.int d), .val (.int (Int32.ofNat n)), .val (.int (Int32.ofNat m)), .val (.ref a20), .val (.ref a147), .val (.ref a168), .val (.int (1 : Int32)), .val (.int (Int32.ofNat n)), .val (.int (Int32.ofNat (n + m))), .val (.int ((own_ev v0 v1 v2 v3 v4 v5 v6 v7) ((n + m) - 1))), .val (.int ps), .unset] [.int (own_bl (Int32.ofNat n) (Int32.ofNat (n + m)) ps ((own_ev v0 v1 v2 v3 v4 v5 v6 v7) 2) 2), .int ((own_bl (Int32.ofNat n) (Int32.ofNat (n + m)) ps ((own_ev v0 v1 v2 v3 v4 v5 v6 v7) 0) 0) + (own_bl (Int32.ofNat n) (Int32.ofNat (n + m)) ps ((own_ev v0 v1 v2 v3 v4 v5 v6 v7) 1) 1))]
        refine C.iadd (q := 274) at_273 rfl ?_
        refine C.aload (q := 276) at_274 rfl rfl rfl ?_
        refine C.iload (q := 278) at_276 rfl rfl ?_
        refine C.iload (q := 280) at_278 rfl rfl ?_
        refine C.iload (q := 282) at_280 rfl rfl ?_
        refine C.iconst (q := 283) (z := (3 : Int32)) at_282 rfl rfl ?_
        refine C.callS (q := 286) 1 [.ref a20, .int (Int32.ofNat n), .int (Int32.ofNat (n + m)), .int ps, .int (3 : Int32)] [.int (((own_bl (Int32.ofNat n) (Int32.ofNat (n + m)) ps ((own_ev v0 v1 v2 v3 v4 v5 v6 v7) 0) 0) + (own_bl (Int32.ofNat n) (Int32.ofNat (n + m)) ps ((own_ev v0 v1 v2 v3 v4 v5 v6 v7) 1) 1)) + (own_bl (Int32.ofNat n) (Int32.ofNat (n + m)) ps ((own_ev v0 v1 v2 v3 v4 v5 v6 v7) 2) 2))] at_283 (hw _ (List.mem_of_getElem? (i := 17) rfl)) (hw _ (List.mem_of_getElem? (i := 18) rfl)) (hw _ (List.mem_of_getElem? (i := 19) rfl)) (hw _ (List.mem_of_getElem? (i := 20) rfl)) (own_c2 l Z a0 n0 hw [] a20 (own_ev v0 v1 v2 v3 v4 v5 v6 v7) _ (Int32.ofNat n) (Int32.ofNat (n + m)) ps 3 (by decide)) (by decide) (by decide) (by decide) own_pd1 rfl rfl rfl (Nat.le_of_eq rfl) (by decide) (by decide) rfl ?_
        rintro _ _ ⟨rfl, hE⟩
        rw [hE]
        show G 4 16 [(a20, .inl (.int, (own_vs (own_ev v0 v1 v2 v3 v4 v5 v6 v7)))), (a147, .inl (.int, [.int (0 : Int32), .int (Int32.ofNat n), .int (Int32.ofNat (n + m))])), (a168, .inr ("com/example/kingfisher/kingfisher/index/SentenceBounds", [("firstSentences", "[I", .ref a147), ("ends", "[I", .ref a20), ("lengths", "[I", .ref lg)])), (lg, .inl (.int, [.int z1, .int z2]))] 286 [.val (.int a), .val (.int b), .val (.int c), .val (.int d), .val (.int (Int32.ofNat n)), .val (.int (Int32.ofNat m)), .val (.ref a20), .val (.ref a147), .val (.ref a168), .val (.int (1 : Int32)), .val (.int (Int32.ofNat n)), .val (.int (Int32.ofNat (n + m))), .val (.int ((own_ev v0 v1 v2 v3 v4 v5 v6 v7) ((n + m) - 1))), .val (.int ps), .unset] [.int (own_bl (Int32.ofNat n) (Int32.ofNat (n + m)) ps ((own_ev v0 v1 v2 v3 v4 v5 v6 v7) 3) 3), .int (((own_bl (Int32.ofNat n) (Int32.ofNat (n + m)) ps ((own_ev v0 v1 v2 v3 v4 v5 v6 v7) 0) 0) + (own_bl (Int32.ofNat n) (Int32.ofNat (n + m)) ps ((own_ev v0 v1 v2 v3 v4 v5 v6 v7) 1) 1)) + (own_bl (Int32.ofNat n) (Int32.ofNat (n + m)) ps ((own_ev v0 v1 v2 v3 v4 v5 v6 v7) 2) 2))]
        refine C.iadd (q := 287) at_286 rfl ?_
        refine C.aload (q := 289) at_287 rfl rfl rfl ?_
        refine C.iload (q := 291) at_289 rfl rfl ?_
        refine C.iload (q := 293) at_291 rfl rfl ?_
        refine C.iload (q := 295) at_293 rfl rfl ?_
        refine C.iconst (q := 296) (z := (4 : Int32)) at_295 rfl rfl ?_
        refine C.callS (q := 299) 1 [.ref a20, .int (Int32.ofNat n), .int (Int32.ofNat (n + m)), .int ps, .int (4 : Int32)] [.int ((((own_bl (Int32.ofNat n) (Int32.ofNat (n + m)) ps ((own_ev v0 v1 v2 v3 v4 v5 v6 v7) 0) 0) + (own_bl (Int32.ofNat n) (Int32.ofNat (n + m)) ps ((own_ev v0 v1 v2 v3 v4 v5 v6 v7) 1) 1)) + (own_bl (Int32.ofNat n) (Int32.ofNat (n + m)) ps ((own_ev v0 v1 v2 v3 v4 v5 v6 v7) 2) 2)) + (own_bl (Int32.ofNat n) (Int32.ofNat (n + m)) ps ((own_ev v0 v1 v2 v3 v4 v5 v6 v7) 3) 3))] at_296 (hw _ (List.mem_of_getElem? (i := 17) rfl)) (hw _ (List.mem_of_getElem? (i := 18) rfl)) (hw _ (List.mem_of_getElem? (i := 19) rfl)) (hw _ (List.mem_of_getElem? (i := 20) rfl)) (own_c2 l Z a0 n0 hw [] a20 (own_ev v0 v1 v2 v3 v4 v5 v6 v7) _ (Int32.ofNat n) (Int32.ofNat (n + m)) ps 4 (by decide)) (by decide) (by decide) (by decide) own_pd1 rfl rfl rfl (Nat.le_of_eq rfl) (by decide) (by decide) rfl ?_
        rintro _ _ ⟨rfl, hE⟩
        rw [hE]
        show G 4 16 [(a20, .inl (.int, (own_vs (own_ev v0 v1 v2 v3 v4 v5 v6 v7)))), (a147, .inl (.int, [.int (0 : Int32), .int (Int32.ofNat n), .int (Int32.ofNat (n + m))])), (a168, .inr ("com/example/kingfisher/kingfisher/index/SentenceBounds", [("firstSentences", "[I", .ref a147), ("ends", "[I", .ref a20), ("lengths", "[I", .ref lg)])), (lg, .inl (.int, [.int z1, .int z2]))] 299 [.val (.int a), .val (.int b), .val (.int c), .val (.int d), .val (.int (Int32.ofNat n)), .val (.int (Int32.ofNat m)), .val (.ref a20), .val (.ref a147), .val (.ref a168), .val (.int (1 : Int32)), .val (.int (Int32.ofNat n)), .val (.int (Int32.ofNat (n + m))), .val (.int ((own_ev v0 v1 v2 v3 v4 v5 v6 v7) ((n + m) - 1))), .val (.int ps), .unset] [.int (own_bl (Int32.ofNat n) (Int32.ofNat (n + m)) ps ((own_ev v0 v1 v2 v3 v4 v5 v6 v7) 4) 4), .int ((((own_bl (Int32.ofNat n) (Int32.ofNat (n + m)) ps ((own_ev v0 v1 v2 v3 v4 v5 v6 v7) 0) 0) + (own_bl (Int32.ofNat n) (Int32.ofNat (n + m)) ps ((own_ev v0 v1 v2 v3 v4 v5 v6 v7) 1) 1)) + (own_bl (Int32.ofNat n) (Int32.ofNat (n + m)) ps ((own_ev v0 v1 v2 v3 v4 v5 v6 v7) 2) 2)) + (own_bl (Int32.ofNat n) (Int32.ofNat (n + m)) ps ((own_ev v0 v1 v2 v3 v4 v5 v6 v7) 3) 3))]
        refine C.iadd (q := 300) at_299 rfl ?_
        refine C.aload (q := 302) at_300 rfl rfl rfl ?_
        refine C.iload (q := 304) at_302 rfl rfl ?_
        refine C.iload (q := 306) at_304 rfl rfl ?_
        refine C.iload (q := 308) at_306 rfl rfl ?_
        refine C.iconst (q := 309) (z := (5 : Int32)) at_308 rfl rfl ?_
        refine C.callS (q := 312) 1 [.ref a20, .int (Int32.ofNat n), .int (Int32.ofNat (n + m)), .int ps, .int (5 : Int32)] [.int (((((own_bl (Int32.ofNat n) (Int32.ofNat (n + m)) ps ((own_ev v0 v1 v2 v3 v4 v5 v6 v7) 0) 0) + (own_bl (Int32.ofNat n) (Int32.ofNat (n + m)) ps ((own_ev v0 v1 v2 v3 v4 v5 v6 v7) 1) 1)) + (own_bl (Int32.ofNat n) (Int32.ofNat (n + m)) ps ((own_ev v0 v1 v2 v3 v4 v5 v6 v7) 2) 2)) + (own_bl (Int32.ofNat n) (Int32.ofNat (n + m)) ps ((own_ev v0 v1 v2 v3 v4 v5 v6 v7) 3) 3)) + (own_bl (Int32.ofNat n) (Int32.ofNat (n + m)) ps ((own_ev v0 v1 v2 v3 v4 v5 v6 v7) 4) 4))] at_309 (hw _ (List.mem_of_getElem? (i := 17) rfl)) (hw _ (List.mem_of_getElem? (i := 18) rfl)) (hw _ (List.mem_of_getElem? (i := 19) rfl)) (hw _ (List.mem_of_getElem? (i := 20) rfl)) (own_c2 l Z a0 n0 hw [] a20 (own_ev v0 v1 v2 v3 v4 v5 v6 v7) _ (Int32.ofNat n) (Int32.ofNat (n + m)) ps 5 (by decide)) (by decide) (by decide) (by decide) own_pd1 rfl rfl rfl (Nat.le_of_eq rfl) (by decide) (by decide) rfl ?_
        rintro _ _ ⟨rfl, hE⟩
        rw [hE]
        show G 4 16 [(a20, .inl (.int, (own_vs (own_ev v0 v1 v2 v3 v4 v5 v6 v7)))), (a147, .inl (.int, [.int (0 : Int32), .int (Int32.ofNat n), .int (Int32.ofNat (n + m))])), (a168, .inr ("com/example/kingfisher/kingfisher/index/SentenceBounds", [("firstSentences", "[I", .ref a147), ("ends", "[I", .ref a20), ("lengths", "[I", .ref lg)])), (lg, .inl (.int, [.int z1, .int z2]))] 312 [.val (.int a), .val (.int b), .val (.int c), .val (.int d), .val (.int (Int32.ofNat n)), .val (.int (Int32.ofNat m)), .val (.ref a20), .val (.ref a147), .val (.ref a168), .val (.int (1 : Int32)), .val (.int (Int32.ofNat n)), .val (.int (Int32.ofNat (n + m))), .val (.int ((own_ev v0 v1 v2 v3 v4 v5 v6 v7) ((n + m) - 1))), .val (.int ps), .unset] [.int (own_bl (Int32.ofNat n) (Int32.ofNat (n + m)) ps ((own_ev v0 v1 v2 v3 v4 v5 v6 v7) 5) 5), .int (((((own_bl (Int32.ofNat n) (Int32.ofNat (n + m)) ps ((own_ev v0 v1 v2 v3 v4 v5 v6 v7) 0) 0) + (own_bl (Int32.ofNat n) (Int32.ofNat (n + m)) ps ((own_ev v0 v1 v2 v3 v4 v5 v6 v7) 1) 1)) + (own_bl (Int32.ofNat n) (Int32.ofNat (n + m)) ps ((own_ev v0 v1 v2 v3 v4 v5 v6 v7) 2) 2)) + (own_bl (Int32.ofNat n) (Int32.ofNat (n + m)) ps ((own_ev v0 v1 v2 v3 v4 v5 v6 v7) 3) 3)) + (own_bl (Int32.ofNat n) (Int32.ofNat (n + m)) ps ((own_ev v0 v1 v2 v3 v4 v5 v6 v7) 4) 4))]
        refine C.iadd (q := 313) at_312 rfl ?_
        refine C.aload (q := 315) at_313 rfl rfl rfl ?_
        refine C.iload (q := 317) at_315 rfl rfl ?_
        refine C.iload (q := 319) at_317 rfl rfl ?_
        refine C.iload (q := 321) at_319 rfl rfl ?_
        refine C.bipush (q := 323) (z := (6 : Int32)) at_321 rfl rfl ?_
        refine C.callS (q := 326) 1 [.ref a20, .int (Int32.ofNat n), .int (Int32.ofNat (n + m)), .int ps, .int (6 : Int32)] [.int ((((((own_bl (Int32.ofNat n) (Int32.ofNat (n + m)) ps ((own_ev v0 v1 v2 v3 v4 v5 v6 v7) 0) 0) + (own_bl (Int32.ofNat n) (Int32.ofNat (n + m)) ps ((own_ev v0 v1 v2 v3 v4 v5 v6 v7) 1) 1)) + (own_bl (Int32.ofNat n) (Int32.ofNat (n + m)) ps ((own_ev v0 v1 v2 v3 v4 v5 v6 v7) 2) 2)) + (own_bl (Int32.ofNat n) (Int32.ofNat (n + m)) ps ((own_ev v0 v1 v2 v3 v4 v5 v6 v7) 3) 3)) + (own_bl (Int32.ofNat n) (Int32.ofNat (n + m)) ps ((own_ev v0 v1 v2 v3 v4 v5 v6 v7) 4) 4)) + (own_bl (Int32.ofNat n) (Int32.ofNat (n + m)) ps ((own_ev v0 v1 v2 v3 v4 v5 v6 v7) 5) 5))] at_323 (hw _ (List.mem_of_getElem? (i := 17) rfl)) (hw _ (List.mem_of_getElem? (i := 18) rfl)) (hw _ (List.mem_of_getElem? (i := 19) rfl)) (hw _ (List.mem_of_getElem? (i := 20) rfl)) (own_c2 l Z a0 n0 hw [] a20 (own_ev v0 v1 v2 v3 v4 v5 v6 v7) _ (Int32.ofNat n) (Int32.ofNat (n + m)) ps 6 (by decide)) (by decide) (by decide) (by decide) own_pd1 rfl rfl rfl (Nat.le_of_eq rfl) (by decide) (by decide) rfl ?_
        rintro _ _ ⟨rfl, hE⟩
        rw [hE]
        show G 4 16 [(a20, .inl (.int, (own_vs (own_ev v0 v1 v2 v3 v4 v5 v6 v7)))), (a147, .inl (.int, [.int (0 : Int32), .int (Int32.ofNat n), .int (Int32.ofNat (n + m))])), (a168, .inr ("com/example/kingfisher/kingfisher/index/SentenceBounds", [("firstSentences", "[I", .ref a147), ("ends", "[I", .ref a20), ("lengths", "[I", .ref lg)])), (lg, .inl (.int, [.int z1, .int z2]))] 326 [.val (.int a), .val (.int b), .val (.int c), .val (.int d), .val (.int (Int32.ofNat n)), .val (.int (Int32.ofNat m)), .val (.ref a20), .val (.ref a147), .val (.ref a168), .val (.int (1 : Int32)), .val (.int (Int32.ofNat n)), .val (.int (Int32.ofNat (n + m))), .val (.int ((own_ev v0 v1 v2 v3 v4 v5 v6 v7) ((n + m) - 1))), .val (.int ps), .unset] [.int (own_bl (Int32.ofNat n) (Int32.ofNat (n + m)) ps ((own_ev v0 v1 v2 v3 v4 v5 v6 v7) 6) 6), .int ((((((own_bl (Int32.ofNat n) (Int32.ofNat (n + m)) ps ((own_ev v0 v1 v2 v3 v4 v5 v6 v7) 0) 0) + (own_bl (Int32.ofNat n) (Int32.ofNat (n + m)) ps ((own_ev v0 v1 v2 v3 v4 v5 v6 v7) 1) 1)) + (own_bl (Int32.ofNat n) (Int32.ofNat (n + m)) ps ((own_ev v0 v1 v2 v3 v4 v5 v6 v7) 2) 2)) + (own_bl (Int32.ofNat n) (Int32.ofNat (n + m)) ps ((own_ev v0 v1 v2 v3 v4 v5 v6 v7) 3) 3)) + (own_bl (Int32.ofNat n) (Int32.ofNat (n + m)) ps ((own_ev v0 v1 v2 v3 v4 v5 v6 v7) 4) 4)) + (own_bl (Int32.ofNat n) (Int32.ofNat (n + m)) ps ((own_ev v0 v1 v2 v3 v4 v5 v6 v7) 5) 5))]
        refine C.iadd (q := 327) at_326 rfl ?_
        refine C.aload (q := 329) at_327 rfl rfl rfl ?_
        refine C.iload (q := 331) at_329 rfl rfl ?_
        refine C.iload (q := 333) at_331 rfl rfl ?_
        refine C.iload (q := 335) at_333 rfl rfl ?_
        refine C.bipush (q := 337) (z := (7 : Int32)) at_335 rfl rfl ?_
        refine C.callS (q := 340) 1 [.ref a20, .int (Int32.ofNat n), .int (Int32.ofNat (n + m)), .int ps, .int (7 : Int32)] [.int (((((((own_bl (Int32.ofNat n) (Int32.ofNat (n + m)) ps ((own_ev v0 v1 v2 v3 v4 v5 v6 v7) 0) 0) + (own_bl (Int32.ofNat n) (Int32.ofNat (n + m)) ps ((own_ev v0 v1 v2 v3 v4 v5 v6 v7) 1) 1)) + (own_bl (Int32.ofNat n) (Int32.ofNat (n + m)) ps ((own_ev v0 v1 v2 v3 v4 v5 v6 v7) 2) 2)) + (own_bl (Int32.ofNat n) (Int32.ofNat (n + m)) ps ((own_ev v0 v1 v2 v3 v4 v5 v6 v7) 3) 3)) + (own_bl (Int32.ofNat n) (Int32.ofNat (n + m)) ps ((own_ev v0 v1 v2 v3 v4 v5 v6 v7) 4) 4)) + (own_bl (Int32.ofNat n) (Int32.ofNat (n + m)) ps ((own_ev v0 v1 v2 v3 v4 v5 v6 v7) 5) 5)) + (own_bl (Int32.ofNat n) (Int32.ofNat (n + m)) ps ((own_ev v0 v1 v2 v3 v4 v5 v6 v7) 6) 6))] at_337 (hw _ (List.mem_of_getElem? (i := 17) rfl)) (hw _ (List.mem_of_getElem? (i := 18) rfl)) (hw _ (List.mem_of_getElem? (i := 19) rfl)) (hw _ (List.mem_of_getElem? (i := 20) rfl)) (own_c2 l Z a0 n0 hw [] a20 (own_ev v0 v1 v2 v3 v4 v5 v6 v7) _ (Int32.ofNat n) (Int32.ofNat (n + m)) ps 7 (by decide)) (by decide) (by decide) (by decide) own_pd1 rfl rfl rfl (Nat.le_of_eq rfl) (by decide) (by decide) rfl ?_
        rintro _ _ ⟨rfl, hE⟩
        rw [hE]
        show G 4 16 [(a20, .inl (.int, (own_vs (own_ev v0 v1 v2 v3 v4 v5 v6 v7)))), (a147, .inl (.int, [.int (0 : Int32), .int (Int32.ofNat n), .int (Int32.ofNat (n + m))])), (a168, .inr ("com/example/kingfisher/kingfisher/index/SentenceBounds", [("firstSentences", "[I", .ref a147), ("ends", "[I", .ref a20), ("lengths", "[I", .ref lg)])), (lg, .inl (.int, [.int z1, .int z2]))] 340 [.val (.int a), .val (.int b), .val (.int c), .val (.int d), .val (.int (Int32.ofNat n)), .val (.int (Int32.ofNat m)), .val (.ref a20), .val (.ref a147), .val (.ref a168), .val (.int (1 : Int32)), .val (.int (Int32.ofNat n)), .val (.int (Int32.ofNat (n + m))), .val (.int ((own_ev v0 v1 v2 v3 v4 v5 v6 v7) ((n + m) - 1))), .val (.int ps), .unset] [.int (own_bl (Int32.ofNat n) (Int32.ofNat (n + m)) ps ((own_ev v0 v1 v2 v3 v4 v5 v6 v7) 7) 7), .int (((((((own_bl (Int32.ofNat n) (Int32.ofNat (n + m)) ps ((own_ev v0 v1 v2 v3 v4 v5 v6 v7) 0) 0) + (own_bl (Int32.ofNat n) (Int32.ofNat (n + m)) ps ((own_ev v0 v1 v2 v3 v4 v5 v6 v7) 1) 1)) + (own_bl (Int32.ofNat n) (Int32.ofNat (n + m)) ps ((own_ev v0 v1 v2 v3 v4 v5 v6 v7) 2) 2)) + (own_bl (Int32.ofNat n) (Int32.ofNat (n + m)) ps ((own_ev v0 v1 v2 v3 v4 v5 v6 v7) 3) 3)) + (own_bl (Int32.ofNat n) (Int32.ofNat (n + m)) ps ((own_ev v0 v1 v2 v3 v4 v5 v6 v7) 4) 4)) + (own_bl (Int32.ofNat n) (Int32.ofNat (n + m)) ps ((own_ev v0 v1 v2 v3 v4 v5 v6 v7) 5) 5)) + (own_bl (Int32.ofNat n) (Int32.ofNat (n + m)) ps ((own_ev v0 v1 v2 v3 v4 v5 v6 v7) 6) 6))]
        refine C.iadd (q := 341) at_340 rfl ?_
        refine C.istore (q := 343) (ls' := [.val (.int a), .val (.int b), .val (.int c), .val (.int d), .val (.int (Int32.ofNat n)), .val (.int (Int32.ofNat m)), .val (.ref a20), .val (.ref a147), .val (.ref a168), .val (.int (1 : Int32)), .val (.int (Int32.ofNat n)), .val (.int (Int32.ofNat (n + m))), .val (.int ((own_ev v0 v1 v2 v3 v4 v5 v6 v7) ((n + m) - 1))), .val (.int ps), .val (.int ((((((((own_bl (Int32.ofNat n) (Int32.ofNat (n + m)) ps ((own_ev v0 v1 v2 v3 v4 v5 v6 v7) 0) 0) + (own_bl (Int32.ofNat n) (Int32.ofNat (n + m)) ps ((own_ev v0 v1 v2 v3 v4 v5 v6 v7) 1) 1)) + (own_bl (Int32.ofNat n) (Int32.ofNat (n + m)) ps ((own_ev v0 v1 v2 v3 v4 v5 v6 v7) 2) 2)) + (own_bl (Int32.ofNat n) (Int32.ofNat (n + m)) ps ((own_ev v0 v1 v2 v3 v4 v5 v6 v7) 3) 3)) + (own_bl (Int32.ofNat n) (Int32.ofNat (n + m)) ps ((own_ev v0 v1 v2 v3 v4 v5 v6 v7) 4) 4)) + (own_bl (Int32.ofNat n) (Int32.ofNat (n + m)) ps ((own_ev v0 v1 v2 v3 v4 v5 v6 v7) 5) 5)) + (own_bl (Int32.ofNat n) (Int32.ofNat (n + m)) ps ((own_ev v0 v1 v2 v3 v4 v5 v6 v7) 6) 6)) + (own_bl (Int32.ofNat n) (Int32.ofNat (n + m)) ps ((own_ev v0 v1 v2 v3 v4 v5 v6 v7) 7) 7)))]) at_341 rfl rfl ?_
        refine C.aload (q := 345) at_343 rfl rfl rfl ?_
        refine C.iload (q := 347) at_345 rfl rfl ?_
        refine C.iload (q := 349) at_347 rfl rfl ?_
        refine C.callV (q := 352) 0 2 [.int (1 : Int32), .int ps] [] at_349 (hw _ (List.mem_of_getElem? (i := 21) rfl)) (hw _ (List.mem_of_getElem? (i := 22) rfl)) (hw _ (List.mem_of_getElem? (i := 23) rfl)) (hw _ (List.mem_of_getElem? (i := 24) rfl)) (hw _ (List.mem_of_getElem? (i := 3) rfl)) (hw _ (List.mem_of_getElem? (i := 25) rfl)) (own_c3 l Z a0 n0 hw [] a168 a147 a20 lg (own_ev v0 v1 v2 v3 v4 v5 v6 v7) _ _ (1 : Int32) ps n (n + m) (by omega) (by omega) mono hP (by decide) rfl (by decide) rfl) (by decide) (by decide) (by decide) own_pd2 rfl rfl rfl rfl (Nat.le_of_eq rfl) (by decide) (by decide) rfl ?_
        rintro _ _ ⟨r, rfl, r1, r2, r3, r4, rfl⟩
        show G 4 16 [(a20, .inl (.int, (own_vs (own_ev v0 v1 v2 v3 v4 v5 v6 v7)))), (a147, .inl (.int, [.int (0 : Int32), .int (Int32.ofNat n), .int (Int32.ofNat (n + m))])), (a168, .inr ("com/example/kingfisher/kingfisher/index/SentenceBounds", [("firstSentences", "[I", .ref a147), ("ends", "[I", .ref a20), ("lengths", "[I", .ref lg)])), (lg, .inl (.int, [.int z1, .int z2]))] 352 [.val (.int a), .val (.int b), .val (.int c), .val (.int d), .val (.int (Int32.ofNat n)), .val (.int (Int32.ofNat m)), .val (.ref a20), .val (.ref a147), .val (.ref a168), .val (.int (1 : Int32)), .val (.int (Int32.ofNat n)), .val (.int (Int32.ofNat (n + m))), .val (.int ((own_ev v0 v1 v2 v3 v4 v5 v6 v7) ((n + m) - 1))), .val (.int ps), .val (.int ((((((((own_bl (Int32.ofNat n) (Int32.ofNat (n + m)) ps ((own_ev v0 v1 v2 v3 v4 v5 v6 v7) 0) 0) + (own_bl (Int32.ofNat n) (Int32.ofNat (n + m)) ps ((own_ev v0 v1 v2 v3 v4 v5 v6 v7) 1) 1)) + (own_bl (Int32.ofNat n) (Int32.ofNat (n + m)) ps ((own_ev v0 v1 v2 v3 v4 v5 v6 v7) 2) 2)) + (own_bl (Int32.ofNat n) (Int32.ofNat (n + m)) ps ((own_ev v0 v1 v2 v3 v4 v5 v6 v7) 3) 3)) + (own_bl (Int32.ofNat n) (Int32.ofNat (n + m)) ps ((own_ev v0 v1 v2 v3 v4 v5 v6 v7) 4) 4)) + (own_bl (Int32.ofNat n) (Int32.ofNat (n + m)) ps ((own_ev v0 v1 v2 v3 v4 v5 v6 v7) 5) 5)) + (own_bl (Int32.ofNat n) (Int32.ofNat (n + m)) ps ((own_ev v0 v1 v2 v3 v4 v5 v6 v7) 6) 6)) + (own_bl (Int32.ofNat n) (Int32.ofNat (n + m)) ps ((own_ev v0 v1 v2 v3 v4 v5 v6 v7) 7) 7)))] [.int (Int32.ofNat r - Int32.ofNat n)]
        refine C.iload (q := 354) at_352 rfl rfl ?_
        refine C.icmpNe (q := 361) (q' := 357) at_354 (by decide) (by decide) rfl (fun h354 => ?_) (fun h354 => absurd (own_sum (by omega) r1 r2 r3 r4 mono) h354)
        refine C.iconst (q := 358) (z := (1 : Int32)) at_357 rfl rfl ?_
        refine C.goto (q := 362) at_358 (by decide) (by decide) ?_
        exact C.retB (by simp) at_362 (by decide) (by decide) rfl
set_option maxRecDepth 65536 in
set_option maxHeartbeats 40000000 in
theorem comes_1 {Post : Tables → Env → Array Value → State → Outcome → State → Prop} (hpost : ∀ tb e args s v u, (limb_1_1.after args s (.returned v) u = true ∧ limb_1_2.after args s (.returned v) u = true ∧ True) → FrameEnd s (.returned v) u (Jvm.fieldLocs frame_1_writes args s ++ Jvm.arrayLocs frame_1_arrays args s ++ Jvm.staticLocs frame_1_statics s) 16 128 → Post tb e args s (.returned v) u) :
    ArmFor flags0 classFile x code maxLocals ret World_1 tables_1 room_1 Calls_1 rest_1 Pre_1 Post := by
  intro l hfl _ _ p e ha hc hk s m args below hf hA hF happ hP
  obtain ⟨hcalls, hrest, hpre⟩ := hP
  obtain ⟨-, -, -, hnamed, -, -, -, hat⟩ := (Spec.applies_iff hf).mp happ
  obtain ⟨hg, hn⟩ := and_e (Cond.before_iff.mp (show (Jvm.Cond.and given_1 narrow_1).before args s = true from hpre))
  obtain ⟨hcnt, g0⟩ := and_e hg
  obtain ⟨q0, g1⟩ := and_e g0
  obtain ⟨q1, g2⟩ := and_e g1
  obtain ⟨q2, g3⟩ := and_e g2
  obtain ⟨w0, w1, w2, w3, rfl⟩ : ∃ w0 w1 w2 w3 : Value, args = #[w0, w1, w2, w3] := by
    have hs : args.size = 4 := by simpa [Cond.value, given_1] using hcnt
    obtain ⟨L⟩ := args
    match L, hs with
    | [w0, w1, w2, w3], _ => exact ⟨w0, w1, w2, w3, rfl⟩
  have hw := fun d (hd : d ∈ tables_1) => atoms_spec (ws := Jvm.Cond.code x code maxLocals ret :: tables_1) hat d (List.mem_cons_of_mem _ hd)
  obtain ⟨i0, e0⟩ := is_v q0
  obtain rfl : w0 = (.int i0) := Option.some.inj e0
  obtain ⟨i1, e1⟩ := is_v q1
  obtain rfl : w1 = (.int i1) := Option.some.inj e1
  obtain ⟨i2, e2⟩ := is_v q2
  obtain rfl : w2 = (.int i2) := Option.some.inj e2
  obtain ⟨i3, e3⟩ := is_v g3
  obtain rfl : w3 = (.int i3) := Option.some.inj e3
  obtain ⟨n, o, h1, h2, h3, _, L, rfl, ⟨N, H', hH', hv⟩, hq⟩ := own_claw l s _ s.heap.size hw tables_1 i0 i1 i2 i3  s.heap ⟨Nat.le_refl _, fun i j a o o' z => by simp at z, fun i a o z => by simp at z⟩ p e ha hc hk s m _ below hf ((Spec.applies_iff_loose hf).mp happ).1 ⟨rfl, State.Warmed39.refl s, rfl⟩ trivial
  cases hv
  refine ⟨n, _, h1, h2, h3, hpost _ _ _ _ _ _ ⟨Cond.after_iff.mpr rfl, Cond.after_iff.mpr (eq_i res_at (Term.int_eval (1)) rfl), trivial⟩ ⟨hq.1, hq.2.1, (hq.2.2.sift fun y hy => Or.inr (N y hy)).mono (by decide) (by decide)⟩⟩
theorem main_1_1 : Claimed_1_1 := comes_1 fun _ _ _ _ _ _ h hF => ⟨h.1, hF⟩
theorem main_1_2 : Claimed_1_2 := comes_1 fun _ _ _ _ _ _ h hF => ⟨h.2.1, hF⟩
end Jvm.Pilot.@@N@@
namespace Jvm.Pilot.@@N@@
open Jvm Jvm.ClassFile Sem Op Lib Jvm.Free Jvm.Stand Jvm.Pilot.@@N@@.Jvm.D
/-! MADE BY PROGRAM (witnessworld.py) out of the Statement's table words and the real class files: 9 classes; the members and pool entries that the words name. The judged class is class 1, her method 1. -/
namespace start1
open Jvm.ClassFile
def u (s : String) : CpInfo := .utf8 (stringToUtf16 s)
/-- a pool by its gaps: so many unusable entries, then the entry; so many at the end -/
def gap : Nat → List CpInfo → List CpInfo
  | 0, r => r
  | n + 1, r => .unusable :: gap n r
def poolList (es : List (Nat × CpInfo)) (last : Nat) : List CpInfo := es.foldr (fun e r => gap e.1 (e.2 :: r)) (gap last [])
def pool (es : List (Nat × CpInfo)) (last : Nat) : Array CpInfo := ⟨poolList es last⟩
def fileOf (pool : Array CpInfo) (this : Nat) (attrs : Array Attribute := #[]) (ms : Array MethodInfo := #[]) (fl : Nat := 33) (sup : Nat := 0) (ifs : Array Nat := #[]) (fds : Array FieldInfo := #[]) : ClassFile where
  minorVersion := 0
  majorVersion := 65
  constantPool := pool
  accessFlags := fl
  thisClass := this
  superClass := sup
  interfaces := ifs
  fields := fds
  methods := ms
  attributes := attrs
def plain (name : String) (sup : Option ClassId) : Class where
  name := name
  kind := .ordinary
  loader := none
  accessFlags := 33
  super := sup
  interfaces := #[]
  cf := none
  fields := #[]
  methods := #[]
  instanceTypes := #[]
  staticTypes := #[]
  resolved := #[]
  callSites := []
  init := .initialized
  statics := none
  mirror := none

def pool0 : Array CpInfo := pool [(5, u "<init>"), (0, u "()V"), (1, .class_ 10), (1, u "java/lang/Object")] 113

def k0c0 : Code := { maxStack := 0, maxLocals := 1, code := object_method_1_code, exceptionTable := #[], attributes := #[] }
def k0m0 : Method := { name := "<init>", desc := "()V", sig := { parameters := [], returnType := none }, accessFlags := 1, code := some k0c0 }
/-- java/lang/Object -/
def k0 : Class := { plain "java/lang/Object" none with
  accessFlags := 33
  interfaces := #[]
  cf := some (fileOf pool0 8 #[] #[{ accessFlags := 1, nameIndex := 5, descriptorIndex := 6, attributes := #[] }] 33 0 #[] #[])
  fields := #[]
  methods := #[k0m0]
  instanceTypes := #[]
  staticTypes := #[]
  resolved := Array.replicate 124 none
  statics := none }

def pool1 : Array CpInfo := pool [(2, .class_ 4), (1, u "java/lang/Object"), (0, u "<init>"), (0, u "()V"), (0, .class_ 8), (0, u "com/example/kingfisher/kingfisher/index/SentenceBounds"), (0, .methodref 7 10), (0, .nameAndType 5 11), (0, u "([I[I)V"), (0, .integer 2147483647), (0, .methodref 14 15), (0, .class_ 16), (0, .nameAndType 17 18), (0, u "com/example/kingfisher/kingfisher/index/SentenceBoundsSentencePinLaw"), (0, u "below"), (0, u "([IIIII)I"), (0, .methodref 7 20), (0, .nameAndType 21 22), (0, u "sentence"), (0, u "(II)I"), (2, u "law"), (0, u "(IIII)Z")] 5

def k1m0 : Method := { name := "<init>", desc := "()V", sig := { parameters := [], returnType := none }, accessFlags := 1, code := none }
def k1c1 : Code := { maxStack := 6, maxLocals := 15, code := code, exceptionTable := #[], attributes := #[] }
def k1m1 : Method := { name := "law", desc := "(IIII)Z", sig := { parameters := [.int, .int, .int, .int], returnType := some .boolean }, accessFlags := 9, code := some k1c1 }
def k1c2 : Code := { maxStack := 2, maxLocals := 5, code := method_3_code, exceptionTable := #[], attributes := #[] }
def k1m2 : Method := { name := "below", desc := "([IIIII)I", sig := { parameters := [(.array .int), .int, .int, .int, .int], returnType := some .int }, accessFlags := 10, code := some k1c2 }
/-- com/example/kingfisher/kingfisher/index/SentenceBoundsSentencePinLaw -/
def k1 : Class := { plain "com/example/kingfisher/kingfisher/index/SentenceBoundsSentencePinLaw" (some 0) with
  accessFlags := 49
  interfaces := #[]
  cf := some (fileOf pool1 14 #[] #[{ accessFlags := 1, nameIndex := 5, descriptorIndex := 6, attributes := #[] }, { accessFlags := 9, nameIndex := 25, descriptorIndex := 26, attributes := #[] }, { accessFlags := 10, nameIndex := 17, descriptorIndex := 18, attributes := #[] }] 49 2 #[] #[])
  fields := #[]
  methods := #[k1m0, k1m1, k1m2]
  instanceTypes := #[]
  staticTypes := #[]
  resolved := Array.replicate 32 none
  statics := none }

def pool2 : Array CpInfo := pool [(1, .methodref 2 3), (0, .class_ 4), (0, .nameAndType 5 6), (0, u "java/lang/Object"), (0, u "<init>"), (0, u "()V"), (0, .fieldref 8 9), (0, .class_ 10), (0, .nameAndType 11 12), (0, u "com/example/kingfisher/kingfisher/index/SentenceBounds"), (0, u "firstSentences"), (0, u "[I"), (0, .fieldref 8 14), (0, .nameAndType 15 12), (0, u "ends"), (0, .fieldref 8 17), (0, .nameAndType 18 12), (0, u "lengths"), (0, u "([I[I)V"), (7, u "sentence"), (0, u "(II)I")] 2

def k2c0 : Code := { maxStack := 5, maxLocals := 5, code := prog_18_method_1_code, exceptionTable := #[], attributes := #[] }
def k2m0 : Method := { name := "<init>", desc := "([I[I)V", sig := { parameters := [(.array .int), (.array .int)], returnType := none }, accessFlags := 0, code := some k2c0 }
def k2c1 : Code := { maxStack := 3, maxLocals := 7, code := prog_18_method_4_code, exceptionTable := #[], attributes := #[] }
def k2m1 : Method := { name := "sentence", desc := "(II)I", sig := { parameters := [.int, .int], returnType := some .int }, accessFlags := 0, code := some k2c1 }
/-- com/example/kingfisher/kingfisher/index/SentenceBounds -/
def k2 : Class := { plain "com/example/kingfisher/kingfisher/index/SentenceBounds" (some 0) with
  accessFlags := 48
  interfaces := #[]
  cf := some (fileOf pool2 8 #[] #[{ accessFlags := 0, nameIndex := 5, descriptorIndex := 19, attributes := #[] }, { accessFlags := 0, nameIndex := 27, descriptorIndex := 28, attributes := #[] }] 48 2 #[] #[{ accessFlags := 18, nameIndex := 11, descriptorIndex := 12, attributes := #[] }, { accessFlags := 18, nameIndex := 15, descriptorIndex := 12, attributes := #[] }, { accessFlags := 18, nameIndex := 18, descriptorIndex := 12, attributes := #[] }])
  fields := #[{ name := "firstSentences", type := (.array .int), accessFlags := 18, slot := 0, constantValue := 0 }, { name := "ends", type := (.array .int), accessFlags := 18, slot := 1, constantValue := 0 }, { name := "lengths", type := (.array .int), accessFlags := 18, slot := 2, constantValue := 0 }]
  methods := #[k2m0, k2m1]
  instanceTypes := #[(.array .int), (.array .int), (.array .int)]
  staticTypes := #[]
  resolved := Array.replicate 31 none
  statics := none }

def pool3 : Array CpInfo := pool [(1, u "java/lang/Cloneable"), (0, .class_ 1), (0, u "java/lang/Object"), (0, .class_ 3)] 3

/-- java/lang/Cloneable -/
def k3 : Class := { plain "java/lang/Cloneable" (some 0) with
  accessFlags := 1537
  interfaces := #[]
  cf := some (fileOf pool3 2 #[] #[] 1537 4 #[] #[])
  fields := #[]
  methods := #[]
  instanceTypes := #[]
  staticTypes := #[]
  resolved := Array.replicate 8 none
  statics := none }

def pool4 : Array CpInfo := pool [(1, u "java/io/Serializable"), (0, .class_ 1), (0, u "java/lang/Object"), (0, .class_ 3)] 3

/-- java/io/Serializable -/
def k4 : Class := { plain "java/io/Serializable" (some 0) with
  accessFlags := 1537
  interfaces := #[]
  cf := some (fileOf pool4 2 #[] #[] 1537 4 #[] #[])
  fields := #[]
  methods := #[]
  instanceTypes := #[]
  staticTypes := #[]
  resolved := Array.replicate 8 none
  statics := none }

/-- the primitive byte -/
def k5 : Class := { plain "byte" none with kind := .primitive 'B', accessFlags := 0x411 }
/-- [B -/
def k6 : Class := { plain "[B" (some 0) with kind := .array 5 .byte, interfaces := #[3, 4], accessFlags := 1041 }

/-- the primitive int -/
def k7 : Class := { plain "int" none with kind := .primitive 'I', accessFlags := 0x411 }
/-- [I -/
def k8 : Class := { plain "[I" (some 0) with kind := .array 7 .int, interfaces := #[3, 4], accessFlags := 1041 }

def heap : Heap := #[]
def classes : Array Class := #[k0, k1, k2, k3, k4, k5, k6, k7, k8]
def interned : List (Array UInt16 × Addr) := []
def slotsUsed : Nat := 0
def theMethod : MethodId := ⟨1, 1⟩
def args0 : Array Value := #[.int 5, .int 7, .int 1, .int 2]
def aboutOver (below : List Frame) : State where
  vm := { classes := classes, interned := interned.toArray }
  heap := heap
  slotsUsed := slotsUsed
  threads := #[{ frames := .invoking theMethod args0 :: below }]
def below0 : List Frame := [.native { method := ⟨0, 0⟩, args := #[] }]
def about1 : State := aboutOver below0
def p0 : Program := .bare "" "" ""
def e0 : Env := launch0.env 0 0 0
theorem w_frames : about1.frames = Frame.invoking theMethod args0 :: below0 := rfl
set_option maxRecDepth 65536 in
theorem w_args : argsFit about1.vm theMethod args0 = true := by decide +kernel
set_option maxRecDepth 65536 in
theorem w_heap : heapFits about1 = true := by decide +kernel
set_option maxRecDepth 65536 in
theorem w_runnable : about1.curStatus? = some .runnable := by decide +kernel
set_option maxRecDepth 65536 in
theorem w_alone : about1.alone = true := by decide +kernel
set_option maxRecDepth 65536 in
theorem w_named : about1.methodNamed? x = some theMethod := by decide +kernel
set_option maxRecDepth 65536 in
theorem w_hears : about1.hears theMethod below0 = true := by decide +kernel
set_option maxRecDepth 65536 in
theorem w_ripe : about1.ripe theMethod args0 below0 = true := by decide +kernel
theorem w_running : about1.status = .running := rfl
set_option maxRecDepth 65536 in
theorem w_room : about1.hasRoom e0.platform room_1 = true :=
  launch0.hasRoom_least _ room_1 (by decide +kernel) (by decide +kernel) (by decide +kernel) (by decide +kernel) (by decide +kernel) (by decide +kernel)
theorem allAtoms_all (ts : List Jvm.Cond) (a : Array Jvm.Value) (st : Jvm.State) : (allAtoms ts).before a st = ts.all (fun c => c.before a st) := by
  induction ts with
  | nil => rfl
  | cons c t ih =>
    show (Jvm.Cond.and c (allAtoms t)).before a st = _
    rw [Jvm.Cond.before_and, ih, List.all_cons]
def words1 : List Jvm.Cond := Jvm.Cond.code x code maxLocals ret :: tables_1
/-- a 'code' word, met by the world's own term for the bytes: nothing is compared byte by byte -/
theorem code_word {y : MethodName} {bytes : ByteArray} {mx : Nat} {rt : Option FieldType} {a : Array Value} {s : State} {m : MethodId} {meth : Method} {c : Code} (h1 : s.methodNamed? y = some m) (h2 : s.vm.method? m = some meth) (h3 : meth.code = some c) (h4 : c.code = bytes)
    (h5 : (c.maxLocals == mx && c.exceptionTable.isEmpty && decide (c.maxStack ≤ mostOperands) && decide (meth.sig.returnType = rt) && !meth.locks && decide (parseMethodDescriptor y.desc = some meth.sig)) = true) : (Jvm.Cond.code y bytes mx rt).before a s = true := by
  simp only [Bool.and_eq_true, beq_iff_eq, Bool.not_eq_true', decide_eq_true_eq] at h5
  obtain ⟨⟨⟨⟨⟨g1, g2⟩, g3⟩, g4⟩, g5⟩, g6⟩ := h5
  simp [Cond.before, Cond.holds, Cond.value, h1, h2, h3, h4, g1, g2, g3, g4, g5, g6]
def isCode : Jvm.Cond → Bool
  | .code _ _ _ _ => true
  | _ => false
theorem all_split {L : List Jvm.Cond} {P : Jvm.Cond → Bool} (h1 : L.all (fun c => isCode c || P c) = true) (h2 : ∀ c ∈ L.filter isCode, P c = true) : L.all P = true := by
  refine List.all_eq_true.mpr fun c hc => ?_
  have h := List.all_eq_true.mp h1 c hc
  rcases Bool.eq_false_or_eq_true (isCode c) with hi | hi
  · exact h2 c (List.mem_filter.mpr ⟨hc, hi⟩)
  · simpa [hi] using h
set_option maxRecDepth 65536 in
theorem w_c0 : (Jvm.Cond.code x code maxLocals ret).before args0 about1 = true := code_word (m := ⟨1, 1⟩) (meth := k1m1) (c := k1c1) (by decide +kernel) rfl rfl rfl (by decide +kernel)
set_option maxRecDepth 65536 in
theorem w_c1 : (Jvm.Cond.code ({ cls := "com/example/kingfisher/kingfisher/index/SentenceBounds", name := "<init>", desc := "([I[I)V" } : Jvm.MethodName) prog_18_method_1_code (5 : Nat) (Option.none : Option Jvm.ClassFile.FieldType)).before args0 about1 = true := code_word (m := ⟨2, 0⟩) (meth := k2m0) (c := k2c0) (by decide +kernel) rfl rfl rfl (by decide +kernel)
set_option maxRecDepth 65536 in
theorem w_c2 : (Jvm.Cond.code ({ cls := "java/lang/Object", name := "<init>", desc := "()V" } : Jvm.MethodName) object_method_1_code (1 : Nat) (Option.none : Option Jvm.ClassFile.FieldType)).before args0 about1 = true := code_word (m := ⟨0, 0⟩) (meth := k0m0) (c := k0c0) (by decide +kernel) rfl rfl rfl (by decide +kernel)
set_option maxRecDepth 65536 in
theorem w_c3 : (Jvm.Cond.code ({ cls := "com/example/kingfisher/kingfisher/index/SentenceBoundsSentencePinLaw", name := "below", desc := "([IIIII)I" } : Jvm.MethodName) method_3_code (5 : Nat) (Option.some Jvm.ClassFile.FieldType.int)).before args0 about1 = true := code_word (m := ⟨1, 2⟩) (meth := k1m2) (c := k1c2) (by decide +kernel) rfl rfl rfl (by decide +kernel)
set_option maxRecDepth 65536 in
theorem w_c4 : (Jvm.Cond.code ({ cls := "com/example/kingfisher/kingfisher/index/SentenceBounds", name := "sentence", desc := "(II)I" } : Jvm.MethodName) prog_18_method_4_code (7 : Nat) (Option.some Jvm.ClassFile.FieldType.int)).before args0 about1 = true := code_word (m := ⟨2, 1⟩) (meth := k2m1) (c := k2c1) (by decide +kernel) rfl rfl rfl (by decide +kernel)
def codes1 : List Jvm.Cond := [Jvm.Cond.code x code maxLocals ret, Jvm.Cond.code ({ cls := "com/example/kingfisher/kingfisher/index/SentenceBounds", name := "<init>", desc := "([I[I)V" } : Jvm.MethodName) prog_18_method_1_code (5 : Nat) (Option.none : Option Jvm.ClassFile.FieldType), Jvm.Cond.code ({ cls := "java/lang/Object", name := "<init>", desc := "()V" } : Jvm.MethodName) object_method_1_code (1 : Nat) (Option.none : Option Jvm.ClassFile.FieldType), Jvm.Cond.code ({ cls := "com/example/kingfisher/kingfisher/index/SentenceBoundsSentencePinLaw", name := "below", desc := "([IIIII)I" } : Jvm.MethodName) method_3_code (5 : Nat) (Option.some Jvm.ClassFile.FieldType.int), Jvm.Cond.code ({ cls := "com/example/kingfisher/kingfisher/index/SentenceBounds", name := "sentence", desc := "(II)I" } : Jvm.MethodName) prog_18_method_4_code (7 : Nat) (Option.some Jvm.ClassFile.FieldType.int)]
set_option maxRecDepth 65536 in
theorem codes_eq : words1.filter isCode = codes1 := rfl
theorem w_codes : ∀ c ∈ words1.filter isCode, c.before args0 about1 = true := by
  rw [codes_eq]
  intro c hc
  simp only [codes1, List.mem_cons, List.not_mem_nil, or_false] at hc
  rcases hc with rfl | rfl | rfl | rfl | rfl
  · exact w_c0
  · exact w_c1
  · exact w_c2
  · exact w_c3
  · exact w_c4
set_option maxRecDepth 65536 in
theorem w_t1 : (words1.take 24).all (fun c => isCode c || c.before args0 about1) = true := by decide +kernel
set_option maxRecDepth 65536 in
theorem w_t2 : (words1.drop 24).all (fun c => isCode c || c.before args0 about1) = true := by decide +kernel
theorem w_tables : (allAtoms (Jvm.Cond.code x code maxLocals ret :: tables_1)).before args0 about1 = true := by
  rw [allAtoms_all]
  show words1.all (fun c => c.before args0 about1) = true
  refine all_split ?_ w_codes
  rw [← List.take_append_drop 24 words1, List.all_append, w_t1, w_t2]
  rfl
set_option maxRecDepth 65536 in
theorem w_case : (Jvm.Cond.and given_1 narrow_1).before args0 about1 = true := by decide +kernel
theorem w_applies : (headSpec (Jvm.Cond.code x code maxLocals ret :: tables_1) room_1).applies x e0.platform about1 = true :=
  (Spec.applies_iff w_frames).mpr ⟨w_running, w_runnable, w_alone, w_named, w_hears, w_ripe, w_room, w_tables⟩
theorem atStart : AtStart classFile x code maxLocals ret World_1 tables_1 room_1 Calls_1 rest_1 Pre_1 launch0 p0 e0 about1 theMethod args0 below0 :=
  ⟨lists_1, trivial, launch0.admits_env _ _ _, launch0.least_env, fairChoices_fair.cas, fairChoices_fair.clock, w_frames, w_args, w_heap, w_applies, trivial, trivial, w_case⟩
end start1
theorem witness_1 : WitnessClaimed_1 := ⟨start1.p0, start1.e0, start1.about1, start1.theMethod, start1.args0, start1.below0, start1.atStart⟩
end Jvm.Pilot.@@N@@
