import JvmDerived
import JvmDerived.Pilot.@@N@@Statement
import JvmDerived.Pilot.@@N@@Code
set_option linter.unusedVariables false
set_option linter.unusedSimpArgs false
namespace Jvm.Pilot.@@N@@
open Jvm Jvm.ClassFile Sem Op Lib Jvm.Free Jvm.Stand Jvm.LawKit Jvm.RoadKit Bundle Jvm.Pilot.@@N@@.Jvm.D
-- OWN KIT: a walk over an abstract heap. 'own_Ob': an array (kind, values) or an object (class, fields).
abbrev own_Ob : Type := (FieldType × List Value) ⊕ (String × List (String × String × Value))
abbrev own_Hs : Type := List (Addr × own_Ob)
def own_is (Z : State) (h : Heap) (a : Addr) : own_Ob → Prop
  | .inl q => ∃ c : Cell, Arr Z h a c q.1 ∧ c.slots.toList = q.2
  | .inr q => Exa Z h a q.1 ∧ (∀ (i j : Nat) (f g : String × String × Value), q.2[i]? = some f → q.2[j]? = some g → RoadKit.slotOf Z q.1 f.1 f.2.1 = RoadKit.slotOf Z q.1 g.1 g.2.1 → i = j) ∧ ∀ (i : Nat) (f : String × String × Value), q.2[i]? = some f → Fld Z h a q.1 f.1 f.2.1 f.2.2
/-- the objects made since the law began, each at its own address -/
def own_Hp (Z : State) (n0 : Nat) (h : Heap) (H : own_Hs) : Prop :=
  n0 ≤ h.size ∧ (∀ (i j : Nat) (a : Addr) (o o' : own_Ob), H[i]? = some (a, o) → H[j]? = some (a, o') → i = j) ∧ ∀ (i : Nat) (a : Addr) (o : own_Ob), H[i]? = some (a, o) → n0 ≤ a ∧ a < h.size ∧ own_is Z h a o
/-- what is owed at the end -/
def own_P (Z : State) (n0 : Nat) (s : State) (below : List Frame) (R : Room) (Q : Option Value → own_Hs → Prop) (t : State) (o : Outcome) : Prop :=
  t.status = .running ∧ Ended t below o ∧ ∃ v L, o = .returned v ∧ (Fr n0 L ∧ ∃ H', own_Hp Z n0 t.heap H' ∧ Q v H') ∧ FrameEnd s o t L R.cells R.slots
def own_Go (Z : State) (n0 : Nat) (p : Program) (l : Launch) (e : Env) (R : Room) (s : State) (m : MethodId) (args : Array Value) (below : List Frame) (meth : Method) (c : Code) (P : State → Outcome → Prop)
    (k n : Nat) (H : own_Hs) (pc : Nat) (ls : List Slot) (st : List Value) : Prop :=
  ∀ T L, Stand p l e R s m args below meth c T L k n → Fr n0 L → own_Hp Z n0 T.heap H → ∃ t o, Steps p.tables e below (T.setTop (mkF m pc ⟨ls⟩ st)) t ∧ P t o
/-- G is the walk of y's body -/
def own_Wk (Z : State) (n0 : Nat) (R : Room) (y : MethodName) (bytes : ByteArray) (maxL : Nat) (ret : Option FieldType) (l : Launch) (Q : Option Value → own_Hs → Prop)
    (G : Nat → Nat → own_Hs → Nat → List Slot → List Value → Prop) : Prop :=
  ∃ p e s m args below meth c, G = own_Go Z n0 p l e R s m args below meth c (own_P Z n0 s below R Q) ∧ p.tables.exec = Jvm.exec ∧ Z.Warmed39 s.vm ∧ c.code = bytes ∧ c.maxLocals = maxL ∧
    s.vm.findClass y.cls = some m.cls ∧ meth.name = y.name ∧ meth.sig.returnType = ret ∧ meth.locks = false
/-- y's contract -/
def own_Con (l : Launch) (Z : State) (n0 : Nat) (y : MethodName) (bytes : ByteArray) (maxL : Nat) (ret : Option FieldType) (ws : List Jvm.Cond) (rm : Room) (as : Array Value) (H : own_Hs) (Q : Option Value → own_Hs → Prop) : Prop :=
  ∀ h0, own_Hp Z n0 h0 H → MetFree l y (head1 (Jvm.Cond.code y bytes maxL ret :: ws) rm) (fun a U => a = as ∧ Z.Warmed39 U.vm ∧ U.heap = h0) (fun _ _ _ _ _ => True)
    (fun _ U o U' => ∃ v L, o = .returned v ∧ (Fr n0 L ∧ ∃ H', own_Hp Z n0 U'.heap H' ∧ Q v H') ∧ FrameEnd U o U' L rm.cells rm.slots)
section OwnKit
variable {Z : State} {a0 : Array Value} {n0 : Nat} {R : Room} {y : MethodName} {bytes : ByteArray} {maxL : Nat} {ret : Option FieldType} {l : Launch} {Q : Option Value → own_Hs → Prop}
  {G : Nat → Nat → own_Hs → Nat → List Slot → List Value → Prop} {k n : Nat} {H : own_Hs} {pc q q' : Nat} {ls ls' : List Slot} {st st' : List Value}
theorem own_con {ws : List Jvm.Cond} {as : Array Value} {ls0 : List Slot} (hp : plainFor y = true) (hef : ∀ m, entryFrame m as maxL = mkF m 0 ⟨ls0⟩ []) (body : ∀ G, own_Wk Z n0 R y bytes maxL ret l Q G → G 0 0 H 0 ls0 []) :
    own_Con l Z n0 y bytes maxL ret ws R as H Q := by
  intro h0 hH
  refine MetFree.of_bodySF hp hisR ?_
  intro p e s m args below meth c s₁ Bd hml0 hP hK
  obtain ⟨ha, hZ, hh⟩ := hP
  subst ha
  have e0 : s₁.heap = h0 := by rw [← hh, Bd.state]; rfl
  have hown : s.vm.findClass y.cls = some m.cls := findClass_of_methodNamed Bd.named
  have hnm := (name_of_methodNamed Bd.named Bd.method).1
  obtain ⟨t, o, stp, P⟩ := body _ ⟨p, e, s, m, args, below, meth, c, rfl, Bd.exec, hZ, Bd.bytes, hml0, hown, hnm, Bd.returns, BodyLoose.notSynchronized Bd⟩ s₁ [] (Stand.of_body Bd) (Fr.nil n0) (by rw [e0]; exact hH)
  exact ⟨t, o, castTop (hef m) stp, P⟩
/-- a step that touches the frame alone -/
theorem own_Wk.of (C : own_Wk Z n0 R y bytes maxL ret l Q G) (K : G k n H q ls' st')
    (h : ∀ (p : Program) (e : Env) (T t : State) (m : MethodId) (below : List Frame) (c : Code), p.tables.exec = Jvm.exec → c.code = bytes → At T m c below → Steps p.tables e below (T.setTop (mkF m q ⟨ls'⟩ st')) t → Steps p.tables e below (T.setTop (mkF m pc ⟨ls⟩ st)) t) :
    G k n H pc ls st := by
  obtain ⟨p, e, s, m, args, below, meth, c, rfl, hx, hZ, hby, hml, hown, hnm, hret, hlk⟩ := C
  intro T L X N hH
  obtain ⟨t, o, stp, P⟩ := K T L X N hH
  exact ⟨t, o, h p e T t m below c hx hby X.here stp, P⟩
theorem own_Wk.more {k' n' : Nat} (C : own_Wk Z n0 R y bytes maxL ret l Q G) (hk : k ≤ k') (hn : n ≤ n') (K : G k' n' H pc ls st) : G k n H pc ls st := by
  obtain ⟨p, e, s, m, args, below, meth, c, rfl, hx, hZ, hby, hml, hown, hnm, hret, hlk⟩ := C
  exact fun T L X N hH => K T L (X.more hk hn) N hH
theorem own_Wk.iloadN (C : own_Wk Z n0 R y bytes maxL ret l Q G) {j : Fin 4} {v : Int32} (hd : decode bytes pc = .ok (.iload_n j, 1)) (hl : (Array.mk ls)[j.val]? = some (.val (.int v))) (hq : pc + 1 = q) (K : G k n H q ls (.int v :: st)) : G k n H pc ls st := by
  subst hq; exact C.of K fun _ _ _ _ _ _ _ hx hby X s => XS.iloadN X hx rfl (hb hby hd) hl s
theorem own_Wk.iload (C : own_Wk Z n0 R y bytes maxL ret l Q G) {j : Nat} {v : Int32} (hd : decode bytes pc = .ok (.iload j, 2)) (hl : (Array.mk ls)[j]? = some (.val (.int v))) (hq : pc + 2 = q) (K : G k n H q ls (.int v :: st)) : G k n H pc ls st := by
  subst hq; exact C.of K fun _ _ _ _ _ _ _ hx hby X s => XS.iload X hx rfl (hb hby hd) hl s
theorem own_Wk.lloadN (C : own_Wk Z n0 R y bytes maxL ret l Q G) {j : Fin 4} {v : Int64} (hd : decode bytes pc = .ok (.lload_n j, 1)) (hl : (Array.mk ls)[j.val]? = some (.val (.long v))) (hq : pc + 1 = q) (K : G k n H q ls (.long v :: st)) : G k n H pc ls st := by
  subst hq; exact C.of K fun _ _ _ _ _ _ _ hx hby X s => XS.lloadN X hx rfl (hb hby hd) hl s
theorem own_Wk.lload (C : own_Wk Z n0 R y bytes maxL ret l Q G) {j : Nat} {v : Int64} (hd : decode bytes pc = .ok (.lload j, 2)) (hl : (Array.mk ls)[j]? = some (.val (.long v))) (hq : pc + 2 = q) (K : G k n H q ls (.long v :: st)) : G k n H pc ls st := by
  subst hq; exact C.of K fun _ _ _ _ _ _ _ hx hby X s => XS.lload X hx rfl (hb hby hd) hl s
theorem own_Wk.aloadN (C : own_Wk Z n0 R y bytes maxL ret l Q G) {j : Fin 4} {v : Value} (hd : decode bytes pc = .ok (.aload_n j, 1)) (hl : (Array.mk ls)[j.val]? = some (.val v)) (hv : v.isRef = true) (hq : pc + 1 = q) (K : G k n H q ls (v :: st)) : G k n H pc ls st := by
  subst hq; exact C.of K fun _ _ _ _ _ _ _ hx hby X s => XS.aloadN X hx rfl (hb hby hd) hl hv s
theorem own_Wk.aload (C : own_Wk Z n0 R y bytes maxL ret l Q G) {j : Nat} {v : Value} (hd : decode bytes pc = .ok (.aload j, 2)) (hl : (Array.mk ls)[j]? = some (.val v)) (hv : v.isRef = true) (hq : pc + 2 = q) (K : G k n H q ls (v :: st)) : G k n H pc ls st := by
  subst hq; exact C.of K fun _ _ _ _ _ _ _ hx hby X s => XS.aload X hx rfl (hb hby hd) hl hv s
theorem own_Wk.istoreN (C : own_Wk Z n0 R y bytes maxL ret l Q G) {j : Fin 4} {v : Int32} (hd : decode bytes pc = .ok (.istore_n j, 1)) (hl : storeLocals (Array.mk ls) j.val (.int v) = some (Array.mk ls')) (hq : pc + 1 = q) (K : G k n H q ls' st) : G k n H pc ls (.int v :: st) := by
  subst hq; exact C.of K fun _ _ _ _ _ _ _ hx hby X s => XS.istoreN X hx rfl (hb hby hd) rfl hl s
theorem own_Wk.istore (C : own_Wk Z n0 R y bytes maxL ret l Q G) {j : Nat} {v : Int32} (hd : decode bytes pc = .ok (.istore j, 2)) (hl : storeLocals (Array.mk ls) j (.int v) = some (Array.mk ls')) (hq : pc + 2 = q) (K : G k n H q ls' st) : G k n H pc ls (.int v :: st) := by
  subst hq; exact C.of K fun _ _ _ _ _ _ _ hx hby X s => XS.istore X hx rfl (hb hby hd) rfl hl s
theorem own_Wk.lstoreN (C : own_Wk Z n0 R y bytes maxL ret l Q G) {j : Fin 4} {v : Int64} (hd : decode bytes pc = .ok (.lstore_n j, 1)) (hl : storeLocals (Array.mk ls) j.val (.long v) = some (Array.mk ls')) (hq : pc + 1 = q) (K : G k n H q ls' st) : G k n H pc ls (.long v :: st) := by
  subst hq; exact C.of K fun _ _ _ _ _ _ _ hx hby X s => XS.lstoreN X hx rfl (hb hby hd) rfl hl s
theorem own_Wk.lstore (C : own_Wk Z n0 R y bytes maxL ret l Q G) {j : Nat} {v : Int64} (hd : decode bytes pc = .ok (.lstore j, 2)) (hl : storeLocals (Array.mk ls) j (.long v) = some (Array.mk ls')) (hq : pc + 2 = q) (K : G k n H q ls' st) : G k n H pc ls (.long v :: st) := by
  subst hq; exact C.of K fun _ _ _ _ _ _ _ hx hby X s => XS.lstore X hx rfl (hb hby hd) rfl hl s
theorem own_Wk.astoreN (C : own_Wk Z n0 R y bytes maxL ret l Q G) {j : Fin 4} {v : Value} (hd : decode bytes pc = .ok (.astore_n j, 1)) (hv : v.isRef = true) (hl : storeLocals (Array.mk ls) j.val v = some (Array.mk ls')) (hq : pc + 1 = q) (K : G k n H q ls' st) : G k n H pc ls (v :: st) := by
  subst hq; exact C.of K fun _ _ _ _ _ _ _ hx hby X s => XS.astoreN X hx rfl (hb hby hd) rfl hv hl s
theorem own_Wk.astore (C : own_Wk Z n0 R y bytes maxL ret l Q G) {j : Nat} {v : Value} (hd : decode bytes pc = .ok (.astore j, 2)) (hv : v.isRef = true) (hl : storeLocals (Array.mk ls) j v = some (Array.mk ls')) (hq : pc + 2 = q) (K : G k n H q ls' st) : G k n H pc ls (v :: st) := by
  subst hq; exact C.of K fun _ _ _ _ _ _ _ hx hby X s => XS.astore X hx rfl (hb hby hd) rfl hv hl s
theorem own_Wk.iconst (C : own_Wk Z n0 R y bytes maxL ret l Q G) {i : Int} {z : Int32} (hd : decode bytes pc = .ok (.iconst i, 1)) (hz : Int32.ofInt i = z) (hq : pc + 1 = q) (K : G k n H q ls (.int z :: st)) : G k n H pc ls st := by
  subst hq hz; exact C.of K fun _ _ _ _ _ _ _ hx hby X s => XS.iconst X hx rfl (hb hby hd) s
theorem own_Wk.bipush (C : own_Wk Z n0 R y bytes maxL ret l Q G) {i : Int} {z : Int32} (hd : decode bytes pc = .ok (.bipush i, 2)) (hz : (Int8.ofInt i).toInt32 = z) (hq : pc + 2 = q) (K : G k n H q ls (.int z :: st)) : G k n H pc ls st := by
  subst hq hz; exact C.of K fun _ _ _ _ _ _ _ hx hby X s => XS.bipush X hx rfl (hb hby hd) s
theorem own_Wk.sipush (C : own_Wk Z n0 R y bytes maxL ret l Q G) {i : Int} {z : Int32} (hd : decode bytes pc = .ok (.sipush i, 3)) (hz : (Int16.ofInt i).toInt32 = z) (hq : pc + 3 = q) (K : G k n H q ls (.int z :: st)) : G k n H pc ls st := by
  subst hq hz; exact C.of K fun _ _ _ _ _ _ _ hx hby X s => XS.sipush X hx rfl (hb hby hd) s
theorem own_Wk.lconst (C : own_Wk Z n0 R y bytes maxL ret l Q G) {i : Fin 2} {z : Int64} (hd : decode bytes pc = .ok (.lconst i, 1)) (hz : Int64.ofNat i = z) (hq : pc + 1 = q) (K : G k n H q ls (.long z :: st)) : G k n H pc ls st := by
  subst hq hz; exact C.of K fun _ _ _ _ _ _ _ hx hby X s => XS.lconst X hx rfl (hb hby hd) s
theorem own_Wk.aconstNull (C : own_Wk Z n0 R y bytes maxL ret l Q G) (hd : decode bytes pc = .ok (.aconst_null, 1)) (hq : pc + 1 = q) (K : G k n H q ls (.null :: st)) : G k n H pc ls st := by
  subst hq; exact C.of K fun _ _ _ _ _ _ _ hx hby X s => XS.aconstNull X hx rfl (hb hby hd) s
theorem own_Wk.iadd (C : own_Wk Z n0 R y bytes maxL ret l Q G) {a b : Int32} (hd : decode bytes pc = .ok (.iadd, 1)) (hq : pc + 1 = q) (K : G k n H q ls (.int (a + b) :: st)) : G k n H pc ls (.int b :: .int a :: st) := by
  subst hq; exact C.of K fun _ _ _ _ _ _ _ hx hby X s => XS.iadd X hx rfl (hb hby hd) rfl s
theorem own_Wk.isub (C : own_Wk Z n0 R y bytes maxL ret l Q G) {a b : Int32} (hd : decode bytes pc = .ok (.isub, 1)) (hq : pc + 1 = q) (K : G k n H q ls (.int (a - b) :: st)) : G k n H pc ls (.int b :: .int a :: st) := by
  subst hq; exact C.of K fun _ _ _ _ _ _ _ hx hby X s => XS.isub X hx rfl (hb hby hd) rfl s
theorem own_Wk.imul (C : own_Wk Z n0 R y bytes maxL ret l Q G) {a b : Int32} (hd : decode bytes pc = .ok (.imul, 1)) (hq : pc + 1 = q) (K : G k n H q ls (.int (a * b) :: st)) : G k n H pc ls (.int b :: .int a :: st) := by
  subst hq; exact C.of K fun _ _ _ _ _ _ _ hx hby X s => XS.imul X hx rfl (hb hby hd) rfl s
theorem own_Wk.iand (C : own_Wk Z n0 R y bytes maxL ret l Q G) {a b : Int32} (hd : decode bytes pc = .ok (.iand, 1)) (hq : pc + 1 = q) (K : G k n H q ls (.int (a &&& b) :: st)) : G k n H pc ls (.int b :: .int a :: st) := by
  subst hq; exact C.of K fun _ _ _ _ _ _ _ hx hby X s => XS.iand X hx rfl (hb hby hd) rfl s
theorem own_Wk.ior (C : own_Wk Z n0 R y bytes maxL ret l Q G) {a b : Int32} (hd : decode bytes pc = .ok (.ior, 1)) (hq : pc + 1 = q) (K : G k n H q ls (.int (a ||| b) :: st)) : G k n H pc ls (.int b :: .int a :: st) := by
  subst hq; exact C.of K fun _ _ _ _ _ _ _ hx hby X s => XS.ior X hx rfl (hb hby hd) rfl s
theorem own_Wk.ixor (C : own_Wk Z n0 R y bytes maxL ret l Q G) {a b : Int32} (hd : decode bytes pc = .ok (.ixor, 1)) (hq : pc + 1 = q) (K : G k n H q ls (.int (a ^^^ b) :: st)) : G k n H pc ls (.int b :: .int a :: st) := by
  subst hq; exact C.of K fun _ _ _ _ _ _ _ hx hby X s => XS.ixor X hx rfl (hb hby hd) rfl s
theorem own_Wk.ishl (C : own_Wk Z n0 R y bytes maxL ret l Q G) {a b : Int32} (hd : decode bytes pc = .ok (.ishl, 1)) (hq : pc + 1 = q) (K : G k n H q ls (.int (a <<< (b &&& 31)) :: st)) : G k n H pc ls (.int b :: .int a :: st) := by
  subst hq; exact C.of K fun _ _ _ _ _ _ _ hx hby X s => XS.ishl X hx rfl (hb hby hd) rfl s
theorem own_Wk.ishr (C : own_Wk Z n0 R y bytes maxL ret l Q G) {a b : Int32} (hd : decode bytes pc = .ok (.ishr, 1)) (hq : pc + 1 = q) (K : G k n H q ls (.int (a >>> (b &&& 31)) :: st)) : G k n H pc ls (.int b :: .int a :: st) := by
  subst hq; exact C.of K fun _ _ _ _ _ _ _ hx hby X s => XS.ishr X hx rfl (hb hby hd) rfl s
theorem own_Wk.iushr (C : own_Wk Z n0 R y bytes maxL ret l Q G) {a b : Int32} (hd : decode bytes pc = .ok (.iushr, 1)) (hq : pc + 1 = q) (K : G k n H q ls (.int ((a.toUInt32 >>> (b &&& 31).toUInt32).toInt32) :: st)) : G k n H pc ls (.int b :: .int a :: st) := by
  subst hq; exact C.of K fun _ _ _ _ _ _ _ hx hby X s => XS.iushr X hx rfl (hb hby hd) rfl s
theorem own_Wk.ladd (C : own_Wk Z n0 R y bytes maxL ret l Q G) {a b : Int64} (hd : decode bytes pc = .ok (.ladd, 1)) (hq : pc + 1 = q) (K : G k n H q ls (.long (a + b) :: st)) : G k n H pc ls (.long b :: .long a :: st) := by
  subst hq; exact C.of K fun _ _ _ _ _ _ _ hx hby X s => XS.ladd X hx rfl (hb hby hd) rfl s
theorem own_Wk.lsub (C : own_Wk Z n0 R y bytes maxL ret l Q G) {a b : Int64} (hd : decode bytes pc = .ok (.lsub, 1)) (hq : pc + 1 = q) (K : G k n H q ls (.long (a - b) :: st)) : G k n H pc ls (.long b :: .long a :: st) := by
  subst hq; exact C.of K fun _ _ _ _ _ _ _ hx hby X s => XS.lsub X hx rfl (hb hby hd) rfl s
theorem own_Wk.lmul (C : own_Wk Z n0 R y bytes maxL ret l Q G) {a b : Int64} (hd : decode bytes pc = .ok (.lmul, 1)) (hq : pc + 1 = q) (K : G k n H q ls (.long (a * b) :: st)) : G k n H pc ls (.long b :: .long a :: st) := by
  subst hq; exact C.of K fun _ _ _ _ _ _ _ hx hby X s => XS.lmul X hx rfl (hb hby hd) rfl s
theorem own_Wk.land (C : own_Wk Z n0 R y bytes maxL ret l Q G) {a b : Int64} (hd : decode bytes pc = .ok (.land, 1)) (hq : pc + 1 = q) (K : G k n H q ls (.long (a &&& b) :: st)) : G k n H pc ls (.long b :: .long a :: st) := by
  subst hq; exact C.of K fun _ _ _ _ _ _ _ hx hby X s => XS.land X hx rfl (hb hby hd) rfl s
theorem own_Wk.lor (C : own_Wk Z n0 R y bytes maxL ret l Q G) {a b : Int64} (hd : decode bytes pc = .ok (.lor, 1)) (hq : pc + 1 = q) (K : G k n H q ls (.long (a ||| b) :: st)) : G k n H pc ls (.long b :: .long a :: st) := by
  subst hq; exact C.of K fun _ _ _ _ _ _ _ hx hby X s => XS.lor X hx rfl (hb hby hd) rfl s
theorem own_Wk.lxor (C : own_Wk Z n0 R y bytes maxL ret l Q G) {a b : Int64} (hd : decode bytes pc = .ok (.lxor, 1)) (hq : pc + 1 = q) (K : G k n H q ls (.long (a ^^^ b) :: st)) : G k n H pc ls (.long b :: .long a :: st) := by
  subst hq; exact C.of K fun _ _ _ _ _ _ _ hx hby X s => XS.lxor X hx rfl (hb hby hd) rfl s
theorem own_Wk.lshl (C : own_Wk Z n0 R y bytes maxL ret l Q G) {a : Int64} {b : Int32} (hd : decode bytes pc = .ok (.lshl, 1)) (hq : pc + 1 = q) (K : G k n H q ls (.long (a <<< (b &&& 0x3f).toInt64) :: st)) : G k n H pc ls (.int b :: .long a :: st) := by
  subst hq; exact C.of K fun _ _ _ _ _ _ _ hx hby X s => XS.lshl X hx rfl (hb hby hd) rfl s
theorem own_Wk.lshr (C : own_Wk Z n0 R y bytes maxL ret l Q G) {a : Int64} {b : Int32} (hd : decode bytes pc = .ok (.lshr, 1)) (hq : pc + 1 = q) (K : G k n H q ls (.long (a >>> (b &&& 0x3f).toInt64) :: st)) : G k n H pc ls (.int b :: .long a :: st) := by
  subst hq; exact C.of K fun _ _ _ _ _ _ _ hx hby X s => XS.lshr X hx rfl (hb hby hd) rfl s
theorem own_Wk.lushr (C : own_Wk Z n0 R y bytes maxL ret l Q G) {a : Int64} {b : Int32} (hd : decode bytes pc = .ok (.lushr, 1)) (hq : pc + 1 = q) (K : G k n H q ls (.long ((a.toUInt64 >>> (b &&& 0x3f).toInt64.toUInt64).toInt64) :: st)) : G k n H pc ls (.int b :: .long a :: st) := by
  subst hq; exact C.of K fun _ _ _ _ _ _ _ hx hby X s => XS.lushr X hx rfl (hb hby hd) rfl s
theorem own_Wk.idiv (C : own_Wk Z n0 R y bytes maxL ret l Q G) {a b : Int32} (hd : decode bytes pc = .ok (.idiv, 1)) (hy : b ≠ 0) (hq : pc + 1 = q) (K : G k n H q ls (.int (a / b) :: st)) : G k n H pc ls (.int b :: .int a :: st) := by
  subst hq; exact C.of K fun _ _ _ _ _ _ _ hx hby X s => XS.idiv X hx rfl (hb hby hd) rfl hy s
theorem own_Wk.irem (C : own_Wk Z n0 R y bytes maxL ret l Q G) {a b : Int32} (hd : decode bytes pc = .ok (.irem, 1)) (hy : b ≠ 0) (hq : pc + 1 = q) (K : G k n H q ls (.int (a % b) :: st)) : G k n H pc ls (.int b :: .int a :: st) := by
  subst hq; exact C.of K fun _ _ _ _ _ _ _ hx hby X s => XS.irem X hx rfl (hb hby hd) rfl hy (by rw [show a - a / b * b = a % b from irem_eq_mod a b]; exact s)
theorem own_Wk.ldiv (C : own_Wk Z n0 R y bytes maxL ret l Q G) {a b : Int64} (hd : decode bytes pc = .ok (.ldiv, 1)) (hy : b ≠ 0) (hq : pc + 1 = q) (K : G k n H q ls (.long (a / b) :: st)) : G k n H pc ls (.long b :: .long a :: st) := by
  subst hq; exact C.of K fun _ _ _ _ _ _ _ hx hby X s => XS.ldiv X hx rfl (hb hby hd) rfl hy s
theorem own_Wk.lrem (C : own_Wk Z n0 R y bytes maxL ret l Q G) {a b : Int64} (hd : decode bytes pc = .ok (.lrem, 1)) (hy : b ≠ 0) (hq : pc + 1 = q) (K : G k n H q ls (.long (a % b) :: st)) : G k n H pc ls (.long b :: .long a :: st) := by
  subst hq; exact C.of K fun _ _ _ _ _ _ _ hx hby X s => XS.lrem X hx rfl (hb hby hd) rfl hy (by rw [show a - a / b * b = a % b from lrem_mod a b]; exact s)
theorem own_Wk.ineg (C : own_Wk Z n0 R y bytes maxL ret l Q G) {a : Int32} (hd : decode bytes pc = .ok (.ineg, 1)) (hq : pc + 1 = q) (K : G k n H q ls (.int (-a) :: st)) : G k n H pc ls (.int a :: st) := by
  subst hq; exact C.of K fun _ _ _ _ _ _ _ hx hby X s => XS.ineg X hx rfl (hb hby hd) rfl s
theorem own_Wk.lneg (C : own_Wk Z n0 R y bytes maxL ret l Q G) {a : Int64} (hd : decode bytes pc = .ok (.lneg, 1)) (hq : pc + 1 = q) (K : G k n H q ls (.long (-a) :: st)) : G k n H pc ls (.long a :: st) := by
  subst hq; exact C.of K fun _ _ _ _ _ _ _ hx hby X s => XS.lneg X hx rfl (hb hby hd) rfl s
theorem own_Wk.i2l (C : own_Wk Z n0 R y bytes maxL ret l Q G) {a : Int32} (hd : decode bytes pc = .ok (.i2l, 1)) (hq : pc + 1 = q) (K : G k n H q ls (.long (a.toInt64) :: st)) : G k n H pc ls (.int a :: st) := by
  subst hq; exact C.of K fun _ _ _ _ _ _ _ hx hby X s => XS.i2l X hx rfl (hb hby hd) rfl s
theorem own_Wk.l2i (C : own_Wk Z n0 R y bytes maxL ret l Q G) {a : Int64} (hd : decode bytes pc = .ok (.l2i, 1)) (hq : pc + 1 = q) (K : G k n H q ls (.int (a.toInt32) :: st)) : G k n H pc ls (.long a :: st) := by
  subst hq; exact C.of K fun _ _ _ _ _ _ _ hx hby X s => XS.l2i X hx rfl (hb hby hd) rfl s
theorem own_Wk.i2b (C : own_Wk Z n0 R y bytes maxL ret l Q G) {a : Int32} (hd : decode bytes pc = .ok (.i2b, 1)) (hq : pc + 1 = q) (K : G k n H q ls (.int (a.toInt8.toInt32) :: st)) : G k n H pc ls (.int a :: st) := by
  subst hq; exact C.of K fun _ _ _ _ _ _ _ hx hby X s => XS.i2b X hx rfl (hb hby hd) rfl s
theorem own_Wk.dup (C : own_Wk Z n0 R y bytes maxL ret l Q G) {v : Value} (hd : decode bytes pc = .ok (.dup, 1)) (hc : v.category = 1) (hq : pc + 1 = q) (K : G k n H q ls (v :: v :: st)) : G k n H pc ls (v :: st) := by
  subst hq; exact C.of K fun _ _ _ _ _ _ _ hx hby X s => XS.dup X hx rfl (hb hby hd) rfl hc s
theorem own_Wk.pop (C : own_Wk Z n0 R y bytes maxL ret l Q G) {v : Value} (hd : decode bytes pc = .ok (.pop, 1)) (hc : v.category = 1) (hq : pc + 1 = q) (K : G k n H q ls st) : G k n H pc ls (v :: st) := by
  subst hq; exact C.of K fun _ _ _ _ _ _ _ hx hby X s => XS.pop X hx rfl (hb hby hd) rfl hc s
theorem own_Wk.iinc (C : own_Wk Z n0 R y bytes maxL ret l Q G) {j : Nat} {i : Int} {v z : Int32} (hd : decode bytes pc = .ok (.iinc j i, 3)) (hl : (Array.mk ls)[j]? = some (.val (.int v))) (hz : Int32.ofInt i = z) (hl' : storeLocals (Array.mk ls) j (.int (v + z)) = some (Array.mk ls')) (hq : pc + 3 = q) (K : G k n H q ls' st) : G k n H pc ls st := by
  subst hq hz; exact C.of K fun _ _ _ _ _ _ _ hx hby X s => XS.iinc X hx rfl (hb hby hd) hl hl' s
theorem own_Wk.goto (C : own_Wk Z n0 R y bytes maxL ret l Q G) {o : Int} (hd : decode bytes pc = .ok (.goto o, 3)) (ho : 0 ≤ (pc : Int) + o) (hq : ((pc : Int) + o).toNat = q) (K : G k n H q ls st) : G k n H pc ls st := by
  exact C.of K fun _ _ _ _ _ _ _ hx hby X s => XS.goto X hx rfl rfl (hb hby hd) ho hq s
theorem own_Wk.icmpLt (C : own_Wk Z n0 R y bytes maxL ret l Q G) {a b : Int32} {o : Int} (hd : decode bytes pc = .ok (.if_icmp .lt o, 3)) (ho : 0 ≤ (pc : Int) + o) (hq : ((pc : Int) + o).toNat = q) (hq' : pc + 3 = q') (T : a < b → G k n H q ls st) (F : ¬ a < b → G k n H q' ls st) : G k n H pc ls (.int b :: .int a :: st) := by
  subst hq hq'
  by_cases h : a < b
  · exact C.of (T h) fun _ _ _ _ _ _ _ hx hby X s => XS.icmpYes X hx rfl rfl (hb hby hd) rfl (tlt h).1 ho rfl s
  · exact C.of (F h) fun _ _ _ _ _ _ _ hx hby X s => XS.icmpNo X hx rfl (hb hby hd) rfl (flt h).1 s
theorem own_Wk.ifLt (C : own_Wk Z n0 R y bytes maxL ret l Q G) {a : Int32} {o : Int} (hd : decode bytes pc = .ok (.ifCond .lt o, 3)) (ho : 0 ≤ (pc : Int) + o) (hq : ((pc : Int) + o).toNat = q) (hq' : pc + 3 = q') (T : a < 0 → G k n H q ls st) (F : ¬ a < 0 → G k n H q' ls st) : G k n H pc ls (.int a :: st) := by
  subst hq hq'
  by_cases h : a < 0
  · exact C.of (T h) fun _ _ _ _ _ _ _ hx hby X s => XS.ifYes X hx rfl rfl (hb hby hd) rfl ((if0 _ _).trans (tlt h).1) ho rfl s
  · exact C.of (F h) fun _ _ _ _ _ _ _ hx hby X s => XS.ifNo X hx rfl (hb hby hd) rfl ((if0 _ _).trans (flt h).1) s
theorem own_Wk.icmpGe (C : own_Wk Z n0 R y bytes maxL ret l Q G) {a b : Int32} {o : Int} (hd : decode bytes pc = .ok (.if_icmp .ge o, 3)) (ho : 0 ≤ (pc : Int) + o) (hq : ((pc : Int) + o).toNat = q) (hq' : pc + 3 = q') (T : a < b → G k n H q' ls st) (F : ¬ a < b → G k n H q ls st) : G k n H pc ls (.int b :: .int a :: st) := by
  subst hq hq'
  by_cases h : a < b
  · exact C.of (T h) fun _ _ _ _ _ _ _ hx hby X s => XS.icmpNo X hx rfl (hb hby hd) rfl (tlt h).2.1 s
  · exact C.of (F h) fun _ _ _ _ _ _ _ hx hby X s => XS.icmpYes X hx rfl rfl (hb hby hd) rfl (flt h).2.1 ho rfl s
theorem own_Wk.ifGe (C : own_Wk Z n0 R y bytes maxL ret l Q G) {a : Int32} {o : Int} (hd : decode bytes pc = .ok (.ifCond .ge o, 3)) (ho : 0 ≤ (pc : Int) + o) (hq : ((pc : Int) + o).toNat = q) (hq' : pc + 3 = q') (T : a < 0 → G k n H q' ls st) (F : ¬ a < 0 → G k n H q ls st) : G k n H pc ls (.int a :: st) := by
  subst hq hq'
  by_cases h : a < 0
  · exact C.of (T h) fun _ _ _ _ _ _ _ hx hby X s => XS.ifNo X hx rfl (hb hby hd) rfl ((if0 _ _).trans (tlt h).2.1) s
  · exact C.of (F h) fun _ _ _ _ _ _ _ hx hby X s => XS.ifYes X hx rfl rfl (hb hby hd) rfl ((if0 _ _).trans (flt h).2.1) ho rfl s
theorem own_Wk.icmpGt (C : own_Wk Z n0 R y bytes maxL ret l Q G) {a b : Int32} {o : Int} (hd : decode bytes pc = .ok (.if_icmp .gt o, 3)) (ho : 0 ≤ (pc : Int) + o) (hq : ((pc : Int) + o).toNat = q) (hq' : pc + 3 = q') (T : b < a → G k n H q ls st) (F : ¬ b < a → G k n H q' ls st) : G k n H pc ls (.int b :: .int a :: st) := by
  subst hq hq'
  by_cases h : b < a
  · exact C.of (T h) fun _ _ _ _ _ _ _ hx hby X s => XS.icmpYes X hx rfl rfl (hb hby hd) rfl (tlt h).2.2.1 ho rfl s
  · exact C.of (F h) fun _ _ _ _ _ _ _ hx hby X s => XS.icmpNo X hx rfl (hb hby hd) rfl (flt h).2.2.1 s
theorem own_Wk.ifGt (C : own_Wk Z n0 R y bytes maxL ret l Q G) {a : Int32} {o : Int} (hd : decode bytes pc = .ok (.ifCond .gt o, 3)) (ho : 0 ≤ (pc : Int) + o) (hq : ((pc : Int) + o).toNat = q) (hq' : pc + 3 = q') (T : 0 < a → G k n H q ls st) (F : ¬ 0 < a → G k n H q' ls st) : G k n H pc ls (.int a :: st) := by
  subst hq hq'
  by_cases h : 0 < a
  · exact C.of (T h) fun _ _ _ _ _ _ _ hx hby X s => XS.ifYes X hx rfl rfl (hb hby hd) rfl ((if0 _ _).trans (tlt h).2.2.1) ho rfl s
  · exact C.of (F h) fun _ _ _ _ _ _ _ hx hby X s => XS.ifNo X hx rfl (hb hby hd) rfl ((if0 _ _).trans (flt h).2.2.1) s
theorem own_Wk.icmpLe (C : own_Wk Z n0 R y bytes maxL ret l Q G) {a b : Int32} {o : Int} (hd : decode bytes pc = .ok (.if_icmp .le o, 3)) (ho : 0 ≤ (pc : Int) + o) (hq : ((pc : Int) + o).toNat = q) (hq' : pc + 3 = q') (T : b < a → G k n H q' ls st) (F : ¬ b < a → G k n H q ls st) : G k n H pc ls (.int b :: .int a :: st) := by
  subst hq hq'
  by_cases h : b < a
  · exact C.of (T h) fun _ _ _ _ _ _ _ hx hby X s => XS.icmpNo X hx rfl (hb hby hd) rfl (tlt h).2.2.2 s
  · exact C.of (F h) fun _ _ _ _ _ _ _ hx hby X s => XS.icmpYes X hx rfl rfl (hb hby hd) rfl (flt h).2.2.2 ho rfl s
theorem own_Wk.ifLe (C : own_Wk Z n0 R y bytes maxL ret l Q G) {a : Int32} {o : Int} (hd : decode bytes pc = .ok (.ifCond .le o, 3)) (ho : 0 ≤ (pc : Int) + o) (hq : ((pc : Int) + o).toNat = q) (hq' : pc + 3 = q') (T : 0 < a → G k n H q' ls st) (F : ¬ 0 < a → G k n H q ls st) : G k n H pc ls (.int a :: st) := by
  subst hq hq'
  by_cases h : 0 < a
  · exact C.of (T h) fun _ _ _ _ _ _ _ hx hby X s => XS.ifNo X hx rfl (hb hby hd) rfl ((if0 _ _).trans (tlt h).2.2.2) s
  · exact C.of (F h) fun _ _ _ _ _ _ _ hx hby X s => XS.ifYes X hx rfl rfl (hb hby hd) rfl ((if0 _ _).trans (flt h).2.2.2) ho rfl s
theorem own_Wk.icmpEq (C : own_Wk Z n0 R y bytes maxL ret l Q G) {a b : Int32} {o : Int} (hd : decode bytes pc = .ok (.if_icmp .eq o, 3)) (ho : 0 ≤ (pc : Int) + o) (hq : ((pc : Int) + o).toNat = q) (hq' : pc + 3 = q') (T : a = b → G k n H q ls st) (F : ¬ a = b → G k n H q' ls st) : G k n H pc ls (.int b :: .int a :: st) := by
  subst hq hq'
  by_cases h : a = b
  · exact C.of (T h) fun _ _ _ _ _ _ _ hx hby X s => XS.icmpYes X hx rfl rfl (hb hby hd) rfl (teq h).1 ho rfl s
  · exact C.of (F h) fun _ _ _ _ _ _ _ hx hby X s => XS.icmpNo X hx rfl (hb hby hd) rfl (feq h).1 s
theorem own_Wk.ifEq (C : own_Wk Z n0 R y bytes maxL ret l Q G) {a : Int32} {o : Int} (hd : decode bytes pc = .ok (.ifCond .eq o, 3)) (ho : 0 ≤ (pc : Int) + o) (hq : ((pc : Int) + o).toNat = q) (hq' : pc + 3 = q') (T : a = 0 → G k n H q ls st) (F : ¬ a = 0 → G k n H q' ls st) : G k n H pc ls (.int a :: st) := by
  subst hq hq'
  by_cases h : a = 0
  · exact C.of (T h) fun _ _ _ _ _ _ _ hx hby X s => XS.ifYes X hx rfl rfl (hb hby hd) rfl ((if0 _ _).trans (teq h).1) ho rfl s
  · exact C.of (F h) fun _ _ _ _ _ _ _ hx hby X s => XS.ifNo X hx rfl (hb hby hd) rfl ((if0 _ _).trans (feq h).1) s
theorem own_Wk.icmpNe (C : own_Wk Z n0 R y bytes maxL ret l Q G) {a b : Int32} {o : Int} (hd : decode bytes pc = .ok (.if_icmp .ne o, 3)) (ho : 0 ≤ (pc : Int) + o) (hq : ((pc : Int) + o).toNat = q) (hq' : pc + 3 = q') (T : a = b → G k n H q' ls st) (F : ¬ a = b → G k n H q ls st) : G k n H pc ls (.int b :: .int a :: st) := by
  subst hq hq'
  by_cases h : a = b
  · exact C.of (T h) fun _ _ _ _ _ _ _ hx hby X s => XS.icmpNo X hx rfl (hb hby hd) rfl (teq h).2 s
  · exact C.of (F h) fun _ _ _ _ _ _ _ hx hby X s => XS.icmpYes X hx rfl rfl (hb hby hd) rfl (feq h).2 ho rfl s
theorem own_Wk.ifNe (C : own_Wk Z n0 R y bytes maxL ret l Q G) {a : Int32} {o : Int} (hd : decode bytes pc = .ok (.ifCond .ne o, 3)) (ho : 0 ≤ (pc : Int) + o) (hq : ((pc : Int) + o).toNat = q) (hq' : pc + 3 = q') (T : a = 0 → G k n H q' ls st) (F : ¬ a = 0 → G k n H q ls st) : G k n H pc ls (.int a :: st) := by
  subst hq hq'
  by_cases h : a = 0
  · exact C.of (T h) fun _ _ _ _ _ _ _ hx hby X s => XS.ifNo X hx rfl (hb hby hd) rfl ((if0 _ _).trans (teq h).2) s
  · exact C.of (F h) fun _ _ _ _ _ _ _ hx hby X s => XS.ifYes X hx rfl rfl (hb hby hd) rfl ((if0 _ _).trans (feq h).2) ho rfl s
theorem own_Wk.lcmp0 (C : own_Wk Z n0 R y bytes maxL ret l Q G) {a b : Int64} (hd : decode bytes pc = .ok (.lcmp, 1)) (hq : pc + 1 = q) (K : G k n H q ls (.int (lcmpW a b) :: st)) : G k n H pc ls (.long b :: .long a :: st) := by
  subst hq; exact C.of K fun _ _ _ _ _ _ _ hx hby X s => XS.lcmp X hx rfl (hb hby hd) rfl s
theorem own_Wk.lcmpLt (C : own_Wk Z n0 R y bytes maxL ret l Q G) {a b : Int64} {o : Int} (hd : decode bytes pc = .ok (.lcmp, 1)) {q1 : Nat} (h1 : pc + 1 = q1) (hd1 : decode bytes q1 = .ok (.ifCond .lt o, 3)) (ho : 0 ≤ (q1 : Int) + o) (hq : ((q1 : Int) + o).toNat = q) (hq' : q1 + 3 = q') (T : a < b → G k n H q ls st) (F : ¬ a < b → G k n H q' ls st) : G k n H pc ls (.long b :: .long a :: st) :=
  C.lcmp0 hd h1 (C.ifLt hd1 ho hq hq' (fun h => T ((lw_lt a b).mp h)) (fun h => F fun h' => h ((lw_lt a b).mpr h')))
theorem own_Wk.lcmpGe (C : own_Wk Z n0 R y bytes maxL ret l Q G) {a b : Int64} {o : Int} (hd : decode bytes pc = .ok (.lcmp, 1)) {q1 : Nat} (h1 : pc + 1 = q1) (hd1 : decode bytes q1 = .ok (.ifCond .ge o, 3)) (ho : 0 ≤ (q1 : Int) + o) (hq : ((q1 : Int) + o).toNat = q) (hq' : q1 + 3 = q') (T : a < b → G k n H q' ls st) (F : ¬ a < b → G k n H q ls st) : G k n H pc ls (.long b :: .long a :: st) :=
  C.lcmp0 hd h1 (C.ifGe hd1 ho hq hq' (fun h => T ((lw_lt a b).mp h)) (fun h => F fun h' => h ((lw_lt a b).mpr h')))
theorem own_Wk.lcmpGt (C : own_Wk Z n0 R y bytes maxL ret l Q G) {a b : Int64} {o : Int} (hd : decode bytes pc = .ok (.lcmp, 1)) {q1 : Nat} (h1 : pc + 1 = q1) (hd1 : decode bytes q1 = .ok (.ifCond .gt o, 3)) (ho : 0 ≤ (q1 : Int) + o) (hq : ((q1 : Int) + o).toNat = q) (hq' : q1 + 3 = q') (T : b < a → G k n H q ls st) (F : ¬ b < a → G k n H q' ls st) : G k n H pc ls (.long b :: .long a :: st) :=
  C.lcmp0 hd h1 (C.ifGt hd1 ho hq hq' (fun h => T ((lw_gt a b).mp h)) (fun h => F fun h' => h ((lw_gt a b).mpr h')))
theorem own_Wk.lcmpLe (C : own_Wk Z n0 R y bytes maxL ret l Q G) {a b : Int64} {o : Int} (hd : decode bytes pc = .ok (.lcmp, 1)) {q1 : Nat} (h1 : pc + 1 = q1) (hd1 : decode bytes q1 = .ok (.ifCond .le o, 3)) (ho : 0 ≤ (q1 : Int) + o) (hq : ((q1 : Int) + o).toNat = q) (hq' : q1 + 3 = q') (T : b < a → G k n H q' ls st) (F : ¬ b < a → G k n H q ls st) : G k n H pc ls (.long b :: .long a :: st) :=
  C.lcmp0 hd h1 (C.ifLe hd1 ho hq hq' (fun h => T ((lw_gt a b).mp h)) (fun h => F fun h' => h ((lw_gt a b).mpr h')))
theorem own_Wk.lcmpEq (C : own_Wk Z n0 R y bytes maxL ret l Q G) {a b : Int64} {o : Int} (hd : decode bytes pc = .ok (.lcmp, 1)) {q1 : Nat} (h1 : pc + 1 = q1) (hd1 : decode bytes q1 = .ok (.ifCond .eq o, 3)) (ho : 0 ≤ (q1 : Int) + o) (hq : ((q1 : Int) + o).toNat = q) (hq' : q1 + 3 = q') (T : a = b → G k n H q ls st) (F : ¬ a = b → G k n H q' ls st) : G k n H pc ls (.long b :: .long a :: st) :=
  C.lcmp0 hd h1 (C.ifEq hd1 ho hq hq' (fun h => T ((lw_eq a b).mp h)) (fun h => F fun h' => h ((lw_eq a b).mpr h')))
theorem own_Wk.lcmpNe (C : own_Wk Z n0 R y bytes maxL ret l Q G) {a b : Int64} {o : Int} (hd : decode bytes pc = .ok (.lcmp, 1)) {q1 : Nat} (h1 : pc + 1 = q1) (hd1 : decode bytes q1 = .ok (.ifCond .ne o, 3)) (ho : 0 ≤ (q1 : Int) + o) (hq : ((q1 : Int) + o).toNat = q) (hq' : q1 + 3 = q') (T : a = b → G k n H q' ls st) (F : ¬ a = b → G k n H q ls st) : G k n H pc ls (.long b :: .long a :: st) :=
  C.lcmp0 hd h1 (C.ifNe hd1 ho hq hq' (fun h => T ((lw_eq a b).mp h)) (fun h => F fun h' => h ((lw_eq a b).mpr h')))
theorem own_Wk.nonnullY (C : own_Wk Z n0 R y bytes maxL ret l Q G) {b : Addr} {o : Int} (hd : decode bytes pc = .ok (.ifnonnull o, 3)) (ho : 0 ≤ (pc : Int) + o) (hq : ((pc : Int) + o).toNat = q) (K : G k n H q ls st) : G k n H pc ls (.ref b :: st) := by
  exact C.of K fun _ _ _ _ _ _ _ hx hby X s => XS.ifnonnullYes X hx rfl rfl (hb hby hd) rfl ho hq s
theorem own_Wk.nonnullN (C : own_Wk Z n0 R y bytes maxL ret l Q G) {o : Int} (hd : decode bytes pc = .ok (.ifnonnull o, 3)) (hq : pc + 3 = q) (K : G k n H q ls st) : G k n H pc ls (.null :: st) := by
  subst hq; exact C.of K fun _ _ _ _ _ _ _ hx hby X s => XS.ifnonnullNo X hx rfl (hb hby hd) rfl s
theorem own_Wk.ldc (C : own_Wk Z n0 R y bytes maxL ret l Q G) {i : Nat} {v : Int32} (hd : decode bytes pc = .ok (.ldc i, 2)) (w : (Jvm.Cond.constant y.cls i v).before a0 Z = true) (hq : pc + 2 = q) (K : G k n H q ls (.int v :: st)) : G k n H pc ls st := by
  subst hq
  obtain ⟨p, e, s, m, args, below, meth, c, rfl, hx, hZ, hby, hml, hown, hnm, hret, hlk⟩ := C
  intro T L X N hH
  obtain ⟨t, o, stp, P⟩ := K T L X N hH
  exact ⟨t, o, X.ldcInt hx hown (mvT hZ w) (g := mkF m pc ⟨ls⟩ st) rfl (hb hby hd) _ stp, P⟩
theorem own_Wk.ldc2 (C : own_Wk Z n0 R y bytes maxL ret l Q G) {i : Nat} {v : Int64} (hd : decode bytes pc = .ok (.ldc2_w i, 3)) (w : (Jvm.Cond.constantLong y.cls i v).before a0 Z = true) (hq : pc + 3 = q) (K : G k n H q ls (.long v :: st)) : G k n H pc ls st := by
  subst hq
  obtain ⟨p, e, s, m, args, below, meth, c, rfl, hx, hZ, hby, hml, hown, hnm, hret, hlk⟩ := C
  intro T L X N hH
  obtain ⟨t, o, stp, P⟩ := K T L X N hH
  exact ⟨t, o, X.ldc2Long hx hown (mvT hZ w) (g := mkF m pc ⟨ls⟩ st) rfl (hb hby hd) _ stp, P⟩
-- returns
theorem own_Wk.retI {z : Int32} (C : own_Wk Z n0 R y bytes maxL (some .int) l Q G) (hd : decode bytes pc = .ok (.ireturn, 1)) (hk : k ≤ R.cells) (hn : n ≤ R.slots) (hQ : Q (some (.int z)) H) : G k n H pc ls (.int z :: st) := by
  obtain ⟨p, e, s, m, args, below, meth, c, rfl, hx, hZ, hby, hml, hown, hnm, hret, hlk⟩ := C
  intro T L X N hH
  obtain ⟨fs, hr, hrun, hended, hW, hsame⟩ := X.leave (v := some (.int z)) (fun h => by rw [hret] at h; cases h) hlk
  exact ⟨_, _, retOut X hx hret rfl (Or.inl ⟨rfl, Or.inl rfl, z, rfl⟩) (hb hby hd) hr, hrun, hended, _, _, rfl, ⟨N, H, hH, hQ⟩, ⟨_, rfl⟩, hW, hsame.mono hk hn⟩
theorem own_Wk.retJ {z : Int64} (C : own_Wk Z n0 R y bytes maxL (some .long) l Q G) (hd : decode bytes pc = .ok (.lreturn, 1)) (hk : k ≤ R.cells) (hn : n ≤ R.slots) (hQ : Q (some (.long z)) H) : G k n H pc ls (.long z :: st) := by
  obtain ⟨p, e, s, m, args, below, meth, c, rfl, hx, hZ, hby, hml, hown, hnm, hret, hlk⟩ := C
  intro T L X N hH
  obtain ⟨fs, hr, hrun, hended, hW, hsame⟩ := X.leave (v := some (.long z)) (fun h => by rw [hret] at h; cases h) hlk
  exact ⟨_, _, retOut X hx hret rfl (Or.inr (Or.inl ⟨rfl, rfl, z, rfl⟩)) (hb hby hd) hr, hrun, hended, _, _, rfl, ⟨N, H, hH, hQ⟩, ⟨_, rfl⟩, hW, hsame.mono hk hn⟩
theorem own_Wk.retA {t : FieldType} {v : Value} (C : own_Wk Z n0 R y bytes maxL (some t) l Q G) (ht : t.isReference = true) (hn' : narrow t v = v) (hv : v.isRef = true) (hd : decode bytes pc = .ok (.areturn, 1)) (hk : k ≤ R.cells) (hn : n ≤ R.slots) (hQ : Q (some v) H) : G k n H pc ls (v :: st) := by
  obtain ⟨p, e, s, m, args, below, meth, c, rfl, hx, hZ, hby, hml, hown, hnm, hret, hlk⟩ := C
  intro T L X N hH
  obtain ⟨fs, hr, hrun, hended, hW, hsame⟩ := X.leave (v := some v) (fun h => by rw [hret] at h; cases h) hlk
  exact ⟨_, _, retOut X hx hret hn' (Or.inr (Or.inr (Or.inr (Or.inr ⟨rfl, ht, hv⟩)))) (hb hby hd) hr, hrun, hended, _, _, rfl, ⟨N, H, hH, hQ⟩, ⟨_, rfl⟩, hW, hsame.mono hk hn⟩
theorem own_Wk.retB {t : FieldType} {z : Int32} (C : own_Wk Z n0 R y bytes maxL (some t) l Q G) (ht : t = .boolean ∨ t = .byte ∨ t = .char ∨ t = .short) (hd : decode bytes pc = .ok (.ireturn, 1)) (hk : k ≤ R.cells) (hn : n ≤ R.slots) (hQ : Q (some (.int (nar t z))) H) : G k n H pc ls (.int z :: st) := by
  obtain ⟨p, e, s, m, args, below, meth, c, rfl, hx, hZ, hby, hml, hown, hnm, hret, hlk⟩ := C
  intro T L X N hH
  obtain ⟨fs, hr, hrun, hended, hW, hsame⟩ := X.leave (v := some (.int (nar t z))) (fun h => by rw [hret] at h; cases h) hlk
  exact ⟨_, _, retN X hx hret ht (hb hby hd) hr, hrun, hended, _, _, rfl, ⟨N, H, hH, hQ⟩, ⟨_, rfl⟩, hW, hsame.mono hk hn⟩
theorem own_Wk.retV (C : own_Wk Z n0 R y bytes maxL none l Q G) (hd : decode bytes pc = .ok (.return_, 1)) (hk : k ≤ R.cells) (hn : n ≤ R.slots) (hQ : Q none H) : G k n H pc ls [] := by
  obtain ⟨p, e, s, m, args, below, meth, c, rfl, hx, hZ, hby, hml, hown, hnm, hret, hlk⟩ := C
  intro T L X N hH
  obtain ⟨fs, hr, hrun, hended, hW, hsame⟩ := X.leave (v := none) (fun _ => rfl) hlk
  exact ⟨_, _, X.returnOut hx hret (hb hby hd) hr, hrun, hended, _, _, rfl, ⟨N, H, hH, hQ⟩, ⟨_, rfl⟩, hW, hsame.mono hk hn⟩
-- the abstract heap
theorem own_is_ext {h h' : Heap} {a : Addr} {o : own_Ob} (E : Ext h h') (F : own_is Z h a o) : own_is Z h' a o := by
  match o, F with
  | .inl q, F => obtain ⟨c, A, r⟩ := F; exact ⟨c, A.ext E, r⟩
  | .inr q, F => exact ⟨F.1.ext E, F.2.1, fun i f hf => (F.2.2 i f hf).ext E⟩
theorem own_is_ne {h h' : Heap} {a b : Addr} {sl : Nat} {v : Value} {o : own_Ob} (W : Wr h h' a sl v) (hne : b ≠ a) (F : own_is Z h b o) : own_is Z h' b o := by
  match o, F with
  | .inl q, F => obtain ⟨c, A, r⟩ := F; exact ⟨c, A.other W hne, r⟩
  | .inr q, F => exact ⟨F.1.wr W, F.2.1, fun i f hf => (F.2.2 i f hf).other W (Or.inl hne)⟩
theorem own_Hp_new {h h' : Heap} {o : own_Ob} (P : own_Hp Z n0 h H) (E : Ext h h') (hlt : h.size < h'.size) (F : own_is Z h' h.size o) : own_Hp Z n0 h' (H ++ [(h.size, o)]) := by
  obtain ⟨p1, p2, p3⟩ := P
  have key : ∀ (i : Nat) (a : Addr) (o' : own_Ob), (H ++ [(h.size, o)])[i]? = some (a, o') → (H[i]? = some (a, o') ∧ i < H.length) ∨ (i = H.length ∧ a = h.size ∧ o' = o) := by
    intro i a o' hi
    by_cases q : i < H.length
    · rw [List.getElem?_append_left q] at hi; exact Or.inl ⟨hi, q⟩
    · rw [List.getElem?_append_right (by omega)] at hi
      obtain ⟨j, hj⟩ : ∃ j, j = i - H.length := ⟨_, rfl⟩
      rw [← hj] at hi
      match j, hj, hi with
      | 0, hj, hi => exact Or.inr ⟨by omega, by simpa using (Prod.mk.inj (Option.some.inj hi)).1.symm, by simpa using (Prod.mk.inj (Option.some.inj hi)).2.symm⟩
      | j + 1, _, hi => simp at hi
  refine ⟨Nat.le_trans p1 E.1, fun i j a o1 o2 hi hj => ?_, fun i a o' hi => ?_⟩
  · rcases key i a o1 hi with ⟨h1, l1⟩ | ⟨h1, h2, -⟩ <;> rcases key j a o2 hj with ⟨g1, l2⟩ | ⟨g1, g2, -⟩
    · exact p2 i j a o1 o2 h1 g1
    · exact absurd (p3 i a o1 h1).2.1 (by rw [g2]; exact Nat.lt_irrefl _)
    · exact absurd (p3 j a o2 g1).2.1 (by rw [h2]; exact Nat.lt_irrefl _)
    · rw [h1, g1]
  · rcases key i a o' hi with ⟨h1, -⟩ | ⟨-, rfl, rfl⟩
    · obtain ⟨r1, r2, r3⟩ := p3 i a o' h1
      exact ⟨r1, Nat.lt_of_lt_of_le r2 E.1, own_is_ext E r3⟩
    · exact ⟨p1, hlt, F⟩
theorem own_Hp_set {h h' : Heap} {i : Nat} {a : Addr} {o o' : own_Ob} {sl : Nat} {v : Value} (P : own_Hp Z n0 h H) (hi : H[i]? = some (a, o)) (W : Wr h h' a sl v) (F : own_is Z h' a o') : own_Hp Z n0 h' (H.set i (a, o')) := by
  obtain ⟨p1, p2, p3⟩ := P
  have key : ∀ (j : Nat) (b : Addr) (ob : own_Ob), (H.set i (a, o'))[j]? = some (b, ob) → (j = i ∧ b = a ∧ ob = o') ∨ (j ≠ i ∧ H[j]? = some (b, ob)) := by
    intro j b ob hj
    rw [List.getElem?_set] at hj
    by_cases q : i = j
    · subst q
      rw [if_pos rfl] at hj
      split at hj
      · exact Or.inl ⟨rfl, (Prod.mk.inj (Option.some.inj hj)).1.symm, (Prod.mk.inj (Option.some.inj hj)).2.symm⟩
      · cases hj
    · rw [if_neg q] at hj; exact Or.inr ⟨fun z => q z.symm, hj⟩
  refine ⟨by rw [W.size]; exact p1, fun j j' b o1 o2 hj hj' => ?_, fun j b ob hj => ?_⟩
  · rcases key j b o1 hj with ⟨h1, h2, -⟩ | ⟨h1, h2⟩ <;> rcases key j' b o2 hj' with ⟨g1, g2, -⟩ | ⟨g1, g2⟩
    · rw [h1, g1]
    · subst h2; rw [h1]; exact p2 i j' _ o o2 hi g2
    · subst g2; rw [g1]; exact (p2 i j _ o o1 hi h2).symm
    · exact p2 j j' b o1 o2 h2 g2
  · rw [W.size]
    rcases key j b ob hj with ⟨-, rfl, rfl⟩ | ⟨h1, h2⟩
    · obtain ⟨r1, r2, -⟩ := p3 i _ _ hi; exact ⟨r1, r2, F⟩
    · obtain ⟨r1, r2, r3⟩ := p3 j b ob h2
      exact ⟨r1, r2, own_is_ne W (fun z => h1 (by subst z; exact (p2 i j _ o ob hi h2).symm)) r3⟩
-- arrays
theorem own_Wk.alen (C : own_Wk Z n0 R y bytes maxL ret l Q G) (i : Nat) {a : Addr} {ty : FieldType} {vs : List Value} {z : Int32} (hd : decode bytes pc = .ok (.arraylength, 1)) (hi : H[i]? = some (a, .inl (ty, vs))) (hz : vs.length.toInt32 = z) (hq : pc + 1 = q) (K : G k n H q ls (.int z :: st)) : G k n H pc ls (.ref a :: st) := by
  subst hq hz
  obtain ⟨p, e, s, m, args, below, meth, c, rfl, hx, hZ, hby, hml, hown, hnm, hret, hlk⟩ := C
  intro T L X N hH
  obtain ⟨-, -, cl, A, hc⟩ := hH.2.2 i _ _ hi
  obtain ⟨t, o, stp, P⟩ := K T L X N hH
  have hc' : cl.slots.toList = vs := hc
  refine ⟨t, o, X.arraylength hx (cell := cl) A.1 (State.isArrayOf_alike hZ.alike A.2.1) (g := mkF m pc ⟨ls⟩ (.ref a :: st)) rfl rfl (hb hby hd) _ ?_, P⟩
  rw [show cl.slots.size = vs.length by rw [← hc', Array.length_toList]]
  exact stp
theorem own_at {cl : Cell} {vs : List Value} {j : Int32} {v : Value} (hc : cl.slots.toList = vs) (h0 : ¬ j < 0) (hv : vs[j.toNatClampNeg]? = some v) : ¬ (j < 0 ∨ cl.slots.size ≤ j.toNatClampNeg) ∧ cl.slots[j.toNatClampNeg]? = some v := by
  rw [← hc, Array.getElem?_toList] at hv
  exact ⟨fun z => z.elim h0 fun z => by have := (Array.getElem?_eq_some_iff.mp hv).1; omega, hv⟩
theorem own_in {cl : Cell} {vs : List Value} {j : Int32} (hc : cl.slots.toList = vs) (h0 : ¬ j < 0) (hj : j.toNatClampNeg < vs.length) : ¬ (j < 0 ∨ cl.slots.size ≤ j.toNatClampNeg) :=
  fun z => z.elim h0 fun z => by rw [← hc, Array.length_toList] at hj; omega
theorem own_Wk.iaload (C : own_Wk Z n0 R y bytes maxL ret l Q G) (i : Nat) {a : Addr} {vs : List Value} {j : Int32} {v : Value} (hd : decode bytes pc = .ok (.iaload, 1)) (hi : H[i]? = some (a, .inl (.int, vs))) (h0 : ¬ j < 0) (hv : vs[j.toNatClampNeg]? = some v) (hq : pc + 1 = q) (K : G k n H q ls (v :: st)) : G k n H pc ls (.int j :: .ref a :: st) := by
  subst hq
  obtain ⟨p, e, s, m, args, below, meth, c, rfl, hx, hZ, hby, hml, hown, hnm, hret, hlk⟩ := C
  intro T L X N hH
  obtain ⟨-, -, cl, A, hc⟩ := hH.2.2 i _ _ hi
  obtain ⟨t, o, stp, P⟩ := K T L X N hH
  have q2 := own_at hc h0 hv
  exact ⟨t, o, X.iaload hx (j := j) (v := v) A.1 (State.isArrayOf_alike hZ.alike A.2.1) A.2.2 q2.1 q2.2 (g := mkF m pc ⟨ls⟩ (.int j :: .ref a :: st)) rfl rfl (hb hby hd) _ stp, P⟩
theorem own_Wk.laload (C : own_Wk Z n0 R y bytes maxL ret l Q G) (i : Nat) {a : Addr} {vs : List Value} {j : Int32} {v : Value} (hd : decode bytes pc = .ok (.laload, 1)) (hi : H[i]? = some (a, .inl (.long, vs))) (h0 : ¬ j < 0) (hv : vs[j.toNatClampNeg]? = some v) (hq : pc + 1 = q) (K : G k n H q ls (v :: st)) : G k n H pc ls (.int j :: .ref a :: st) := by
  subst hq
  obtain ⟨p, e, s, m, args, below, meth, c, rfl, hx, hZ, hby, hml, hown, hnm, hret, hlk⟩ := C
  intro T L X N hH
  obtain ⟨-, -, cl, A, hc⟩ := hH.2.2 i _ _ hi
  obtain ⟨t, o, stp, P⟩ := K T L X N hH
  have q2 := own_at hc h0 hv
  exact ⟨t, o, X.laload hx (j := j) (v := v) A.1 (State.isArrayOf_alike hZ.alike A.2.1) A.2.2 q2.1 q2.2 (g := mkF m pc ⟨ls⟩ (.int j :: .ref a :: st)) rfl rfl (hb hby hd) _ stp, P⟩
theorem own_Wk.baload (C : own_Wk Z n0 R y bytes maxL ret l Q G) (i : Nat) {a : Addr} {vs : List Value} {j : Int32} {v : Value} (hd : decode bytes pc = .ok (.baload, 1)) (hi : H[i]? = some (a, .inl (.byte, vs))) (h0 : ¬ j < 0) (hv : vs[j.toNatClampNeg]? = some v) (hq : pc + 1 = q) (K : G k n H q ls (v :: st)) : G k n H pc ls (.int j :: .ref a :: st) := by
  subst hq
  obtain ⟨p, e, s, m, args, below, meth, c, rfl, hx, hZ, hby, hml, hown, hnm, hret, hlk⟩ := C
  intro T L X N hH
  obtain ⟨-, -, cl, A, hc⟩ := hH.2.2 i _ _ hi
  obtain ⟨t, o, stp, P⟩ := K T L X N hH
  have q2 := own_at hc h0 hv
  exact ⟨t, o, X.baloadBytes hx (j := j) (v := v) A.1 (State.isArrayOf_alike hZ.alike A.2.1) A.2.2 q2.1 q2.2 (g := mkF m pc ⟨ls⟩ (.int j :: .ref a :: st)) rfl rfl (hb hby hd) _ stp, P⟩
theorem own_arr_set {h h' : Heap} {a : Addr} {cl : Cell} {ty : FieldType} {vs : List Value} {j : Nat} {v : Value} (A : Arr Z h a cl ty) (hc : cl.slots.toList = vs) (W : Wr h h' a j v) : own_is Z h' a (.inl (ty, vs.set j v)) := by
  refine ⟨cl.setSlot j v, A.same W, ?_⟩
  show (cl.slots.setIfInBounds j v).toList = vs.set j v
  rw [Array.toList_setIfInBounds, hc]
theorem own_Wk.iastore (C : own_Wk Z n0 R y bytes maxL ret l Q G) (i : Nat) {a : Addr} {vs : List Value} {j x : Int32} {H' : own_Hs} (hd : decode bytes pc = .ok (.iastore, 1)) (hi : H[i]? = some (a, .inl (.int, vs))) (h0 : ¬ j < 0) (hj : j.toNatClampNeg < vs.length) (hH' : H.set i (a, .inl (.int, vs.set j.toNatClampNeg (.int x))) = H') (hq : pc + 1 = q) (K : G k n H' q ls st) : G k n H pc ls (.int x :: .int j :: .ref a :: st) := by
  subst hq hH'
  obtain ⟨p, e, s, m, args, below, meth, c, rfl, hx, hZ, hby, hml, hown, hnm, hret, hlk⟩ := C
  intro T L X N hH
  obtain ⟨g1, -, cl, A, hc⟩ := hH.2.2 i _ _ hi
  obtain ⟨T', h', X', e', W, stp⟩ := stI X hx hZ rfl A (own_in hc h0 hj) (g := mkF m pc ⟨ls⟩ (.int x :: .int j :: .ref a :: st)) rfl rfl (hb hby hd)
  obtain ⟨t, o, st2, P⟩ := K T' _ X' (Fr.snoc X' N g1) (by rw [e']; exact own_Hp_set hH hi W (own_arr_set A hc W))
  exact ⟨t, o, stp _ st2, P⟩
theorem own_Wk.lastore (C : own_Wk Z n0 R y bytes maxL ret l Q G) (i : Nat) {a : Addr} {vs : List Value} {j : Int32} {x : Int64} {H' : own_Hs} (hd : decode bytes pc = .ok (.lastore, 1)) (hi : H[i]? = some (a, .inl (.long, vs))) (h0 : ¬ j < 0) (hj : j.toNatClampNeg < vs.length) (hH' : H.set i (a, .inl (.long, vs.set j.toNatClampNeg (.long x))) = H') (hq : pc + 1 = q) (K : G k n H' q ls st) : G k n H pc ls (.long x :: .int j :: .ref a :: st) := by
  subst hq hH'
  obtain ⟨p, e, s, m, args, below, meth, c, rfl, hx, hZ, hby, hml, hown, hnm, hret, hlk⟩ := C
  intro T L X N hH
  obtain ⟨g1, -, cl, A, hc⟩ := hH.2.2 i _ _ hi
  obtain ⟨T', h', X', e', W, stp⟩ := stJ X hx hZ rfl A (own_in hc h0 hj) (g := mkF m pc ⟨ls⟩ (.long x :: .int j :: .ref a :: st)) rfl rfl (hb hby hd)
  obtain ⟨t, o, st2, P⟩ := K T' _ X' (Fr.snoc X' N g1) (by rw [e']; exact own_Hp_set hH hi W (own_arr_set A hc W))
  exact ⟨t, o, stp _ st2, P⟩
theorem own_Wk.bastore (C : own_Wk Z n0 R y bytes maxL ret l Q G) (i : Nat) {a : Addr} {vs : List Value} {j x : Int32} {H' : own_Hs} (hd : decode bytes pc = .ok (.bastore, 1)) (hi : H[i]? = some (a, .inl (.byte, vs))) (h0 : ¬ j < 0) (hj : j.toNatClampNeg < vs.length) (hH' : H.set i (a, .inl (.byte, vs.set j.toNatClampNeg (.int (nar .byte x)))) = H') (hq : pc + 1 = q) (K : G k n H' q ls st) : G k n H pc ls (.int x :: .int j :: .ref a :: st) := by
  subst hq hH'
  obtain ⟨p, e, s, m, args, below, meth, c, rfl, hx, hZ, hby, hml, hown, hnm, hret, hlk⟩ := C
  intro T L X N hH
  obtain ⟨g1, -, cl, A, hc⟩ := hH.2.2 i _ _ hi
  obtain ⟨T', h', X', e', W, stp⟩ := stB X hx hZ rfl A (own_in hc h0 hj) (g := mkF m pc ⟨ls⟩ (.int x :: .int j :: .ref a :: st)) rfl rfl (hb hby hd)
  obtain ⟨t, o, st2, P⟩ := K T' _ X' (Fr.snoc X' N g1) (by rw [e']; exact own_Hp_set hH hi W (own_arr_set A hc W))
  exact ⟨t, o, stp _ st2, P⟩
theorem own_Wk.newarr (C : own_Wk Z n0 R y bytes maxL ret l Q G) (cap : Nat) {aty : ArrayType} {z : Int32} {ty : FieldType} {vs : List Value} {k' n' : Nat} (hd : decode bytes pc = .ok (.newarray aty, 2)) (w : (Jvm.Cond.arrayClass (newarray.typeOf aty)).before a0 Z = true) (hz : ¬ z < 0) (hcap : z.toNatClampNeg ≤ cap) (hb8 : cap * 8 ≤ 536870912) (hc : k + 1 ≤ R.cells) (hl : n + cap ≤ R.slots)
    (hty : newarray.typeOf aty = ty) (hvs : List.replicate z.toNatClampNeg (defaultValue ty) = vs) (hk' : k + 1 = k') (hn' : n + cap = n') (hq : pc + 2 = q) (K : ∀ a, G k' n' (H ++ [(a, .inl (ty, vs))]) q ls (.ref a :: st)) : G k n H pc ls (.int z :: st) := by
  subst hq hvs hty hk' hn'
  obtain ⟨p, e, s, m, args, below, meth, c, rfl, hx, hZ, hby, hml, hown, hnm, hret, hlk⟩ := C
  intro T L X N hH
  obtain ⟨T', h', cA, X', e', E, A, stp⟩ := newP X hx hZ w rfl (g := mkF m pc ⟨ls⟩ (.int z :: st)) rfl (hb hby hd) rfl hz hcap hb8 hc hl
  obtain ⟨t, o, st2, P⟩ := K T.heap.size T' _ X' N (by
    rw [e']
    refine own_Hp_new hH E A.lt ⟨_, A, ?_⟩
    show (newA cA (newarray.typeOf aty) z).slots.toList = _
    simp only [newA, Array.toList_replicate])
  exact ⟨t, o, stp _ st2, P⟩
-- objects
def own_Laid (Z : State) (a0 : Array Value) (Cn : String) : List (String × String × FieldType) → Prop
  | [] => True
  | d :: r => (Laid Z a0 Cn Cn d.1 d.2.1 ∧ parseFieldDescriptor d.2.1 = some d.2.2) ∧ own_Laid Z a0 Cn r
theorem own_Laid.at {Cn : String} : ∀ {ds : List (String × String × FieldType)} {i : Nat} {d : String × String × FieldType}, own_Laid Z a0 Cn ds → ds[i]? = some d → Laid Z a0 Cn Cn d.1 d.2.1 ∧ parseFieldDescriptor d.2.1 = some d.2.2
  | [], _, _, _, h => by simp at h
  | d0 :: r, 0, d, L, h => by cases Option.some.inj h; exact L.1
  | d0 :: r, i + 1, d, L, h => own_Laid.at L.2 (by simpa using h)
def own_diff : List String → Bool
  | [] => true
  | x :: r => (r.all fun z => z != x) && own_diff r
theorem own_diff.inj : ∀ {xs : List String} {i j : Nat} {s : String}, own_diff xs = true → xs[i]? = some s → xs[j]? = some s → i = j
  | [], _, _, _, _, h, _ => by simp at h
  | x :: r, 0, 0, _, _, _, _ => rfl
  | x :: r, 0, j + 1, s, D, h, g => by
    simp only [own_diff, Bool.and_eq_true, List.all_eq_true, bne_iff_ne] at D
    cases Option.some.inj h
    exact absurd rfl (D.1 _ (List.mem_of_getElem? (by simpa using g)))
  | x :: r, i + 1, 0, s, D, h, g => by
    simp only [own_diff, Bool.and_eq_true, List.all_eq_true, bne_iff_ne] at D
    cases Option.some.inj g
    exact absurd rfl (D.1 _ (List.mem_of_getElem? (by simpa using h)))
  | x :: r, i + 1, j + 1, s, D, h, g => by
    simp only [own_diff, Bool.and_eq_true] at D
    exact congrArg (· + 1) (own_diff.inj (s := s) D.2 (by simpa using h) (by simpa using g))
theorem own_Wk.newobj (C : own_Wk Z n0 R y bytes maxL ret l Q G) (ds : List (String × String × FieldType)) {Cn : String} {ix nn k' n' : Nat} {fs : List (String × String × Value)} (hd : decode bytes pc = .ok (.new ix, 3)) (w1 : (Jvm.Cond.classLink y.cls ix Cn).before a0 Z = true) (w2 : (Jvm.Cond.instantiable Cn nn).before a0 Z = true) (w3 : (Jvm.Cond.initialized Cn).before a0 Z = true)
    (hL : own_Laid Z a0 Cn ds) (hdf : own_diff (ds.map fun d => d.1) = true) (hc : k + 1 ≤ R.cells) (hl : n + nn ≤ R.slots) (hfs : ds.map (fun d => (d.1, d.2.1, defaultValue d.2.2)) = fs) (hk' : k + 1 = k') (hn' : n + nn = n') (hq : pc + 3 = q)
    (K : ∀ a, G k' n' (H ++ [(a, .inr (Cn, fs))]) q ls (.ref a :: st)) : G k n H pc ls st := by
  subst hq hfs hk' hn'
  obtain ⟨p, e, s, m, args, below, meth, c, rfl, hx, hZ, hby, hml, hown, hnm, hret, hlk⟩ := C
  intro T L X N hH
  obtain ⟨T', h', X', e', E, A, D, -, stp⟩ := newO X hx hZ hown w1 w2 w3 rfl (g := mkF m pc ⟨ls⟩ st) rfl (hb hby hd) hc hl
  have at_ : ∀ (i : Nat) (f : String × String × Value), (ds.map (fun d => (d.1, d.2.1, defaultValue d.2.2)))[i]? = some f → ∃ d : String × String × FieldType, ds[i]? = some d ∧ f = (d.1, d.2.1, defaultValue d.2.2) := by
    intro i f hf
    rw [List.getElem?_map] at hf
    obtain ⟨d, h1, h2⟩ := Option.map_eq_some_iff.mp hf
    exact ⟨d, h1, h2.symm⟩
  obtain ⟨t, o, st2, P⟩ := K T.heap.size T' _ X' N (by
    rw [e']
    refine own_Hp_new hH E A.lt ⟨A, fun i j f g hf hg hs => ?_, fun i f hf => ?_⟩
    · obtain ⟨d, h1, rfl⟩ := at_ i f hf
      obtain ⟨d', h1', rfl⟩ := at_ j g hg
      by_cases hn : d.1 = d'.1
      · exact own_diff.inj hdf (s := d.1) (by rw [List.getElem?_map, h1]; rfl) (by rw [List.getElem?_map, h1', hn]; rfl)
      · exact absurd hs (slot_ne (hL.at h1).1 (hL.at h1').1 hn (hL.at h1).2 (hL.at h1').2)
    · obtain ⟨d, h1, rfl⟩ := at_ i f hf
      exact D (hL.at h1).1 (hL.at h1).2)
  exact ⟨t, o, stp _ st2, P⟩
theorem own_Wk.getf (C : own_Wk Z n0 R y bytes maxL ret l Q G) (i j : Nat) {ix : Nat} {Cn nm ds : String} {a : Addr} {fs : List (String × String × Value)} {v : Value} (hd : decode bytes pc = .ok (.getfield ix, 3)) (w : (Jvm.Cond.fieldLink y.cls ix Cn nm ds).before a0 Z = true)
    (hi : H[i]? = some (a, .inr (Cn, fs))) (hj : fs[j]? = some (nm, ds, v)) (hq : pc + 3 = q) (K : G k n H q ls (v :: st)) : G k n H pc ls (.ref a :: st) := by
  subst hq
  obtain ⟨p, e, s, m, args, below, meth, c, rfl, hx, hZ, hby, hml, hown, hnm, hret, hlk⟩ := C
  intro T L X N hH
  obtain ⟨-, -, hE, hS, hF⟩ := hH.2.2 i _ _ hi
  obtain ⟨T', X', e', stp⟩ := getF X hx hZ hown (host := "") (Or.inl w) Via.refl rfl (hF j _ hj) (g := mkF m pc ⟨ls⟩ (.ref a :: st)) rfl rfl (hb hby hd)
  obtain ⟨t, o, st2, P⟩ := K T' _ X' N (by rw [e']; exact hH)
  exact ⟨t, o, stp _ st2, P⟩
theorem own_Wk.putf (C : own_Wk Z n0 R y bytes maxL ret l Q G) (i j : Nat) {ix kk : Nat} {Cn nm ds : String} {a : Addr} {fs : List (String × String × Value)} {v old : Value} {ty : FieldType} {H' : own_Hs} (hd : decode bytes pc = .ok (.putfield ix, 3)) (w : (Jvm.Cond.fieldLink y.cls ix Cn nm ds).before a0 Z = true)
    (hL : (Jvm.Cond.lays Cn Cn nm ds).before a0 Z = true ∨ ((Jvm.Cond.laysFinal Cn Cn nm ds).before a0 Z = true ∧ y.cls = Cn ∧ y.name = "<init>")) (wi : (Jvm.Cond.instantiable Cn kk).before a0 Z = true)
    (hi : H[i]? = some (a, .inr (Cn, fs))) (hj : fs[j]? = some (nm, ds, old)) (hty : parseFieldDescriptor ds = some ty) (hn' : narrow ty v = v) (hf : fits ty v = true) (hH' : H.set i (a, .inr (Cn, fs.set j (nm, ds, v))) = H') (hq : pc + 3 = q) (K : G k n H' q ls st) : G k n H pc ls (v :: .ref a :: st) := by
  subst hq hH'
  obtain ⟨p, e, s, m, args, below, meth, c, rfl, hx, hZ, hby, hml, hown, hnm, hret, hlk⟩ := C
  intro T L X N hH
  obtain ⟨g1, -, hE, hS, hF⟩ := hH.2.2 i _ _ hi
  obtain ⟨T', h', X', e', W, stp⟩ := putF X hx hZ hown (host := "") (Or.inl w) Via.refl rfl (hF j _ hj) hE (hL.imp id fun z => ⟨z.1, z.2.1, hnm.trans z.2.2⟩) wi hty hn' hf (g := mkF m pc ⟨ls⟩ (v :: .ref a :: st)) rfl rfl (hb hby hd)
  have key : ∀ (i' : Nat) (f : String × String × Value), (fs.set j (nm, ds, v))[i']? = some f → (i' = j ∧ f = (nm, ds, v)) ∨ (i' ≠ j ∧ fs[i']? = some f) := by
    intro i' f hf'
    rw [List.getElem?_set] at hf'
    by_cases q : j = i'
    · subst q
      rw [if_pos rfl] at hf'
      split at hf'
      · exact Or.inl ⟨rfl, (Option.some.inj hf').symm⟩
      · cases hf'
    · rw [if_neg q] at hf'; exact Or.inr ⟨fun z => q z.symm, hf'⟩
  obtain ⟨t, o, st2, P⟩ := K T' _ X' (Fr.snoc X' N g1) (by
    rw [e']
    refine own_Hp_set hH hi W ⟨hE.wr W, fun i1 j1 f g h1 h2 hs => ?_, fun i1 f h1 => ?_⟩
    · rcases key i1 f h1 with ⟨z1, rfl⟩ | ⟨z1, z2⟩ <;> rcases key j1 g h2 with ⟨y1, rfl⟩ | ⟨y1, y2⟩
      · rw [z1, y1]
      · rw [z1]; exact hS j j1 (nm, ds, old) g hj y2 hs
      · rw [y1]; exact hS i1 j f (nm, ds, old) z2 hj hs
      · exact hS i1 j1 f g z2 y2 hs
    · rcases key i1 f h1 with ⟨z1, rfl⟩ | ⟨z1, z2⟩
      · exact (hF j _ hj).same W
      · exact (hF i1 f z2).other W (Or.inr fun z => z1 (hS i1 j f (nm, ds, old) z2 hj z)))
  exact ⟨t, o, stp _ st2, P⟩
theorem own_Wk.initO (C : own_Wk Z n0 R y bytes maxL ret l Q G) (W : Nat) {ix : Nat} {a : Addr} (hd : decode bytes pc = .ok (.invokespecial ix, 3)) (w1 : (Jvm.Cond.methodLink y.cls ix Lib.objectInit).before a0 Z = true) (w2 : (Jvm.Cond.instanceMethod Lib.objectInit).before a0 Z = true) (w3 : (Jvm.Cond.code Lib.objectInit ⟨#[0xb1]⟩ 1 none).before a0 Z = true)
    (hls : ls.length = maxL) (hf : 1 ≤ R.frames) (hW : (st.map fun v => v.category).sum ≤ W) (hl : W + 12 ≤ R.locals) (hq : pc + 3 = q) (K : G k n H q ls st) : G k n H pc ls (.ref a :: st) := by
  subst hq
  obtain ⟨p, e, s, m, args, below, meth, c, rfl, hx, hZ, hby, hml, hown, hnm, hret, hlk⟩ := C
  intro T L X N hH
  obtain ⟨T', X', e', stp⟩ := RoadKit.initO X hx hZ hown w1 w2 w3 rfl (g := mkF m pc ⟨ls⟩ (.ref a :: st)) rfl (by rw [hml]; exact hls) rfl (hb hby hd) hf (W := W) (by show 2 * 0 + _ ≤ _; rw [Nat.mul_zero, Nat.zero_add]; exact hW) hl
  obtain ⟨t, o, st2, P⟩ := K T' _ X' N (by rw [e']; exact hH)
  exact ⟨t, o, stp _ st2, P⟩
-- calls
theorem own_Wk.callS (C : own_Wk Z n0 R y bytes maxL ret l Q G) (W : Nat) (argsL rest : List Value) {ix : Nat} {y' : MethodName} {bytes' : ByteArray} {maxL' : Nat} {ret' r : Option FieldType} {ps : List FieldType} {rm : Room} {Q' : Option Value → own_Hs → Prop}
    (hd : decode bytes pc = .ok (.invokestatic ix, 3)) (w1 : (Jvm.Cond.methodLink y.cls ix y').before a0 Z = true) (w2 : (Jvm.Cond.static y').before a0 Z = true) (w3 : (Jvm.Cond.initialized y'.cls).before a0 Z = true) (w4 : (Jvm.Cond.code y' bytes' maxL' ret').before a0 Z = true)
    (hM : own_Con l Z n0 y' bytes' maxL' ret' [] rm argsL.toArray H Q') (hy : y'.cls ≠ "java/lang/invoke/MethodHandle" ∧ y'.cls ≠ "java/lang/invoke/VarHandle") (hfr : rm.frames + 1 ≤ R.frames) (hlo : W + (maxL' + 11) + rm.locals ≤ R.locals) (hds : parseMethodDescriptor y'.desc = some ⟨ps, r⟩) (hln : argsL.length = ps.length)
    (hls : ls.length = maxL) (hst : st = argsL.reverse ++ rest) (hW : (rest.map fun v => v.category).sum ≤ W) (hc : k + rm.cells ≤ R.cells) (hs : n + rm.slots ≤ R.slots) (hq : pc + 3 = q) (K : ∀ v H', Q' v H' → G (k + rm.cells) (n + rm.slots) H' q ls (v.toList ++ rest)) : G k n H pc ls st := by
  subst hq
  obtain ⟨p, e, s, m, args, below, meth, c, rfl, hx, hZ, hby, hml, hown, hnm, hret, hlk⟩ := C
  intro T L X N hH
  obtain ⟨v, vm₁, ⟨T', L', k', n'⟩, -, X', ⟨Lc, hQ, l', c', s'⟩, stp⟩ := Jvm.LawKit.callS X hx (y := y') hown (mvT hZ w1) (mvT hZ w2) (mvT hZ w3) (mvT hZ w4) hy
    (backOf (W := W) (Q := fun v h L => Fr n0 L ∧ ∃ H', own_Hp Z n0 h H' ∧ Q' v H') (hM T.heap hH) hZ w4 w3 hfr hlo) (g := mkF m pc ⟨ls⟩ st) rfl (by rw [hml]; exact hls) (argsL := argsL) (rest := rest) (lenOf hds hln) hst (by show 2 * 0 + _ ≤ _; rw [Nat.mul_zero, Nat.zero_add]; exact hW) (hb hby hd) (fun _ _ => ⟨rfl, rfl, hc, hs⟩)
  dsimp only [Pt.U, Pt.locs, Pt.cells, Pt.slots] at X' l' c' s' stp hQ
  subst l' c' s'
  obtain ⟨N', H', hH', hQ'⟩ := hQ
  obtain ⟨t, o, st2, P⟩ := K v H' hQ' T' _ X' (Fr.app N N') hH'
  exact ⟨t, o, stp _ st2, P⟩
theorem own_Wk.callI (C : own_Wk Z n0 R y bytes maxL ret l Q G) (W : Nat) (a : Addr) (argsL rest : List Value) {ix : Nat} {y' : MethodName} {bytes' : ByteArray} {maxL' : Nat} {r : Option FieldType} {ps : List FieldType} {rm : Room} {Q' : Option Value → own_Hs → Prop}
    (hd : decode bytes pc = .ok (.invokespecial ix, 3)) (w1 : (Jvm.Cond.methodLink y.cls ix y').before a0 Z = true) (w2 : (Jvm.Cond.instanceMethod y').before a0 Z = true) (w3 : (Jvm.Cond.initialized y'.cls).before a0 Z = true) (w4 : (Jvm.Cond.code y' bytes' maxL' none).before a0 Z = true)
    (hM : own_Con l Z n0 y' bytes' maxL' none [] rm (.ref a :: argsL).toArray H Q') (hnm' : y'.name = "<init>") (hy : y'.cls ≠ "java/lang/invoke/MethodHandle" ∧ y'.cls ≠ "java/lang/invoke/VarHandle") (hfr : rm.frames + 1 ≤ R.frames) (hlo : W + (maxL' + 11) + rm.locals ≤ R.locals) (hds : parseMethodDescriptor y'.desc = some ⟨ps, r⟩) (hln : argsL.length = ps.length)
    (hls : ls.length = maxL) (hst : st = argsL.reverse ++ .ref a :: rest) (hW : (rest.map fun v => v.category).sum ≤ W) (hc : k + rm.cells ≤ R.cells) (hs : n + rm.slots ≤ R.slots) (hq : pc + 3 = q) (K : ∀ v H', Q' v H' → G (k + rm.cells) (n + rm.slots) H' q ls (v.toList ++ rest)) : G k n H pc ls st := by
  subst hq
  obtain ⟨p, e, s, m, args, below, meth, c, rfl, hx, hZ, hby, hml, hown, hnm, hret, hlk⟩ := C
  intro T L X N hH
  obtain ⟨v, vm₁, ⟨T', L', k', n'⟩, -, X', ⟨Lc, hQ, l', c', s'⟩, stp⟩ := X.specialBack hx (y := y') hnm' hown (mvT hZ w1) (mvT hZ w2) (mvT hZ w4) hy
    (backOf (W := W) (Q := fun v h L => Fr n0 L ∧ ∃ H', own_Hp Z n0 h H' ∧ Q' v H') (hM T.heap hH) hZ w4 w3 hfr hlo) (g := mkF m pc ⟨ls⟩ st) rfl (by rw [hml]; exact hls) (Steps.refl _) (a := a) (argsL := argsL) (rest := rest) (lenOf hds hln) hst (by show 2 * 0 + _ ≤ _; rw [Nat.mul_zero, Nat.zero_add]; exact hW) (hb hby hd) (fun _ _ => ⟨rfl, rfl, hc, hs⟩)
  dsimp only [Pt.U, Pt.locs, Pt.cells, Pt.slots] at X' l' c' s' stp hQ
  subst l' c' s'
  obtain ⟨N', H', hH', hQ'⟩ := hQ
  obtain ⟨t, o, st2, P⟩ := K v H' hQ' T' _ X' (Fr.app N N') hH'
  exact ⟨t, o, stp.trans st2, P⟩
theorem own_Wk.callV (C : own_Wk Z n0 R y bytes maxL ret l Q G) (W i : Nat) (argsL rest : List Value) {a : Addr} {ix : Nat} {y' : MethodName} {bytes' : ByteArray} {maxL' : Nat} {ret' r : Option FieldType} {ps : List FieldType} {fs : List (String × String × Value)} {rm : Room} {Q' : Option Value → own_Hs → Prop}
    (hd : decode bytes pc = .ok (.invokevirtual ix, 3)) (w1 : (Jvm.Cond.methodLink y.cls ix y').before a0 Z = true) (w2 : (Jvm.Cond.declares y').before a0 Z = true) (w5 : (Jvm.Cond.instanceMethod y').before a0 Z = true) (w6 : (Jvm.Cond.selects y'.cls y' y').before a0 Z = true) (w3 : (Jvm.Cond.initialized y'.cls).before a0 Z = true) (w4 : (Jvm.Cond.code y' bytes' maxL' ret').before a0 Z = true)
    (hM : own_Con l Z n0 y' bytes' maxL' ret' [] rm (.ref a :: argsL).toArray H Q') (hy : y'.cls ≠ "java/lang/invoke/MethodHandle" ∧ y'.cls ≠ "java/lang/invoke/VarHandle") (hfr : rm.frames + 1 ≤ R.frames) (hlo : W + (maxL' + 11) + rm.locals ≤ R.locals) (hds : parseMethodDescriptor y'.desc = some ⟨ps, r⟩) (hln : argsL.length = ps.length)
    (hi : H[i]? = some (a, .inr (y'.cls, fs))) (hls : ls.length = maxL) (hst : st = argsL.reverse ++ .ref a :: rest) (hW : (rest.map fun v => v.category).sum ≤ W) (hc : k + rm.cells ≤ R.cells) (hs : n + rm.slots ≤ R.slots) (hq : pc + 3 = q) (K : ∀ v H', Q' v H' → G (k + rm.cells) (n + rm.slots) H' q ls (v.toList ++ rest)) : G k n H pc ls st := by
  subst hq
  obtain ⟨p, e, s, m, args, below, meth, c, rfl, hx, hZ, hby, hml, hown, hnm, hret, hlk⟩ := C
  intro T L X N hH
  obtain ⟨-, -, hE, -, -⟩ := hH.2.2 i _ _ hi
  obtain ⟨cB, kB, b1, -, b3⟩ := isOf hZ rfl hE
  obtain ⟨v, vm₁, ⟨T', L', k', n'⟩, -, X', ⟨Lc, hQ, l', c', s'⟩, stp⟩ := X.virtualBack hx (y := y') (z := y') hown (mvT hZ w1) (mvT hZ w2) (notFace_of_selects (args := #[]) (mvT hZ w6)) (mvT hZ w6) (mvT hZ w5) hy
    (backOf (W := W) (Q := fun v h L => Fr n0 L ∧ ∃ H', own_Hp Z n0 h H' ∧ Q' v H') (hM T.heap hH) hZ w4 w3 hfr hlo) b1 b3 (g := mkF m pc ⟨ls⟩ st) rfl (by rw [hml]; exact hls) (Steps.refl _) (argsL := argsL) (rest := rest) (lenOf hds hln) hst (by show 2 * 0 + _ ≤ _; rw [Nat.mul_zero, Nat.zero_add]; exact hW) (hb hby hd) (fun _ _ => ⟨rfl, rfl, hc, hs⟩)
  dsimp only [Pt.U, Pt.locs, Pt.cells, Pt.slots] at X' l' c' s' stp hQ
  subst l' c' s'
  obtain ⟨N', H', hH', hQ'⟩ := hQ
  obtain ⟨t, o, st2, P⟩ := K v H' hQ' T' _ X' (Fr.app N N') hH'
  exact ⟨t, o, stp.trans st2, P⟩
theorem own_Wk.callF (C : own_Wk Z n0 R y bytes maxL ret l Q G) (W i : Nat) (argsL rest : List Value) {a : Addr} {ix cnt : Nat} {xi y' : MethodName} {bytes' : ByteArray} {maxL' : Nat} {ret' r : Option FieldType} {ps : List FieldType} {fs : List (String × String × Value)} {rm : Room} {Q' : Option Value → own_Hs → Prop}
    (hd : decode bytes pc = .ok (.invokeinterface ix cnt, 5)) (w1 : (Jvm.Cond.methodLink y.cls ix xi).before a0 Z = true) (w2 : (Jvm.Cond.declares xi).before a0 Z = true) (w7 : ∀ {s : State} {args : Array Value}, Z.Warmed39 s.vm → (Jvm.Cond.interfaceMethod xi.cls xi.cls xi.name xi.desc).before args s = true) (w6 : (Jvm.Cond.selects y'.cls xi y').before a0 Z = true) (w5 : (Jvm.Cond.instanceMethod y').before a0 Z = true)
    (w8 : (Jvm.Cond.publicMethod y').before a0 Z = true) (w9 : (Jvm.Cond.unhidden y'.cls xi.name xi.desc).before a0 Z = true) (w10 : (Jvm.Cond.castable y'.cls xi.cls).before a0 Z = true) (w3 : (Jvm.Cond.initialized y'.cls).before a0 Z = true) (w4 : (Jvm.Cond.code y' bytes' maxL' ret').before a0 Z = true)
    (hM : own_Con l Z n0 y' bytes' maxL' ret' [] rm (.ref a :: argsL).toArray H Q') (hy : xi.cls ≠ "java/lang/invoke/MethodHandle" ∧ xi.cls ≠ "java/lang/invoke/VarHandle") (hfr : rm.frames + 1 ≤ R.frames) (hlo : W + (maxL' + 11) + rm.locals ≤ R.locals) (hds : parseMethodDescriptor xi.desc = some ⟨ps, r⟩) (hln : argsL.length = ps.length)
    (hi : H[i]? = some (a, .inr (y'.cls, fs))) (hls : ls.length = maxL) (hst : st = argsL.reverse ++ .ref a :: rest) (hW : (rest.map fun v => v.category).sum ≤ W) (hc : k + rm.cells ≤ R.cells) (hs : n + rm.slots ≤ R.slots) (hq : pc + 5 = q) (K : ∀ v H', Q' v H' → G (k + rm.cells) (n + rm.slots) H' q ls (v.toList ++ rest)) : G k n H pc ls st := by
  subst hq
  obtain ⟨p, e, s, m, args, below, meth, c, rfl, hx, hZ, hby, hml, hown, hnm, hret, hlk⟩ := C
  intro T L X N hH
  obtain ⟨-, -, hE, -, -⟩ := hH.2.2 i _ _ hi
  obtain ⟨cB, kB, b1, b2, b3⟩ := isOf hZ rfl hE
  obtain ⟨v, vm₁, ⟨T', L', k', n'⟩, -, X', ⟨Lc, hQ, l', c', s'⟩, stp⟩ := X.interfaceBack hx (xi := xi) (y := y') hown (mvT hZ w1) (mvT hZ w2) (w7 hZ) (mvT hZ w6) (mvT hZ w5) (mvT hZ w8) (mvT hZ w9) (mvT hZ w10) hy
    (backOf (W := W) (Q := fun v h L => Fr n0 L ∧ ∃ H', own_Hp Z n0 h H' ∧ Q' v H') (hM T.heap hH) hZ w4 w3 hfr hlo) b1 b2 b3 (g := mkF m pc ⟨ls⟩ st) rfl (by rw [hml]; exact hls) (Steps.refl _) (argsL := argsL) (rest := rest) (lenOf hds hln) hst (by show 2 * 0 + _ ≤ _; rw [Nat.mul_zero, Nat.zero_add]; exact hW) (hb hby hd) (fun _ _ => ⟨rfl, rfl, hc, hs⟩)
  dsimp only [Pt.U, Pt.locs, Pt.cells, Pt.slots] at X' l' c' s' stp hQ
  subst l' c' s'
  obtain ⟨N', H', hH', hQ'⟩ := hQ
  obtain ⟨t, o, st2, P⟩ := K v H' hQ' T' _ X' (Fr.app N N') hH'
  exact ⟨t, o, stp.trans st2, P⟩
end OwnKit
theorem own_pd0 : parseMethodDescriptor "()[J" = some ⟨[], some (.array .long)⟩ := by decide +kernel
theorem own_pd1 : parseMethodDescriptor "(J)I" = some ⟨[.long], some .int⟩ := by decide +kernel
theorem own_pd2 : parseMethodDescriptor "(J[J)I" = some ⟨[.long, (.array .long)], some .int⟩ := by decide +kernel
/-- how many of 1, 10, 100 .. (k of them) r reaches -/
def own_S : Nat → Nat → Nat
  | 0, _ => 0
  | k + 1, r => (if 1 ≤ r then 1 else 0) + own_S k (r / 10)
theorem own_S0 : ∀ k, own_S k 0 = 0
  | 0 => rfl
  | k + 1 => by rw [own_S, own_S0 k]; rfl
/-- 1, and one for each of 10, 100 .. (k of them) that v reaches -/
def own_r : Nat → Nat → Nat
  | 0, _ => 1
  | k + 1, v => own_r k v + (if 10 ^ (k + 1) ≤ v then 1 else 0)
theorem own_rS (v : Nat) : own_r 18 v = 1 + own_S 18 (v / 10) := by
  simp only [own_r, own_S, Nat.div_div_eq_div_mul]
  have h : ∀ m, 0 < m → ((1 ≤ v / m) = (m ≤ v)) := fun m hm => by rw [Nat.le_div_iff_mul_le hm, Nat.one_mul]
  simp only [Nat.reduceMul, Nat.reducePow, Nat.reduceAdd, h 10 (by decide), h 100 (by decide), h 1000 (by decide), h 10000 (by decide), h 100000 (by decide), h 1000000 (by decide), h 10000000 (by decide), h 100000000 (by decide), h 1000000000 (by decide), h 10000000000 (by decide), h 100000000000 (by decide), h 1000000000000 (by decide), h 10000000000000 (by decide), h 100000000000000 (by decide), h 1000000000000000 (by decide), h 10000000000000000 (by decide), h 100000000000000000 (by decide), h 1000000000000000000 (by decide)]
  omega
theorem own_st {v z : Int64} {n m : Int32} {k : Nat} (hv : 0 ≤ v.toInt) (hz : z.toInt = ((10 ^ (k + 1) : Nat) : Int)) (hn : n = Int32.ofNat (own_r k v.toInt.toNat)) (hm : m = (if v < z then n else (n + (1 : Int32)))) : m = Int32.ofNat (own_r (k + 1) v.toInt.toNat) := by
  rw [hm, own_r]
  by_cases h : v < z
  · rw [if_pos h, if_neg, Nat.add_zero, hn]
    rw [Int64.lt_iff_toInt_lt, hz] at h; omega
  · rw [if_neg h, if_pos, hn]
    · exact (Int32.ofNat_add _ 1).symm
    · rw [Int64.lt_iff_toInt_lt, hz] at h; omega
theorem own_ush {x : Int64} (h : 0 ≤ x.toInt) (s : UInt64) : 0 ≤ ((x.toUInt64 >>> s).toInt64).toInt := by
  have h2 : (x.toBitVec >>> (s.toBitVec % 64#64)).toNat ≤ x.toBitVec.toNat := by
    rw [BitVec.ushiftRight_eq', BitVec.toNat_ushiftRight, Nat.shiftRight_eq_div_pow]; exact Nat.div_le_self _ _
  change 0 ≤ x.toBitVec.toInt at h
  show 0 ≤ (x.toBitVec >>> (s.toBitVec % 64#64)).toInt
  have h3 := x.toBitVec.isLt
  rw [BitVec.toInt_eq_toNat_cond] at h ⊢
  split at h <;> split <;> omega
theorem own_v1 {z : Int64} (h : 1 ≤ z.toInt ∧ z.toInt ≤ 1000000000000000000) (m : Int32) : 0 ≤ ((z - (1 : Int64)) + (m &&& (1 : Int32)).toInt64).toInt := by
  have b := c_mask m 1 1 (by decide) (by decide); have e := c_i2l (m &&& 1)
  have s := c_lsub z 1; have r := rng64 (z - 1); have a := c_ladd (z - 1) (m &&& 1).toInt64; have r2 := rng64 (z - 1 + (m &&& 1).toInt64)
  simp only [Int64.reduceToInt] at s
  omega
theorem own_i19 (a : Int32) : 0 ≤ ((a &&& (2147483647 : Int32)) % (19 : Int32)).toInt ∧ ((a &&& (2147483647 : Int32)) % (19 : Int32)).toInt ≤ 18 := by
  have m := c_mask a 2147483647 31 (by decide) (by decide)
  have e := (c_irem (a &&& 2147483647) 19 19 rfl).1 (by omega)
  omega
theorem own_nn (a : Int64) : 0 ≤ (a &&& (9223372036854775807 : Int64)).toInt := by
  rw [c_maskL a 9223372036854775807 63 (by decide) (by decide)]; omega
theorem own_d10 {r : Int64} (h : 0 ≤ r.toInt) : (r / (10 : Int64)).toInt = r.toInt / 10 := (c_ldiv r 10 10 rfl (by decide)).1 h
theorem own_at19 {i : Int32} (h0 : 0 ≤ i.toInt) (h1 : i.toInt ≤ 18) : ∃ z : Int64, (1 ≤ z.toInt ∧ z.toInt ≤ 1000000000000000000) ∧ ([.long (1 : Int64), .long (10 : Int64), .long (100 : Int64), .long (1000 : Int64), .long (10000 : Int64), .long (100000 : Int64), .long (1000000 : Int64), .long (10000000 : Int64), .long (100000000 : Int64), .long (1000000000 : Int64), .long (10000000000 : Int64), .long (100000000000 : Int64), .long (1000000000000 : Int64), .long (10000000000000 : Int64), .long (100000000000000 : Int64), .long (1000000000000000 : Int64), .long (10000000000000000 : Int64), .long (100000000000000000 : Int64), .long (1000000000000000000 : Int64)] : List Value)[i.toNatClampNeg]? = some (.long z) := by
  have hc : i.toNatClampNeg = i.toInt.toNat := rfl
  rw [hc]
  obtain ⟨j, hj⟩ : ∃ j : Nat, j = i.toInt.toNat := ⟨_, rfl⟩
  rw [← hj]
  have : j < 19 := by omega
  have key : ∀ j : Fin 19, ∃ z : Int64, (1 ≤ z.toInt ∧ z.toInt ≤ 1000000000000000000) ∧ ([.long (1 : Int64), .long (10 : Int64), .long (100 : Int64), .long (1000 : Int64), .long (10000 : Int64), .long (100000 : Int64), .long (1000000 : Int64), .long (10000000 : Int64), .long (100000000 : Int64), .long (1000000000 : Int64), .long (10000000000 : Int64), .long (100000000000 : Int64), .long (1000000000000 : Int64), .long (10000000000000 : Int64), .long (100000000000000 : Int64), .long (1000000000000000 : Int64), .long (10000000000000000 : Int64), .long (100000000000000000 : Int64), .long (1000000000000000000 : Int64)] : List Value)[j.val]? = some (.long z) := by
    intro j
    match j with
    | ⟨0, _⟩ => exact ⟨1, by decide, rfl⟩
    | ⟨1, _⟩ => exact ⟨10, by decide, rfl⟩
    | ⟨2, _⟩ => exact ⟨100, by decide, rfl⟩
    | ⟨3, _⟩ => exact ⟨1000, by decide, rfl⟩
    | ⟨4, _⟩ => exact ⟨10000, by decide, rfl⟩
    | ⟨5, _⟩ => exact ⟨100000, by decide, rfl⟩
    | ⟨6, _⟩ => exact ⟨1000000, by decide, rfl⟩
    | ⟨7, _⟩ => exact ⟨10000000, by decide, rfl⟩
    | ⟨8, _⟩ => exact ⟨100000000, by decide, rfl⟩
    | ⟨9, _⟩ => exact ⟨1000000000, by decide, rfl⟩
    | ⟨10, _⟩ => exact ⟨10000000000, by decide, rfl⟩
    | ⟨11, _⟩ => exact ⟨100000000000, by decide, rfl⟩
    | ⟨12, _⟩ => exact ⟨1000000000000, by decide, rfl⟩
    | ⟨13, _⟩ => exact ⟨10000000000000, by decide, rfl⟩
    | ⟨14, _⟩ => exact ⟨100000000000000, by decide, rfl⟩
    | ⟨15, _⟩ => exact ⟨1000000000000000, by decide, rfl⟩
    | ⟨16, _⟩ => exact ⟨10000000000000000, by decide, rfl⟩
    | ⟨17, _⟩ => exact ⟨100000000000000000, by decide, rfl⟩
    | ⟨18, _⟩ => exact ⟨1000000000000000000, by decide, rfl⟩
    | ⟨n + 19, h⟩ => exact absurd h (by omega)
  exact key ⟨j, this⟩
theorem d1_0 : decode method_2_code 0 = .ok (.ldc2_w 7, 3) := by decide +kernel
theorem d1_3 : decode method_2_code 3 = .ok (.lstore_n 0, 1) := by decide +kernel
theorem d1_4 : decode method_2_code 4 = .ok (.bipush 19, 2) := by decide +kernel
theorem d1_6 : decode method_2_code 6 = .ok (.newarray .long, 2) := by decide +kernel
theorem d1_8 : decode method_2_code 8 = .ok (.dup, 1) := by decide +kernel
theorem d1_9 : decode method_2_code 9 = .ok (.iconst 0, 1) := by decide +kernel
theorem d1_10 : decode method_2_code 10 = .ok (.lconst 1, 1) := by decide +kernel
theorem d1_11 : decode method_2_code 11 = .ok (.lastore, 1) := by decide +kernel
theorem d1_12 : decode method_2_code 12 = .ok (.dup, 1) := by decide +kernel
theorem d1_13 : decode method_2_code 13 = .ok (.iconst 1, 1) := by decide +kernel
theorem d1_14 : decode method_2_code 14 = .ok (.ldc2_w 9, 3) := by decide +kernel
theorem d1_17 : decode method_2_code 17 = .ok (.lastore, 1) := by decide +kernel
theorem d1_18 : decode method_2_code 18 = .ok (.dup, 1) := by decide +kernel
theorem d1_19 : decode method_2_code 19 = .ok (.iconst 2, 1) := by decide +kernel
theorem d1_20 : decode method_2_code 20 = .ok (.ldc2_w 11, 3) := by decide +kernel
theorem d1_23 : decode method_2_code 23 = .ok (.lastore, 1) := by decide +kernel
theorem d1_24 : decode method_2_code 24 = .ok (.dup, 1) := by decide +kernel
theorem d1_25 : decode method_2_code 25 = .ok (.iconst 3, 1) := by decide +kernel
theorem d1_26 : decode method_2_code 26 = .ok (.ldc2_w 13, 3) := by decide +kernel
theorem d1_29 : decode method_2_code 29 = .ok (.lastore, 1) := by decide +kernel
theorem d1_30 : decode method_2_code 30 = .ok (.dup, 1) := by decide +kernel
theorem d1_31 : decode method_2_code 31 = .ok (.iconst 4, 1) := by decide +kernel
theorem d1_32 : decode method_2_code 32 = .ok (.ldc2_w 15, 3) := by decide +kernel
theorem d1_35 : decode method_2_code 35 = .ok (.lastore, 1) := by decide +kernel
theorem d1_36 : decode method_2_code 36 = .ok (.dup, 1) := by decide +kernel
theorem d1_37 : decode method_2_code 37 = .ok (.iconst 5, 1) := by decide +kernel
theorem d1_38 : decode method_2_code 38 = .ok (.ldc2_w 17, 3) := by decide +kernel
theorem d1_41 : decode method_2_code 41 = .ok (.lastore, 1) := by decide +kernel
theorem d1_42 : decode method_2_code 42 = .ok (.dup, 1) := by decide +kernel
theorem d1_43 : decode method_2_code 43 = .ok (.bipush 6, 2) := by decide +kernel
theorem d1_45 : decode method_2_code 45 = .ok (.ldc2_w 19, 3) := by decide +kernel
theorem d1_48 : decode method_2_code 48 = .ok (.lastore, 1) := by decide +kernel
theorem d1_49 : decode method_2_code 49 = .ok (.dup, 1) := by decide +kernel
theorem d1_50 : decode method_2_code 50 = .ok (.bipush 7, 2) := by decide +kernel
theorem d1_52 : decode method_2_code 52 = .ok (.ldc2_w 21, 3) := by decide +kernel
theorem d1_55 : decode method_2_code 55 = .ok (.lastore, 1) := by decide +kernel
theorem d1_56 : decode method_2_code 56 = .ok (.dup, 1) := by decide +kernel
theorem d1_57 : decode method_2_code 57 = .ok (.bipush 8, 2) := by decide +kernel
theorem d1_59 : decode method_2_code 59 = .ok (.ldc2_w 23, 3) := by decide +kernel
theorem d1_62 : decode method_2_code 62 = .ok (.lastore, 1) := by decide +kernel
theorem d1_63 : decode method_2_code 63 = .ok (.dup, 1) := by decide +kernel
theorem d1_64 : decode method_2_code 64 = .ok (.bipush 9, 2) := by decide +kernel
theorem d1_66 : decode method_2_code 66 = .ok (.lload_n 0, 1) := by decide +kernel
theorem d1_67 : decode method_2_code 67 = .ok (.lastore, 1) := by decide +kernel
theorem d1_68 : decode method_2_code 68 = .ok (.dup, 1) := by decide +kernel
theorem d1_69 : decode method_2_code 69 = .ok (.bipush 10, 2) := by decide +kernel
theorem d1_71 : decode method_2_code 71 = .ok (.ldc2_w 9, 3) := by decide +kernel
theorem d1_74 : decode method_2_code 74 = .ok (.lload_n 0, 1) := by decide +kernel
theorem d1_75 : decode method_2_code 75 = .ok (.lmul, 1) := by decide +kernel
theorem d1_76 : decode method_2_code 76 = .ok (.lastore, 1) := by decide +kernel
theorem d1_77 : decode method_2_code 77 = .ok (.dup, 1) := by decide +kernel
theorem d1_78 : decode method_2_code 78 = .ok (.bipush 11, 2) := by decide +kernel
theorem d1_80 : decode method_2_code 80 = .ok (.ldc2_w 11, 3) := by decide +kernel
theorem d1_83 : decode method_2_code 83 = .ok (.lload_n 0, 1) := by decide +kernel
theorem d1_84 : decode method_2_code 84 = .ok (.lmul, 1) := by decide +kernel
theorem d1_85 : decode method_2_code 85 = .ok (.lastore, 1) := by decide +kernel
theorem d1_86 : decode method_2_code 86 = .ok (.dup, 1) := by decide +kernel
theorem d1_87 : decode method_2_code 87 = .ok (.bipush 12, 2) := by decide +kernel
theorem d1_89 : decode method_2_code 89 = .ok (.ldc2_w 13, 3) := by decide +kernel
theorem d1_92 : decode method_2_code 92 = .ok (.lload_n 0, 1) := by decide +kernel
theorem d1_93 : decode method_2_code 93 = .ok (.lmul, 1) := by decide +kernel
theorem d1_94 : decode method_2_code 94 = .ok (.lastore, 1) := by decide +kernel
theorem d1_95 : decode method_2_code 95 = .ok (.dup, 1) := by decide +kernel
theorem d1_96 : decode method_2_code 96 = .ok (.bipush 13, 2) := by decide +kernel
theorem d1_98 : decode method_2_code 98 = .ok (.ldc2_w 15, 3) := by decide +kernel
theorem d1_101 : decode method_2_code 101 = .ok (.lload_n 0, 1) := by decide +kernel
theorem d1_102 : decode method_2_code 102 = .ok (.lmul, 1) := by decide +kernel
theorem d1_103 : decode method_2_code 103 = .ok (.lastore, 1) := by decide +kernel
theorem d1_104 : decode method_2_code 104 = .ok (.dup, 1) := by decide +kernel
theorem d1_105 : decode method_2_code 105 = .ok (.bipush 14, 2) := by decide +kernel
theorem d1_107 : decode method_2_code 107 = .ok (.ldc2_w 17, 3) := by decide +kernel
theorem d1_110 : decode method_2_code 110 = .ok (.lload_n 0, 1) := by decide +kernel
theorem d1_111 : decode method_2_code 111 = .ok (.lmul, 1) := by decide +kernel
theorem d1_112 : decode method_2_code 112 = .ok (.lastore, 1) := by decide +kernel
theorem d1_113 : decode method_2_code 113 = .ok (.dup, 1) := by decide +kernel
theorem d1_114 : decode method_2_code 114 = .ok (.bipush 15, 2) := by decide +kernel
theorem d1_116 : decode method_2_code 116 = .ok (.ldc2_w 19, 3) := by decide +kernel
theorem d1_119 : decode method_2_code 119 = .ok (.lload_n 0, 1) := by decide +kernel
theorem d1_120 : decode method_2_code 120 = .ok (.lmul, 1) := by decide +kernel
theorem d1_121 : decode method_2_code 121 = .ok (.lastore, 1) := by decide +kernel
theorem d1_122 : decode method_2_code 122 = .ok (.dup, 1) := by decide +kernel
theorem d1_123 : decode method_2_code 123 = .ok (.bipush 16, 2) := by decide +kernel
theorem d1_125 : decode method_2_code 125 = .ok (.ldc2_w 21, 3) := by decide +kernel
theorem d1_128 : decode method_2_code 128 = .ok (.lload_n 0, 1) := by decide +kernel
theorem d1_129 : decode method_2_code 129 = .ok (.lmul, 1) := by decide +kernel
theorem d1_130 : decode method_2_code 130 = .ok (.lastore, 1) := by decide +kernel
theorem d1_131 : decode method_2_code 131 = .ok (.dup, 1) := by decide +kernel
theorem d1_132 : decode method_2_code 132 = .ok (.bipush 17, 2) := by decide +kernel
theorem d1_134 : decode method_2_code 134 = .ok (.ldc2_w 23, 3) := by decide +kernel
theorem d1_137 : decode method_2_code 137 = .ok (.lload_n 0, 1) := by decide +kernel
theorem d1_138 : decode method_2_code 138 = .ok (.lmul, 1) := by decide +kernel
theorem d1_139 : decode method_2_code 139 = .ok (.lastore, 1) := by decide +kernel
theorem d1_140 : decode method_2_code 140 = .ok (.dup, 1) := by decide +kernel
theorem d1_141 : decode method_2_code 141 = .ok (.bipush 18, 2) := by decide +kernel
theorem d1_143 : decode method_2_code 143 = .ok (.lload_n 0, 1) := by decide +kernel
theorem d1_144 : decode method_2_code 144 = .ok (.lload_n 0, 1) := by decide +kernel
theorem d1_145 : decode method_2_code 145 = .ok (.lmul, 1) := by decide +kernel
theorem d1_146 : decode method_2_code 146 = .ok (.lastore, 1) := by decide +kernel
theorem d1_147 : decode method_2_code 147 = .ok (.astore_n 2, 1) := by decide +kernel
theorem d1_148 : decode method_2_code 148 = .ok (.aload_n 2, 1) := by decide +kernel
theorem d1_149 : decode method_2_code 149 = .ok (.areturn, 1) := by decide +kernel
theorem own_pn1 : plainFor (⟨"com/example/bowerbird/bowerbird/http/server/AsciiDigitsCountPinLaw", "powers", "()[J"⟩ : MethodName) = true := by first | exact plainFor_of_name (by first | (simp [plainName, overriddenIn]; done) | decide +kernel) | decide +kernel
set_option maxHeartbeats 4000000 in
theorem own_ef1 (m : MethodId)  : entryFrame m #[] 3 = mkF m 0 #[.unset, .unset, .unset] [] := by first | (simp [entryFrame, mkF, argsToLocals, Value.category, maxLocals]; done) | rfl
set_option maxRecDepth 65536 in
set_option maxHeartbeats 40000000 in
theorem own_c1 (l : Launch) (Z : State) (a0 : Array Value) (n0 : Nat) (hw : ∀ d ∈ tables_1, d.before a0 Z = true) (ws : List Jvm.Cond)   :
    own_Con l Z n0 (⟨"com/example/bowerbird/bowerbird/http/server/AsciiDigitsCountPinLaw", "powers", "()[J"⟩ : MethodName) method_2_code 3 (some (.array .long)) ws ({ frames := 0, cells := 1, slots := 19, locals := 0 } : Room) #[] [] (fun v H' => ∃ a, v = some (.ref a) ∧ H' = [(a, .inl (.long, [.long (1 : Int64), .long (10 : Int64), .long (100 : Int64), .long (1000 : Int64), .long (10000 : Int64), .long (100000 : Int64), .long (1000000 : Int64), .long (10000000 : Int64), .long (100000000 : Int64), .long (1000000000 : Int64), .long (10000000000 : Int64), .long (100000000000 : Int64), .long (1000000000000 : Int64), .long (10000000000000 : Int64), .long (100000000000000 : Int64), .long (1000000000000000 : Int64), .long (10000000000000000 : Int64), .long (100000000000000000 : Int64), .long (1000000000000000000 : Int64)]))]) := by
  refine own_con own_pn1 (fun m_ => own_ef1 m_ ) ?_
  intro G C
  refine C.ldc2 (q := 3) (v := (1000000000 : Int64)) d1_0 (hw _ (List.mem_of_getElem? (i := 4) rfl)) rfl ?_
  refine C.lstoreN (q := 4) (ls' := [.val (.long (1000000000 : Int64)), .second, .unset]) d1_3 rfl rfl ?_
  refine C.bipush (q := 6) (z := (19 : Int32)) d1_4 rfl rfl ?_
  refine C.newarr (q := 8) 19 (ty := .long) (vs := [.long (0 : Int64), .long (0 : Int64), .long (0 : Int64), .long (0 : Int64), .long (0 : Int64), .long (0 : Int64), .long (0 : Int64), .long (0 : Int64), .long (0 : Int64), .long (0 : Int64), .long (0 : Int64), .long (0 : Int64), .long (0 : Int64), .long (0 : Int64), .long (0 : Int64), .long (0 : Int64), .long (0 : Int64), .long (0 : Int64), .long (0 : Int64)]) (k' := 1) (n' := 19) d1_6 (hw _ (List.mem_of_getElem? (i := 5) rfl)) (by decide) (by decide) (by decide) (by decide) (by decide) rfl rfl rfl rfl rfl (fun a6 => ?_)
  show G 1 19 [(a6, .inl (.long, [.long (0 : Int64), .long (0 : Int64), .long (0 : Int64), .long (0 : Int64), .long (0 : Int64), .long (0 : Int64), .long (0 : Int64), .long (0 : Int64), .long (0 : Int64), .long (0 : Int64), .long (0 : Int64), .long (0 : Int64), .long (0 : Int64), .long (0 : Int64), .long (0 : Int64), .long (0 : Int64), .long (0 : Int64), .long (0 : Int64), .long (0 : Int64)]))] 8 [.val (.long (1000000000 : Int64)), .second, .unset] [.ref a6]
  refine C.dup (q := 9) d1_8 rfl rfl ?_
  refine C.iconst (q := 10) (z := (0 : Int32)) d1_9 rfl rfl ?_
  refine C.lconst (q := 11) (z := (1 : Int64)) d1_10 rfl rfl ?_
  refine C.lastore (q := 12) 0 (H' := [(a6, .inl (.long, [.long (1 : Int64), .long (0 : Int64), .long (0 : Int64), .long (0 : Int64), .long (0 : Int64), .long (0 : Int64), .long (0 : Int64), .long (0 : Int64), .long (0 : Int64), .long (0 : Int64), .long (0 : Int64), .long (0 : Int64), .long (0 : Int64), .long (0 : Int64), .long (0 : Int64), .long (0 : Int64), .long (0 : Int64), .long (0 : Int64), .long (0 : Int64)]))]) d1_11 rfl (by decide) (by show _ < 19; decide) rfl rfl ?_
  refine C.dup (q := 13) d1_12 rfl rfl ?_
  refine C.iconst (q := 14) (z := (1 : Int32)) d1_13 rfl rfl ?_
  refine C.ldc2 (q := 17) (v := (10 : Int64)) d1_14 (hw _ (List.mem_of_getElem? (i := 6) rfl)) rfl ?_
  refine C.lastore (q := 18) 0 (H' := [(a6, .inl (.long, [.long (1 : Int64), .long (10 : Int64), .long (0 : Int64), .long (0 : Int64), .long (0 : Int64), .long (0 : Int64), .long (0 : Int64), .long (0 : Int64), .long (0 : Int64), .long (0 : Int64), .long (0 : Int64), .long (0 : Int64), .long (0 : Int64), .long (0 : Int64), .long (0 : Int64), .long (0 : Int64), .long (0 : Int64), .long (0 : Int64), .long (0 : Int64)]))]) d1_17 rfl (by decide) (by show _ < 19; decide) rfl rfl ?_
  refine C.dup (q := 19) d1_18 rfl rfl ?_
  refine C.iconst (q := 20) (z := (2 : Int32)) d1_19 rfl rfl ?_
  refine C.ldc2 (q := 23) (v := (100 : Int64)) d1_20 (hw _ (List.mem_of_getElem? (i := 7) rfl)) rfl ?_
  refine C.lastore (q := 24) 0 (H' := [(a6, .inl (.long, [.long (1 : Int64), .long (10 : Int64), .long (100 : Int64), .long (0 : Int64), .long (0 : Int64), .long (0 : Int64), .long (0 : Int64), .long (0 : Int64), .long (0 : Int64), .long (0 : Int64), .long (0 : Int64), .long (0 : Int64), .long (0 : Int64), .long (0 : Int64), .long (0 : Int64), .long (0 : Int64), .long (0 : Int64), .long (0 : Int64), .long (0 : Int64)]))]) d1_23 rfl (by decide) (by show _ < 19; decide) rfl rfl ?_
  refine C.dup (q := 25) d1_24 rfl rfl ?_
  refine C.iconst (q := 26) (z := (3 : Int32)) d1_25 rfl rfl ?_
  refine C.ldc2 (q := 29) (v := (1000 : Int64)) d1_26 (hw _ (List.mem_of_getElem? (i := 8) rfl)) rfl ?_
  refine C.lastore (q := 30) 0 (H' := [(a6, .inl (.long, [.long (1 : Int64), .long (10 : Int64), .long (100 : Int64), .long (1000 : Int64), .long (0 : Int64), .long (0 : Int64), .long (0 : Int64), .long (0 : Int64), .long (0 : Int64), .long (0 : Int64), .long (0 : Int64), .long (0 : Int64), .long (0 : Int64), .long (0 : Int64), .long (0 : Int64), .long (0 : Int64), .long (0 : Int64), .long (0 : Int64), .long (0 : Int64)]))]) d1_29 rfl (by decide) (by show _ < 19; decide) rfl rfl ?_
  refine C.dup (q := 31) d1_30 rfl rfl ?_
  refine C.iconst (q := 32) (z := (4 : Int32)) d1_31 rfl rfl ?_
  refine C.ldc2 (q := 35) (v := (10000 : Int64)) d1_32 (hw _ (List.mem_of_getElem? (i := 9) rfl)) rfl ?_
  refine C.lastore (q := 36) 0 (H' := [(a6, .inl (.long, [.long (1 : Int64), .long (10 : Int64), .long (100 : Int64), .long (1000 : Int64), .long (10000 : Int64), .long (0 : Int64), .long (0 : Int64), .long (0 : Int64), .long (0 : Int64), .long (0 : Int64), .long (0 : Int64), .long (0 : Int64), .long (0 : Int64), .long (0 : Int64), .long (0 : Int64), .long (0 : Int64), .long (0 : Int64), .long (0 : Int64), .long (0 : Int64)]))]) d1_35 rfl (by decide) (by show _ < 19; decide) rfl rfl ?_
  refine C.dup (q := 37) d1_36 rfl rfl ?_
  refine C.iconst (q := 38) (z := (5 : Int32)) d1_37 rfl rfl ?_
  refine C.ldc2 (q := 41) (v := (100000 : Int64)) d1_38 (hw _ (List.mem_of_getElem? (i := 10) rfl)) rfl ?_
  refine C.lastore (q := 42) 0 (H' := [(a6, .inl (.long, [.long (1 : Int64), .long (10 : Int64), .long (100 : Int64), .long (1000 : Int64), .long (10000 : Int64), .long (100000 : Int64), .long (0 : Int64), .long (0 : Int64), .long (0 : Int64), .long (0 : Int64), .long (0 : Int64), .long (0 : Int64), .long (0 : Int64), .long (0 : Int64), .long (0 : Int64), .long (0 : Int64), .long (0 : Int64), .long (0 : Int64), .long (0 : Int64)]))]) d1_41 rfl (by decide) (by show _ < 19; decide) rfl rfl ?_
  refine C.dup (q := 43) d1_42 rfl rfl ?_
  refine C.bipush (q := 45) (z := (6 : Int32)) d1_43 rfl rfl ?_
  refine C.ldc2 (q := 48) (v := (1000000 : Int64)) d1_45 (hw _ (List.mem_of_getElem? (i := 11) rfl)) rfl ?_
  refine C.lastore (q := 49) 0 (H' := [(a6, .inl (.long, [.long (1 : Int64), .long (10 : Int64), .long (100 : Int64), .long (1000 : Int64), .long (10000 : Int64), .long (100000 : Int64), .long (1000000 : Int64), .long (0 : Int64), .long (0 : Int64), .long (0 : Int64), .long (0 : Int64), .long (0 : Int64), .long (0 : Int64), .long (0 : Int64), .long (0 : Int64), .long (0 : Int64), .long (0 : Int64), .long (0 : Int64), .long (0 : Int64)]))]) d1_48 rfl (by decide) (by show _ < 19; decide) rfl rfl ?_
  refine C.dup (q := 50) d1_49 rfl rfl ?_
  refine C.bipush (q := 52) (z := (7 : Int32)) d1_50 rfl rfl ?_
  refine C.ldc2 (q := 55) (v := (10000000 : Int64)) d1_52 (hw _ (List.mem_of_getElem? (i := 12) rfl)) rfl ?_
  refine C.lastore (q := 56) 0 (H' := [(a6, .inl (.long, [.long (1 : Int64), .long (10 : Int64), .long (100 : Int64), .long (1000 : Int64), .long (10000 : Int64), .long (100000 : Int64), .long (1000000 : Int64), .long (10000000 : Int64), .long (0 : Int64), .long (0 : Int64), .long (0 : Int64), .long (0 : Int64), .long (0 : Int64), .long (0 : Int64), .long (0 : Int64), .long (0 : Int64), .long (0 : Int64), .long (0 : Int64), .long (0 : Int64)]))]) d1_55 rfl (by decide) (by show _ < 19; decide) rfl rfl ?_
  refine C.dup (q := 57) d1_56 rfl rfl ?_
  refine C.bipush (q := 59) (z := (8 : Int32)) d1_57 rfl rfl ?_
  refine C.ldc2 (q := 62) (v := (100000000 : Int64)) d1_59 (hw _ (List.mem_of_getElem? (i := 13) rfl)) rfl ?_
  refine C.lastore (q := 63) 0 (H' := [(a6, .inl (.long, [.long (1 : Int64), .long (10 : Int64), .long (100 : Int64), .long (1000 : Int64), .long (10000 : Int64), .long (100000 : Int64), .long (1000000 : Int64), .long (10000000 : Int64), .long (100000000 : Int64), .long (0 : Int64), .long (0 : Int64), .long (0 : Int64), .long (0 : Int64), .long (0 : Int64), .long (0 : Int64), .long (0 : Int64), .long (0 : Int64), .long (0 : Int64), .long (0 : Int64)]))]) d1_62 rfl (by decide) (by show _ < 19; decide) rfl rfl ?_
  refine C.dup (q := 64) d1_63 rfl rfl ?_
  refine C.bipush (q := 66) (z := (9 : Int32)) d1_64 rfl rfl ?_
  refine C.lloadN (q := 67) d1_66 rfl rfl ?_
  refine C.lastore (q := 68) 0 (H' := [(a6, .inl (.long, [.long (1 : Int64), .long (10 : Int64), .long (100 : Int64), .long (1000 : Int64), .long (10000 : Int64), .long (100000 : Int64), .long (1000000 : Int64), .long (10000000 : Int64), .long (100000000 : Int64), .long (1000000000 : Int64), .long (0 : Int64), .long (0 : Int64), .long (0 : Int64), .long (0 : Int64), .long (0 : Int64), .long (0 : Int64), .long (0 : Int64), .long (0 : Int64), .long (0 : Int64)]))]) d1_67 rfl (by decide) (by show _ < 19; decide) rfl rfl ?_
  refine C.dup (q := 69) d1_68 rfl rfl ?_
  refine C.bipush (q := 71) (z := (10 : Int32)) d1_69 rfl rfl ?_
  refine C.ldc2 (q := 74) (v := (10 : Int64)) d1_71 (hw _ (List.mem_of_getElem? (i := 6) rfl)) rfl ?_
  refine C.lloadN (q := 75) d1_74 rfl rfl ?_
  refine C.lmul (q := 76) d1_75 rfl ?_
  show G 1 19 [(a6, .inl (.long, [.long (1 : Int64), .long (10 : Int64), .long (100 : Int64), .long (1000 : Int64), .long (10000 : Int64), .long (100000 : Int64), .long (1000000 : Int64), .long (10000000 : Int64), .long (100000000 : Int64), .long (1000000000 : Int64), .long (0 : Int64), .long (0 : Int64), .long (0 : Int64), .long (0 : Int64), .long (0 : Int64), .long (0 : Int64), .long (0 : Int64), .long (0 : Int64), .long (0 : Int64)]))] 76 [.val (.long (1000000000 : Int64)), .second, .unset] [.long (10000000000 : Int64), .int (10 : Int32), .ref a6, .ref a6]
  refine C.lastore (q := 77) 0 (H' := [(a6, .inl (.long, [.long (1 : Int64), .long (10 : Int64), .long (100 : Int64), .long (1000 : Int64), .long (10000 : Int64), .long (100000 : Int64), .long (1000000 : Int64), .long (10000000 : Int64), .long (100000000 : Int64), .long (1000000000 : Int64), .long (10000000000 : Int64), .long (0 : Int64), .long (0 : Int64), .long (0 : Int64), .long (0 : Int64), .long (0 : Int64), .long (0 : Int64), .long (0 : Int64), .long (0 : Int64)]))]) d1_76 rfl (by decide) (by show _ < 19; decide) rfl rfl ?_
  refine C.dup (q := 78) d1_77 rfl rfl ?_
  refine C.bipush (q := 80) (z := (11 : Int32)) d1_78 rfl rfl ?_
  refine C.ldc2 (q := 83) (v := (100 : Int64)) d1_80 (hw _ (List.mem_of_getElem? (i := 7) rfl)) rfl ?_
  refine C.lloadN (q := 84) d1_83 rfl rfl ?_
  refine C.lmul (q := 85) d1_84 rfl ?_
  show G 1 19 [(a6, .inl (.long, [.long (1 : Int64), .long (10 : Int64), .long (100 : Int64), .long (1000 : Int64), .long (10000 : Int64), .long (100000 : Int64), .long (1000000 : Int64), .long (10000000 : Int64), .long (100000000 : Int64), .long (1000000000 : Int64), .long (10000000000 : Int64), .long (0 : Int64), .long (0 : Int64), .long (0 : Int64), .long (0 : Int64), .long (0 : Int64), .long (0 : Int64), .long (0 : Int64), .long (0 : Int64)]))] 85 [.val (.long (1000000000 : Int64)), .second, .unset] [.long (100000000000 : Int64), .int (11 : Int32), .ref a6, .ref a6]
  refine C.lastore (q := 86) 0 (H' := [(a6, .inl (.long, [.long (1 : Int64), .long (10 : Int64), .long (100 : Int64), .long (1000 : Int64), .long (10000 : Int64), .long (100000 : Int64), .long (1000000 : Int64), .long (10000000 : Int64), .long (100000000 : Int64), .long (1000000000 : Int64), .long (10000000000 : Int64), .long (100000000000 : Int64), .long (0 : Int64), .long (0 : Int64), .long (0 : Int64), .long (0 : Int64), .long (0 : Int64), .long (0 : Int64), .long (0 : Int64)]))]) d1_85 rfl (by decide) (by show _ < 19; decide) rfl rfl ?_
  refine C.dup (q := 87) d1_86 rfl rfl ?_
  refine C.bipush (q := 89) (z := (12 : Int32)) d1_87 rfl rfl ?_
  refine C.ldc2 (q := 92) (v := (1000 : Int64)) d1_89 (hw _ (List.mem_of_getElem? (i := 8) rfl)) rfl ?_
  refine C.lloadN (q := 93) d1_92 rfl rfl ?_
  refine C.lmul (q := 94) d1_93 rfl ?_
  show G 1 19 [(a6, .inl (.long, [.long (1 : Int64), .long (10 : Int64), .long (100 : Int64), .long (1000 : Int64), .long (10000 : Int64), .long (100000 : Int64), .long (1000000 : Int64), .long (10000000 : Int64), .long (100000000 : Int64), .long (1000000000 : Int64), .long (10000000000 : Int64), .long (100000000000 : Int64), .long (0 : Int64), .long (0 : Int64), .long (0 : Int64), .long (0 : Int64), .long (0 : Int64), .long (0 : Int64), .long (0 : Int64)]))] 94 [.val (.long (1000000000 : Int64)), .second, .unset] [.long (1000000000000 : Int64), .int (12 : Int32), .ref a6, .ref a6]
  refine C.lastore (q := 95) 0 (H' := [(a6, .inl (.long, [.long (1 : Int64), .long (10 : Int64), .long (100 : Int64), .long (1000 : Int64), .long (10000 : Int64), .long (100000 : Int64), .long (1000000 : Int64), .long (10000000 : Int64), .long (100000000 : Int64), .long (1000000000 : Int64), .long (10000000000 : Int64), .long (100000000000 : Int64), .long (1000000000000 : Int64), .long (0 : Int64), .long (0 : Int64), .long (0 : Int64), .long (0 : Int64), .long (0 : Int64), .long (0 : Int64)]))]) d1_94 rfl (by decide) (by show _ < 19; decide) rfl rfl ?_
  refine C.dup (q := 96) d1_95 rfl rfl ?_
  refine C.bipush (q := 98) (z := (13 : Int32)) d1_96 rfl rfl ?_
  refine C.ldc2 (q := 101) (v := (10000 : Int64)) d1_98 (hw _ (List.mem_of_getElem? (i := 9) rfl)) rfl ?_
  refine C.lloadN (q := 102) d1_101 rfl rfl ?_
  refine C.lmul (q := 103) d1_102 rfl ?_
  show G 1 19 [(a6, .inl (.long, [.long (1 : Int64), .long (10 : Int64), .long (100 : Int64), .long (1000 : Int64), .long (10000 : Int64), .long (100000 : Int64), .long (1000000 : Int64), .long (10000000 : Int64), .long (100000000 : Int64), .long (1000000000 : Int64), .long (10000000000 : Int64), .long (100000000000 : Int64), .long (1000000000000 : Int64), .long (0 : Int64), .long (0 : Int64), .long (0 : Int64), .long (0 : Int64), .long (0 : Int64), .long (0 : Int64)]))] 103 [.val (.long (1000000000 : Int64)), .second, .unset] [.long (10000000000000 : Int64), .int (13 : Int32), .ref a6, .ref a6]
  refine C.lastore (q := 104) 0 (H' := [(a6, .inl (.long, [.long (1 : Int64), .long (10 : Int64), .long (100 : Int64), .long (1000 : Int64), .long (10000 : Int64), .long (100000 : Int64), .long (1000000 : Int64), .long (10000000 : Int64), .long (100000000 : Int64), .long (1000000000 : Int64), .long (10000000000 : Int64), .long (100000000000 : Int64), .long (1000000000000 : Int64), .long (10000000000000 : Int64), .long (0 : Int64), .long (0 : Int64), .long (0 : Int64), .long (0 : Int64), .long (0 : Int64)]))]) d1_103 rfl (by decide) (by show _ < 19; decide) rfl rfl ?_
  refine C.dup (q := 105) d1_104 rfl rfl ?_
  refine C.bipush (q := 107) (z := (14 : Int32)) d1_105 rfl rfl ?_
  refine C.ldc2 (q := 110) (v := (100000 : Int64)) d1_107 (hw _ (List.mem_of_getElem? (i := 10) rfl)) rfl ?_
  refine C.lloadN (q := 111) d1_110 rfl rfl ?_
  refine C.lmul (q := 112) d1_111 rfl ?_
  show G 1 19 [(a6, .inl (.long, [.long (1 : Int64), .long (10 : Int64), .long (100 : Int64), .long (1000 : Int64), .long (10000 : Int64), .long (100000 : Int64), .long (1000000 : Int64), .long (10000000 : Int64), .long (100000000 : Int64), .long (1000000000 : Int64), .long (10000000000 : Int64), .long (100000000000 : Int64), .long (1000000000000 : Int64), .long (10000000000000 : Int64), .long (0 : Int64), .long (0 : Int64), .long (0 : Int64), .long (0 : Int64), .long (0 : Int64)]))] 112 [.val (.long (1000000000 : Int64)), .second, .unset] [.long (100000000000000 : Int64), .int (14 : Int32), .ref a6, .ref a6]
  refine C.lastore (q := 113) 0 (H' := [(a6, .inl (.long, [.long (1 : Int64), .long (10 : Int64), .long (100 : Int64), .long (1000 : Int64), .long (10000 : Int64), .long (100000 : Int64), .long (1000000 : Int64), .long (10000000 : Int64), .long (100000000 : Int64), .long (1000000000 : Int64), .long (10000000000 : Int64), .long (100000000000 : Int64), .long (1000000000000 : Int64), .long (10000000000000 : Int64), .long (100000000000000 : Int64), .long (0 : Int64), .long (0 : Int64), .long (0 : Int64), .long (0 : Int64)]))]) d1_112 rfl (by decide) (by show _ < 19; decide) rfl rfl ?_
  refine C.dup (q := 114) d1_113 rfl rfl ?_
  refine C.bipush (q := 116) (z := (15 : Int32)) d1_114 rfl rfl ?_
  refine C.ldc2 (q := 119) (v := (1000000 : Int64)) d1_116 (hw _ (List.mem_of_getElem? (i := 11) rfl)) rfl ?_
  refine C.lloadN (q := 120) d1_119 rfl rfl ?_
  refine C.lmul (q := 121) d1_120 rfl ?_
  show G 1 19 [(a6, .inl (.long, [.long (1 : Int64), .long (10 : Int64), .long (100 : Int64), .long (1000 : Int64), .long (10000 : Int64), .long (100000 : Int64), .long (1000000 : Int64), .long (10000000 : Int64), .long (100000000 : Int64), .long (1000000000 : Int64), .long (10000000000 : Int64), .long (100000000000 : Int64), .long (1000000000000 : Int64), .long (10000000000000 : Int64), .long (100000000000000 : Int64), .long (0 : Int64), .long (0 : Int64), .long (0 : Int64), .long (0 : Int64)]))] 121 [.val (.long (1000000000 : Int64)), .second, .unset] [.long (1000000000000000 : Int64), .int (15 : Int32), .ref a6, .ref a6]
  refine C.lastore (q := 122) 0 (H' := [(a6, .inl (.long, [.long (1 : Int64), .long (10 : Int64), .long (100 : Int64), .long (1000 : Int64), .long (10000 : Int64), .long (100000 : Int64), .long (1000000 : Int64), .long (10000000 : Int64), .long (100000000 : Int64), .long (1000000000 : Int64), .long (10000000000 : Int64), .long (100000000000 : Int64), .long (1000000000000 : Int64), .long (10000000000000 : Int64), .long (100000000000000 : Int64), .long (1000000000000000 : Int64), .long (0 : Int64), .long (0 : Int64), .long (0 : Int64)]))]) d1_121 rfl (by decide) (by show _ < 19; decide) rfl rfl ?_
  refine C.dup (q := 123) d1_122 rfl rfl ?_
  refine C.bipush (q := 125) (z := (16 : Int32)) d1_123 rfl rfl ?_
  refine C.ldc2 (q := 128) (v := (10000000 : Int64)) d1_125 (hw _ (List.mem_of_getElem? (i := 12) rfl)) rfl ?_
  refine C.lloadN (q := 129) d1_128 rfl rfl ?_
  refine C.lmul (q := 130) d1_129 rfl ?_
  show G 1 19 [(a6, .inl (.long, [.long (1 : Int64), .long (10 : Int64), .long (100 : Int64), .long (1000 : Int64), .long (10000 : Int64), .long (100000 : Int64), .long (1000000 : Int64), .long (10000000 : Int64), .long (100000000 : Int64), .long (1000000000 : Int64), .long (10000000000 : Int64), .long (100000000000 : Int64), .long (1000000000000 : Int64), .long (10000000000000 : Int64), .long (100000000000000 : Int64), .long (1000000000000000 : Int64), .long (0 : Int64), .long (0 : Int64), .long (0 : Int64)]))] 130 [.val (.long (1000000000 : Int64)), .second, .unset] [.long (10000000000000000 : Int64), .int (16 : Int32), .ref a6, .ref a6]
  refine C.lastore (q := 131) 0 (H' := [(a6, .inl (.long, [.long (1 : Int64), .long (10 : Int64), .long (100 : Int64), .long (1000 : Int64), .long (10000 : Int64), .long (100000 : Int64), .long (1000000 : Int64), .long (10000000 : Int64), .long (100000000 : Int64), .long (1000000000 : Int64), .long (10000000000 : Int64), .long (100000000000 : Int64), .long (1000000000000 : Int64), .long (10000000000000 : Int64), .long (100000000000000 : Int64), .long (1000000000000000 : Int64), .long (10000000000000000 : Int64), .long (0 : Int64), .long (0 : Int64)]))]) d1_130 rfl (by decide) (by show _ < 19; decide) rfl rfl ?_
  refine C.dup (q := 132) d1_131 rfl rfl ?_
  refine C.bipush (q := 134) (z := (17 : Int32)) d1_132 rfl rfl ?_
  refine C.ldc2 (q := 137) (v := (100000000 : Int64)) d1_134 (hw _ (List.mem_of_getElem? (i := 13) rfl)) rfl ?_
  refine C.lloadN (q := 138) d1_137 rfl rfl ?_
  refine C.lmul (q := 139) d1_138 rfl ?_
  show G 1 19 [(a6, .inl (.long, [.long (1 : Int64), .long (10 : Int64), .long (100 : Int64), .long (1000 : Int64), .long (10000 : Int64), .long (100000 : Int64), .long (1000000 : Int64), .long (10000000 : Int64), .long (100000000 : Int64), .long (1000000000 : Int64), .long (10000000000 : Int64), .long (100000000000 : Int64), .long (1000000000000 : Int64), .long (10000000000000 : Int64), .long (100000000000000 : Int64), .long (1000000000000000 : Int64), .long (10000000000000000 : Int64), .long (0 : Int64), .long (0 : Int64)]))] 139 [.val (.long (1000000000 : Int64)), .second, .unset] [.long (100000000000000000 : Int64), .int (17 : Int32), .ref a6, .ref a6]
  refine C.lastore (q := 140) 0 (H' := [(a6, .inl (.long, [.long (1 : Int64), .long (10 : Int64), .long (100 : Int64), .long (1000 : Int64), .long (10000 : Int64), .long (100000 : Int64), .long (1000000 : Int64), .long (10000000 : Int64), .long (100000000 : Int64), .long (1000000000 : Int64), .long (10000000000 : Int64), .long (100000000000 : Int64), .long (1000000000000 : Int64), .long (10000000000000 : Int64), .long (100000000000000 : Int64), .long (1000000000000000 : Int64), .long (10000000000000000 : Int64), .long (100000000000000000 : Int64), .long (0 : Int64)]))]) d1_139 rfl (by decide) (by show _ < 19; decide) rfl rfl ?_
  refine C.dup (q := 141) d1_140 rfl rfl ?_
  refine C.bipush (q := 143) (z := (18 : Int32)) d1_141 rfl rfl ?_
  refine C.lloadN (q := 144) d1_143 rfl rfl ?_
  refine C.lloadN (q := 145) d1_144 rfl rfl ?_
  refine C.lmul (q := 146) d1_145 rfl ?_
  show G 1 19 [(a6, .inl (.long, [.long (1 : Int64), .long (10 : Int64), .long (100 : Int64), .long (1000 : Int64), .long (10000 : Int64), .long (100000 : Int64), .long (1000000 : Int64), .long (10000000 : Int64), .long (100000000 : Int64), .long (1000000000 : Int64), .long (10000000000 : Int64), .long (100000000000 : Int64), .long (1000000000000 : Int64), .long (10000000000000 : Int64), .long (100000000000000 : Int64), .long (1000000000000000 : Int64), .long (10000000000000000 : Int64), .long (100000000000000000 : Int64), .long (0 : Int64)]))] 146 [.val (.long (1000000000 : Int64)), .second, .unset] [.long (1000000000000000000 : Int64), .int (18 : Int32), .ref a6, .ref a6]
  refine C.lastore (q := 147) 0 (H' := [(a6, .inl (.long, [.long (1 : Int64), .long (10 : Int64), .long (100 : Int64), .long (1000 : Int64), .long (10000 : Int64), .long (100000 : Int64), .long (1000000 : Int64), .long (10000000 : Int64), .long (100000000 : Int64), .long (1000000000 : Int64), .long (10000000000 : Int64), .long (100000000000 : Int64), .long (1000000000000 : Int64), .long (10000000000000 : Int64), .long (100000000000000 : Int64), .long (1000000000000000 : Int64), .long (10000000000000000 : Int64), .long (100000000000000000 : Int64), .long (1000000000000000000 : Int64)]))]) d1_146 rfl (by decide) (by show _ < 19; decide) rfl rfl ?_
  refine C.astoreN (q := 148) (ls' := [.val (.long (1000000000 : Int64)), .second, .val (.ref a6)]) d1_147 rfl rfl rfl ?_
  refine C.aloadN (q := 149) d1_148 rfl rfl rfl ?_
  exact C.retA rfl rfl rfl d1_149 (by decide) (by decide) ⟨a6, rfl, rfl⟩
theorem d2_8 : decode prog_64_method_2_code 8 = .ok (.lload_n 3, 1) := by decide +kernel
theorem d2_9 : decode prog_64_method_2_code 9 = .ok (.lconst 0, 1) := by decide +kernel
theorem d2_10 : decode prog_64_method_2_code 10 = .ok (.lcmp, 1) := by decide +kernel
theorem d2_11 : decode prog_64_method_2_code 11 = .ok (.ifCond .le 15, 3) := by decide +kernel
theorem d2_14 : decode prog_64_method_2_code 14 = .ok (.iinc 2 1, 3) := by decide +kernel
theorem d2_17 : decode prog_64_method_2_code 17 = .ok (.lload_n 3, 1) := by decide +kernel
theorem d2_18 : decode prog_64_method_2_code 18 = .ok (.ldc2_w 7, 3) := by decide +kernel
theorem d2_21 : decode prog_64_method_2_code 21 = .ok (.ldiv, 1) := by decide +kernel
theorem d2_22 : decode prog_64_method_2_code 22 = .ok (.lstore_n 3, 1) := by decide +kernel
theorem d2_23 : decode prog_64_method_2_code 23 = .ok (.goto (-15), 3) := by decide +kernel
set_option maxRecDepth 65536 in
theorem own_tn {Z : State} {a0 : Array Value} {n0 : Nat} {R : Room} {l : Launch} {Q : Option Value → own_Hs → Prop} {G : Nat → Nat → own_Hs → Nat → List Slot → List Value → Prop} (hw : ∀ d ∈ tables_1, d.before a0 Z = true)
    (C : own_Wk Z n0 R (⟨"com/example/bowerbird/bowerbird/http/server/AsciiDigits", "count", "(J)I"⟩ : MethodName) prog_64_method_2_code 5 (some .int) l Q G) (a : Int64) (H : own_Hs) (n : Int32) (r : Int64) (K1 : 0 < r → G 0 0 H 8 [.val (.long a), .second, .val (.int (n + (1 : Int32))), .val (.long (r / (10 : Int64))), .second] []) (K0 : ¬ 0 < r → G 0 0 H 26 [.val (.long a), .second, .val (.int n), .val (.long r), .second] []) : G 0 0 H 8 [.val (.long a), .second, .val (.int n), .val (.long r), .second] [] := by
  refine C.lloadN (q := 9) d2_8 rfl rfl ?_
  refine C.lconst (q := 10) (z := (0 : Int64)) d2_9 rfl rfl ?_
  refine C.lcmpLe (q := 26) (q' := 14) (q1 := 11) d2_10 rfl d2_11 (by decide) (by decide) rfl (fun h10 => ?_) (fun h10 => ?_)
  · refine C.iinc (q := 17) (z := (1 : Int32)) (ls' := [.val (.long a), .second, .val (.int (n + (1 : Int32))), .val (.long r), .second]) d2_14 rfl rfl rfl rfl ?_
    refine C.lloadN (q := 18) d2_17 rfl rfl ?_
    refine C.ldc2 (q := 21) (v := (10 : Int64)) d2_18 (hw _ (List.mem_of_getElem? (i := 19) rfl)) rfl ?_
    refine C.ldiv (q := 22) d2_21 (by decide) rfl ?_
    refine C.lstoreN (q := 23) (ls' := [.val (.long a), .second, .val (.int (n + (1 : Int32))), .val (.long (r / (10 : Int64))), .second]) d2_22 rfl rfl ?_
    refine C.goto (q := 8) d2_23 (by decide) (by decide) ?_
    exact K1 h10
  · exact K0 h10
theorem own_lp {Z : State} {a0 : Array Value} {n0 : Nat} {R : Room} {l : Launch} {Q : Option Value → own_Hs → Prop} {G : Nat → Nat → own_Hs → Nat → List Slot → List Value → Prop} (hw : ∀ d ∈ tables_1, d.before a0 Z = true)
    (C : own_Wk Z n0 R (⟨"com/example/bowerbird/bowerbird/http/server/AsciiDigits", "count", "(J)I"⟩ : MethodName) prog_64_method_2_code 5 (some .int) l Q G) (a : Int64) (H : own_Hs) :
    ∀ (k : Nat) (n : Int32) (r : Int64), 0 ≤ r.toInt → r.toInt < ((10 ^ k : Nat) : Int) → (∀ z, G 0 0 H 26 [.val (.long a), .second, .val (.int (n + Int32.ofNat (own_S k r.toInt.toNat))), .val (.long z), .second] []) → G 0 0 H 8 [.val (.long a), .second, .val (.int n), .val (.long r), .second] [] := by
  intro k
  induction k with
  | zero =>
    intro n r h0 h1 K
    have hr : r.toInt = 0 := by simp only [Nat.pow_zero] at h1; omega
    refine own_tn hw C a H n r (fun h => ?_) (fun _ => ?_)
    · rw [Int64.lt_iff_toInt_lt, hr] at h; exact absurd h (by decide)
    · have K0 := K r
      rwa [own_S, show Int32.ofNat 0 = 0 from rfl, Int32.add_zero] at K0
  | succ k ih =>
    intro n r h0 h1 K
    refine own_tn hw C a H n r (fun h => ?_) (fun h => ?_)
    · rw [Int64.lt_iff_toInt_lt] at h
      have hr : 0 < r.toInt := h
      have e := own_d10 h0
      refine ih (n + 1) (r / 10) (by omega) ?_ (fun z => ?_)
      · rw [e]; rw [Nat.pow_succ] at h1; omega
      · have K1 := K z
        have e2 : (r / 10).toInt.toNat = r.toInt.toNat / 10 := by rw [e]; omega
        rw [own_S, if_pos (show 1 ≤ r.toInt.toNat by omega), Int32.ofNat_add, show Int32.ofNat 1 = 1 from rfl, ← Int32.add_assoc] at K1
        rw [e2]; exact K1
    · rw [Int64.lt_iff_toInt_lt] at h
      have hr : r.toInt.toNat = 0 := by have h' : ¬ 0 < r.toInt := h; omega
      have K0 := K r
      rw [hr, own_S0, show Int32.ofNat 0 = 0 from rfl, Int32.add_zero] at K0
      exact K0
theorem own_ct {a : Int64} (h0 : 0 ≤ a.toInt) : (1 : Int32) + Int32.ofNat (own_S 18 (a / (10 : Int64)).toInt.toNat) = Int32.ofNat (own_r 18 a.toInt.toNat) := by
  rw [own_rS, Int32.ofNat_add, own_d10 h0, show (a.toInt / 10).toNat = a.toInt.toNat / 10 by omega]; rfl
theorem d2_0 : decode prog_64_method_2_code 0 = .ok (.iconst 1, 1) := by decide +kernel
theorem d2_1 : decode prog_64_method_2_code 1 = .ok (.istore_n 2, 1) := by decide +kernel
theorem d2_2 : decode prog_64_method_2_code 2 = .ok (.lload_n 0, 1) := by decide +kernel
theorem d2_3 : decode prog_64_method_2_code 3 = .ok (.ldc2_w 7, 3) := by decide +kernel
theorem d2_6 : decode prog_64_method_2_code 6 = .ok (.ldiv, 1) := by decide +kernel
theorem d2_7 : decode prog_64_method_2_code 7 = .ok (.lstore_n 3, 1) := by decide +kernel
theorem d2_26 : decode prog_64_method_2_code 26 = .ok (.iload_n 2, 1) := by decide +kernel
theorem d2_27 : decode prog_64_method_2_code 27 = .ok (.ireturn, 1) := by decide +kernel
theorem own_pn2 : plainFor (⟨"com/example/bowerbird/bowerbird/http/server/AsciiDigits", "count", "(J)I"⟩ : MethodName) = true := by first | exact plainFor_of_name (by first | (simp [plainName, overriddenIn]; done) | decide +kernel) | decide +kernel
set_option maxHeartbeats 4000000 in
theorem own_ef2 (m : MethodId) (x0 : Int64) : entryFrame m #[.long x0] 5 = mkF m 0 #[.val (.long x0), .second, .unset, .unset, .unset] [] := by first | (simp [entryFrame, mkF, argsToLocals, Value.category, maxLocals]; done) | rfl
set_option maxRecDepth 65536 in
set_option maxHeartbeats 40000000 in
theorem own_c2 (l : Launch) (Z : State) (a0 : Array Value) (n0 : Nat) (hw : ∀ d ∈ tables_1, d.before a0 Z = true) (ws : List Jvm.Cond) (a : Int64) (H : own_Hs) (h0 : 0 ≤ a.toInt) :
    own_Con l Z n0 (⟨"com/example/bowerbird/bowerbird/http/server/AsciiDigits", "count", "(J)I"⟩ : MethodName) prog_64_method_2_code 5 (some .int) ws ({ frames := 0, cells := 0, slots := 0, locals := 0 } : Room) #[.long a] H (fun v H' => v = some (.int (Int32.ofNat (own_r 18 a.toInt.toNat))) ∧ H' = H) := by
  refine own_con own_pn2 (fun m_ => own_ef2 m_ a) ?_
  intro G C
  refine C.iconst (q := 1) (z := (1 : Int32)) d2_0 rfl rfl ?_
  refine C.istoreN (q := 2) (ls' := [.val (.long a), .second, .val (.int (1 : Int32)), .unset, .unset]) d2_1 rfl rfl ?_
  refine C.lloadN (q := 3) d2_2 rfl rfl ?_
  refine C.ldc2 (q := 6) (v := (10 : Int64)) d2_3 (hw _ (List.mem_of_getElem? (i := 19) rfl)) rfl ?_
  refine C.ldiv (q := 7) d2_6 (by decide) rfl ?_
  refine C.lstoreN (q := 8) (ls' := [.val (.long a), .second, .val (.int (1 : Int32)), .val (.long (a / (10 : Int64))), .second]) d2_7 rfl rfl ?_
  refine own_lp hw C a H 18 (1 : Int32) (a / (10 : Int64)) (by rw [own_d10 h0]; omega) (by rw [own_d10 h0]; have := rng64 a; omega) (fun z => ?_)
  refine C.iloadN (q := 27) d2_26 rfl rfl ?_
  exact C.retI d2_27 (by decide) (by decide) ⟨congrArg (fun z => some (Value.int z)) (own_ct h0), rfl⟩
theorem d3_0 : decode method_3_code 0 = .ok (.iconst 1, 1) := by decide +kernel
theorem d3_1 : decode method_3_code 1 = .ok (.istore_n 3, 1) := by decide +kernel
theorem d3_2 : decode method_3_code 2 = .ok (.lload_n 0, 1) := by decide +kernel
theorem d3_3 : decode method_3_code 3 = .ok (.aload_n 2, 1) := by decide +kernel
theorem d3_4 : decode method_3_code 4 = .ok (.iconst 1, 1) := by decide +kernel
theorem d3_5 : decode method_3_code 5 = .ok (.laload, 1) := by decide +kernel
theorem d3_6 : decode method_3_code 6 = .ok (.lcmp, 1) := by decide +kernel
theorem d3_7 : decode method_3_code 7 = .ok (.ifCond .lt 6, 3) := by decide +kernel
theorem d3_10 : decode method_3_code 10 = .ok (.iinc 3 1, 3) := by decide +kernel
theorem d3_13 : decode method_3_code 13 = .ok (.lload_n 0, 1) := by decide +kernel
theorem d3_14 : decode method_3_code 14 = .ok (.aload_n 2, 1) := by decide +kernel
theorem d3_15 : decode method_3_code 15 = .ok (.iconst 2, 1) := by decide +kernel
theorem d3_16 : decode method_3_code 16 = .ok (.laload, 1) := by decide +kernel
theorem d3_17 : decode method_3_code 17 = .ok (.lcmp, 1) := by decide +kernel
theorem d3_18 : decode method_3_code 18 = .ok (.ifCond .lt 6, 3) := by decide +kernel
theorem d3_21 : decode method_3_code 21 = .ok (.iinc 3 1, 3) := by decide +kernel
theorem d3_24 : decode method_3_code 24 = .ok (.lload_n 0, 1) := by decide +kernel
theorem d3_25 : decode method_3_code 25 = .ok (.aload_n 2, 1) := by decide +kernel
theorem d3_26 : decode method_3_code 26 = .ok (.iconst 3, 1) := by decide +kernel
theorem d3_27 : decode method_3_code 27 = .ok (.laload, 1) := by decide +kernel
theorem d3_28 : decode method_3_code 28 = .ok (.lcmp, 1) := by decide +kernel
theorem d3_29 : decode method_3_code 29 = .ok (.ifCond .lt 6, 3) := by decide +kernel
theorem d3_32 : decode method_3_code 32 = .ok (.iinc 3 1, 3) := by decide +kernel
theorem d3_35 : decode method_3_code 35 = .ok (.lload_n 0, 1) := by decide +kernel
theorem d3_36 : decode method_3_code 36 = .ok (.aload_n 2, 1) := by decide +kernel
theorem d3_37 : decode method_3_code 37 = .ok (.iconst 4, 1) := by decide +kernel
theorem d3_38 : decode method_3_code 38 = .ok (.laload, 1) := by decide +kernel
theorem d3_39 : decode method_3_code 39 = .ok (.lcmp, 1) := by decide +kernel
theorem d3_40 : decode method_3_code 40 = .ok (.ifCond .lt 6, 3) := by decide +kernel
theorem d3_43 : decode method_3_code 43 = .ok (.iinc 3 1, 3) := by decide +kernel
theorem d3_46 : decode method_3_code 46 = .ok (.lload_n 0, 1) := by decide +kernel
theorem d3_47 : decode method_3_code 47 = .ok (.aload_n 2, 1) := by decide +kernel
theorem d3_48 : decode method_3_code 48 = .ok (.iconst 5, 1) := by decide +kernel
theorem d3_49 : decode method_3_code 49 = .ok (.laload, 1) := by decide +kernel
theorem d3_50 : decode method_3_code 50 = .ok (.lcmp, 1) := by decide +kernel
theorem d3_51 : decode method_3_code 51 = .ok (.ifCond .lt 6, 3) := by decide +kernel
theorem d3_54 : decode method_3_code 54 = .ok (.iinc 3 1, 3) := by decide +kernel
theorem d3_57 : decode method_3_code 57 = .ok (.lload_n 0, 1) := by decide +kernel
theorem d3_58 : decode method_3_code 58 = .ok (.aload_n 2, 1) := by decide +kernel
theorem d3_59 : decode method_3_code 59 = .ok (.bipush 6, 2) := by decide +kernel
theorem d3_61 : decode method_3_code 61 = .ok (.laload, 1) := by decide +kernel
theorem d3_62 : decode method_3_code 62 = .ok (.lcmp, 1) := by decide +kernel
theorem d3_63 : decode method_3_code 63 = .ok (.ifCond .lt 6, 3) := by decide +kernel
theorem d3_66 : decode method_3_code 66 = .ok (.iinc 3 1, 3) := by decide +kernel
theorem d3_69 : decode method_3_code 69 = .ok (.lload_n 0, 1) := by decide +kernel
theorem d3_70 : decode method_3_code 70 = .ok (.aload_n 2, 1) := by decide +kernel
theorem d3_71 : decode method_3_code 71 = .ok (.bipush 7, 2) := by decide +kernel
theorem d3_73 : decode method_3_code 73 = .ok (.laload, 1) := by decide +kernel
theorem d3_74 : decode method_3_code 74 = .ok (.lcmp, 1) := by decide +kernel
theorem d3_75 : decode method_3_code 75 = .ok (.ifCond .lt 6, 3) := by decide +kernel
theorem d3_78 : decode method_3_code 78 = .ok (.iinc 3 1, 3) := by decide +kernel
theorem d3_81 : decode method_3_code 81 = .ok (.lload_n 0, 1) := by decide +kernel
theorem d3_82 : decode method_3_code 82 = .ok (.aload_n 2, 1) := by decide +kernel
theorem d3_83 : decode method_3_code 83 = .ok (.bipush 8, 2) := by decide +kernel
theorem d3_85 : decode method_3_code 85 = .ok (.laload, 1) := by decide +kernel
theorem d3_86 : decode method_3_code 86 = .ok (.lcmp, 1) := by decide +kernel
theorem d3_87 : decode method_3_code 87 = .ok (.ifCond .lt 6, 3) := by decide +kernel
theorem d3_90 : decode method_3_code 90 = .ok (.iinc 3 1, 3) := by decide +kernel
theorem d3_93 : decode method_3_code 93 = .ok (.lload_n 0, 1) := by decide +kernel
theorem d3_94 : decode method_3_code 94 = .ok (.aload_n 2, 1) := by decide +kernel
theorem d3_95 : decode method_3_code 95 = .ok (.bipush 9, 2) := by decide +kernel
theorem d3_97 : decode method_3_code 97 = .ok (.laload, 1) := by decide +kernel
theorem d3_98 : decode method_3_code 98 = .ok (.lcmp, 1) := by decide +kernel
theorem d3_99 : decode method_3_code 99 = .ok (.ifCond .lt 6, 3) := by decide +kernel
theorem d3_102 : decode method_3_code 102 = .ok (.iinc 3 1, 3) := by decide +kernel
theorem d3_105 : decode method_3_code 105 = .ok (.lload_n 0, 1) := by decide +kernel
theorem d3_106 : decode method_3_code 106 = .ok (.aload_n 2, 1) := by decide +kernel
theorem d3_107 : decode method_3_code 107 = .ok (.bipush 10, 2) := by decide +kernel
theorem d3_109 : decode method_3_code 109 = .ok (.laload, 1) := by decide +kernel
theorem d3_110 : decode method_3_code 110 = .ok (.lcmp, 1) := by decide +kernel
theorem d3_111 : decode method_3_code 111 = .ok (.ifCond .lt 6, 3) := by decide +kernel
theorem d3_114 : decode method_3_code 114 = .ok (.iinc 3 1, 3) := by decide +kernel
theorem d3_117 : decode method_3_code 117 = .ok (.lload_n 0, 1) := by decide +kernel
theorem d3_118 : decode method_3_code 118 = .ok (.aload_n 2, 1) := by decide +kernel
theorem d3_119 : decode method_3_code 119 = .ok (.bipush 11, 2) := by decide +kernel
theorem d3_121 : decode method_3_code 121 = .ok (.laload, 1) := by decide +kernel
theorem d3_122 : decode method_3_code 122 = .ok (.lcmp, 1) := by decide +kernel
theorem d3_123 : decode method_3_code 123 = .ok (.ifCond .lt 6, 3) := by decide +kernel
theorem d3_126 : decode method_3_code 126 = .ok (.iinc 3 1, 3) := by decide +kernel
theorem d3_129 : decode method_3_code 129 = .ok (.lload_n 0, 1) := by decide +kernel
theorem d3_130 : decode method_3_code 130 = .ok (.aload_n 2, 1) := by decide +kernel
theorem d3_131 : decode method_3_code 131 = .ok (.bipush 12, 2) := by decide +kernel
theorem d3_133 : decode method_3_code 133 = .ok (.laload, 1) := by decide +kernel
theorem d3_134 : decode method_3_code 134 = .ok (.lcmp, 1) := by decide +kernel
theorem d3_135 : decode method_3_code 135 = .ok (.ifCond .lt 6, 3) := by decide +kernel
theorem d3_138 : decode method_3_code 138 = .ok (.iinc 3 1, 3) := by decide +kernel
theorem d3_141 : decode method_3_code 141 = .ok (.lload_n 0, 1) := by decide +kernel
theorem d3_142 : decode method_3_code 142 = .ok (.aload_n 2, 1) := by decide +kernel
theorem d3_143 : decode method_3_code 143 = .ok (.bipush 13, 2) := by decide +kernel
theorem d3_145 : decode method_3_code 145 = .ok (.laload, 1) := by decide +kernel
theorem d3_146 : decode method_3_code 146 = .ok (.lcmp, 1) := by decide +kernel
theorem d3_147 : decode method_3_code 147 = .ok (.ifCond .lt 6, 3) := by decide +kernel
theorem d3_150 : decode method_3_code 150 = .ok (.iinc 3 1, 3) := by decide +kernel
theorem d3_153 : decode method_3_code 153 = .ok (.lload_n 0, 1) := by decide +kernel
theorem d3_154 : decode method_3_code 154 = .ok (.aload_n 2, 1) := by decide +kernel
theorem d3_155 : decode method_3_code 155 = .ok (.bipush 14, 2) := by decide +kernel
theorem d3_157 : decode method_3_code 157 = .ok (.laload, 1) := by decide +kernel
theorem d3_158 : decode method_3_code 158 = .ok (.lcmp, 1) := by decide +kernel
theorem d3_159 : decode method_3_code 159 = .ok (.ifCond .lt 6, 3) := by decide +kernel
theorem d3_162 : decode method_3_code 162 = .ok (.iinc 3 1, 3) := by decide +kernel
theorem d3_165 : decode method_3_code 165 = .ok (.lload_n 0, 1) := by decide +kernel
theorem d3_166 : decode method_3_code 166 = .ok (.aload_n 2, 1) := by decide +kernel
theorem d3_167 : decode method_3_code 167 = .ok (.bipush 15, 2) := by decide +kernel
theorem d3_169 : decode method_3_code 169 = .ok (.laload, 1) := by decide +kernel
theorem d3_170 : decode method_3_code 170 = .ok (.lcmp, 1) := by decide +kernel
theorem d3_171 : decode method_3_code 171 = .ok (.ifCond .lt 6, 3) := by decide +kernel
theorem d3_174 : decode method_3_code 174 = .ok (.iinc 3 1, 3) := by decide +kernel
theorem d3_177 : decode method_3_code 177 = .ok (.lload_n 0, 1) := by decide +kernel
theorem d3_178 : decode method_3_code 178 = .ok (.aload_n 2, 1) := by decide +kernel
theorem d3_179 : decode method_3_code 179 = .ok (.bipush 16, 2) := by decide +kernel
theorem d3_181 : decode method_3_code 181 = .ok (.laload, 1) := by decide +kernel
theorem d3_182 : decode method_3_code 182 = .ok (.lcmp, 1) := by decide +kernel
theorem d3_183 : decode method_3_code 183 = .ok (.ifCond .lt 6, 3) := by decide +kernel
theorem d3_186 : decode method_3_code 186 = .ok (.iinc 3 1, 3) := by decide +kernel
theorem d3_189 : decode method_3_code 189 = .ok (.lload_n 0, 1) := by decide +kernel
theorem d3_190 : decode method_3_code 190 = .ok (.aload_n 2, 1) := by decide +kernel
theorem d3_191 : decode method_3_code 191 = .ok (.bipush 17, 2) := by decide +kernel
theorem d3_193 : decode method_3_code 193 = .ok (.laload, 1) := by decide +kernel
theorem d3_194 : decode method_3_code 194 = .ok (.lcmp, 1) := by decide +kernel
theorem d3_195 : decode method_3_code 195 = .ok (.ifCond .lt 6, 3) := by decide +kernel
theorem d3_198 : decode method_3_code 198 = .ok (.iinc 3 1, 3) := by decide +kernel
theorem d3_201 : decode method_3_code 201 = .ok (.lload_n 0, 1) := by decide +kernel
theorem d3_202 : decode method_3_code 202 = .ok (.aload_n 2, 1) := by decide +kernel
theorem d3_203 : decode method_3_code 203 = .ok (.bipush 18, 2) := by decide +kernel
theorem d3_205 : decode method_3_code 205 = .ok (.laload, 1) := by decide +kernel
theorem d3_206 : decode method_3_code 206 = .ok (.lcmp, 1) := by decide +kernel
theorem d3_207 : decode method_3_code 207 = .ok (.ifCond .lt 6, 3) := by decide +kernel
theorem d3_210 : decode method_3_code 210 = .ok (.iinc 3 1, 3) := by decide +kernel
theorem d3_213 : decode method_3_code 213 = .ok (.iload_n 3, 1) := by decide +kernel
theorem d3_214 : decode method_3_code 214 = .ok (.ireturn, 1) := by decide +kernel
theorem own_pn3 : plainFor (⟨"com/example/bowerbird/bowerbird/http/server/AsciiDigitsCountPinLaw", "ref", "(J[J)I"⟩ : MethodName) = true := by first | exact plainFor_of_name (by first | (simp [plainName, overriddenIn]; done) | decide +kernel) | decide +kernel
set_option maxHeartbeats 4000000 in
theorem own_ef3 (m : MethodId) (x0 : Int64) (x1 : Addr) : entryFrame m #[.long x0, .ref x1] 4 = mkF m 0 #[.val (.long x0), .second, .val (.ref x1), .unset] [] := by first | (simp [entryFrame, mkF, argsToLocals, Value.category, maxLocals]; done) | rfl
set_option maxRecDepth 65536 in
set_option maxHeartbeats 40000000 in
theorem own_c3 (l : Launch) (Z : State) (a0 : Array Value) (n0 : Nat) (hw : ∀ d ∈ tables_1, d.before a0 Z = true) (ws : List Jvm.Cond) (a : Int64) (o : Addr) (h0 : 0 ≤ a.toInt) :
    own_Con l Z n0 (⟨"com/example/bowerbird/bowerbird/http/server/AsciiDigitsCountPinLaw", "ref", "(J[J)I"⟩ : MethodName) method_3_code 4 (some .int) ws ({ frames := 0, cells := 0, slots := 0, locals := 0 } : Room) #[.long a, .ref o] [(o, .inl (.long, [.long (1 : Int64), .long (10 : Int64), .long (100 : Int64), .long (1000 : Int64), .long (10000 : Int64), .long (100000 : Int64), .long (1000000 : Int64), .long (10000000 : Int64), .long (100000000 : Int64), .long (1000000000 : Int64), .long (10000000000 : Int64), .long (100000000000 : Int64), .long (1000000000000 : Int64), .long (10000000000000 : Int64), .long (100000000000000 : Int64), .long (1000000000000000 : Int64), .long (10000000000000000 : Int64), .long (100000000000000000 : Int64), .long (1000000000000000000 : Int64)]))] (fun v H' => v = some (.int (Int32.ofNat (own_r 18 a.toInt.toNat))) ∧ H' = [(o, .inl (.long, [.long (1 : Int64), .long (10 : Int64), .long (100 : Int64), .long (1000 : Int64), .long (10000 : Int64), .long (100000 : Int64), .long (1000000 : Int64), .long (10000000 : Int64), .long (100000000 : Int64), .long (1000000000 : Int64), .long (10000000000 : Int64), .long (100000000000 : Int64), .long (1000000000000 : Int64), .long (10000000000000 : Int64), .long (100000000000000 : Int64), .long (1000000000000000 : Int64), .long (10000000000000000 : Int64), .long (100000000000000000 : Int64), .long (1000000000000000000 : Int64)]))]) := by
  refine own_con own_pn3 (fun m_ => own_ef3 m_ a o) ?_
  intro G C
  have en0 : (1 : Int32) = Int32.ofNat (own_r 0 a.toInt.toNat) := rfl
  refine C.iconst (q := 1) (z := (1 : Int32)) d3_0 rfl rfl ?_
  refine C.istoreN (q := 2) (ls' := [.val (.long a), .second, .val (.ref o), .val (.int (1 : Int32))]) d3_1 rfl rfl ?_
  refine C.lloadN (q := 3) d3_2 rfl rfl ?_
  refine C.aloadN (q := 4) d3_3 rfl rfl rfl ?_
  refine C.iconst (q := 5) (z := (1 : Int32)) d3_4 rfl rfl ?_
  refine C.laload (q := 6) 0 (v := .long (10 : Int64)) d3_5 rfl (by decide) rfl rfl ?_
  have J6 : ∀ (n1 : Int32), n1 = (if a < (10 : Int64) then (1 : Int32) else (2 : Int32)) → G 0 0 [(o, .inl (.long, [.long (1 : Int64), .long (10 : Int64), .long (100 : Int64), .long (1000 : Int64), .long (10000 : Int64), .long (100000 : Int64), .long (1000000 : Int64), .long (10000000 : Int64), .long (100000000 : Int64), .long (1000000000 : Int64), .long (10000000000 : Int64), .long (100000000000 : Int64), .long (1000000000000 : Int64), .long (10000000000000 : Int64), .long (100000000000000 : Int64), .long (1000000000000000 : Int64), .long (10000000000000000 : Int64), .long (100000000000000000 : Int64), .long (1000000000000000000 : Int64)]))] 13 [.val (.long a), .second, .val (.ref o), .val (.int n1)] [] := by
    intro n1 hn1
    have en1 := own_st (k := 0) h0 rfl en0 hn1
    refine C.lloadN (q := 14) d3_13 rfl rfl ?_
    refine C.aloadN (q := 15) d3_14 rfl rfl rfl ?_
    refine C.iconst (q := 16) (z := (2 : Int32)) d3_15 rfl rfl ?_
    refine C.laload (q := 17) 0 (v := .long (100 : Int64)) d3_16 rfl (by decide) rfl rfl ?_
    have J17 : ∀ (n2 : Int32), n2 = (if a < (100 : Int64) then n1 else (n1 + (1 : Int32))) → G 0 0 [(o, .inl (.long, [.long (1 : Int64), .long (10 : Int64), .long (100 : Int64), .long (1000 : Int64), .long (10000 : Int64), .long (100000 : Int64), .long (1000000 : Int64), .long (10000000 : Int64), .long (100000000 : Int64), .long (1000000000 : Int64), .long (10000000000 : Int64), .long (100000000000 : Int64), .long (1000000000000 : Int64), .long (10000000000000 : Int64), .long (100000000000000 : Int64), .long (1000000000000000 : Int64), .long (10000000000000000 : Int64), .long (100000000000000000 : Int64), .long (1000000000000000000 : Int64)]))] 24 [.val (.long a), .second, .val (.ref o), .val (.int n2)] [] := by
      intro n2 hn2
      have en2 := own_st (k := 1) h0 rfl en1 hn2
      refine C.lloadN (q := 25) d3_24 rfl rfl ?_
      refine C.aloadN (q := 26) d3_25 rfl rfl rfl ?_
      refine C.iconst (q := 27) (z := (3 : Int32)) d3_26 rfl rfl ?_
      refine C.laload (q := 28) 0 (v := .long (1000 : Int64)) d3_27 rfl (by decide) rfl rfl ?_
      have J28 : ∀ (n3 : Int32), n3 = (if a < (1000 : Int64) then n2 else (n2 + (1 : Int32))) → G 0 0 [(o, .inl (.long, [.long (1 : Int64), .long (10 : Int64), .long (100 : Int64), .long (1000 : Int64), .long (10000 : Int64), .long (100000 : Int64), .long (1000000 : Int64), .long (10000000 : Int64), .long (100000000 : Int64), .long (1000000000 : Int64), .long (10000000000 : Int64), .long (100000000000 : Int64), .long (1000000000000 : Int64), .long (10000000000000 : Int64), .long (100000000000000 : Int64), .long (1000000000000000 : Int64), .long (10000000000000000 : Int64), .long (100000000000000000 : Int64), .long (1000000000000000000 : Int64)]))] 35 [.val (.long a), .second, .val (.ref o), .val (.int n3)] [] := by
        intro n3 hn3
        have en3 := own_st (k := 2) h0 rfl en2 hn3
        refine C.lloadN (q := 36) d3_35 rfl rfl ?_
        refine C.aloadN (q := 37) d3_36 rfl rfl rfl ?_
        refine C.iconst (q := 38) (z := (4 : Int32)) d3_37 rfl rfl ?_
        refine C.laload (q := 39) 0 (v := .long (10000 : Int64)) d3_38 rfl (by decide) rfl rfl ?_
        have J39 : ∀ (n4 : Int32), n4 = (if a < (10000 : Int64) then n3 else (n3 + (1 : Int32))) → G 0 0 [(o, .inl (.long, [.long (1 : Int64), .long (10 : Int64), .long (100 : Int64), .long (1000 : Int64), .long (10000 : Int64), .long (100000 : Int64), .long (1000000 : Int64), .long (10000000 : Int64), .long (100000000 : Int64), .long (1000000000 : Int64), .long (10000000000 : Int64), .long (100000000000 : Int64), .long (1000000000000 : Int64), .long (10000000000000 : Int64), .long (100000000000000 : Int64), .long (1000000000000000 : Int64), .long (10000000000000000 : Int64), .long (100000000000000000 : Int64), .long (1000000000000000000 : Int64)]))] 46 [.val (.long a), .second, .val (.ref o), .val (.int n4)] [] := by
          intro n4 hn4
          have en4 := own_st (k := 3) h0 rfl en3 hn4
          refine C.lloadN (q := 47) d3_46 rfl rfl ?_
          refine C.aloadN (q := 48) d3_47 rfl rfl rfl ?_
          refine C.iconst (q := 49) (z := (5 : Int32)) d3_48 rfl rfl ?_
          refine C.laload (q := 50) 0 (v := .long (100000 : Int64)) d3_49 rfl (by decide) rfl rfl ?_
          have J50 : ∀ (n5 : Int32), n5 = (if a < (100000 : Int64) then n4 else (n4 + (1 : Int32))) → G 0 0 [(o, .inl (.long, [.long (1 : Int64), .long (10 : Int64), .long (100 : Int64), .long (1000 : Int64), .long (10000 : Int64), .long (100000 : Int64), .long (1000000 : Int64), .long (10000000 : Int64), .long (100000000 : Int64), .long (1000000000 : Int64), .long (10000000000 : Int64), .long (100000000000 : Int64), .long (1000000000000 : Int64), .long (10000000000000 : Int64), .long (100000000000000 : Int64), .long (1000000000000000 : Int64), .long (10000000000000000 : Int64), .long (100000000000000000 : Int64), .long (1000000000000000000 : Int64)]))] 57 [.val (.long a), .second, .val (.ref o), .val (.int n5)] [] := by
            intro n5 hn5
            have en5 := own_st (k := 4) h0 rfl en4 hn5
            refine C.lloadN (q := 58) d3_57 rfl rfl ?_
            refine C.aloadN (q := 59) d3_58 rfl rfl rfl ?_
            refine C.bipush (q := 61) (z := (6 : Int32)) d3_59 rfl rfl ?_
            refine C.laload (q := 62) 0 (v := .long (1000000 : Int64)) d3_61 rfl (by decide) rfl rfl ?_
            have J62 : ∀ (n6 : Int32), n6 = (if a < (1000000 : Int64) then n5 else (n5 + (1 : Int32))) → G 0 0 [(o, .inl (.long, [.long (1 : Int64), .long (10 : Int64), .long (100 : Int64), .long (1000 : Int64), .long (10000 : Int64), .long (100000 : Int64), .long (1000000 : Int64), .long (10000000 : Int64), .long (100000000 : Int64), .long (1000000000 : Int64), .long (10000000000 : Int64), .long (100000000000 : Int64), .long (1000000000000 : Int64), .long (10000000000000 : Int64), .long (100000000000000 : Int64), .long (1000000000000000 : Int64), .long (10000000000000000 : Int64), .long (100000000000000000 : Int64), .long (1000000000000000000 : Int64)]))] 69 [.val (.long a), .second, .val (.ref o), .val (.int n6)] [] := by
              intro n6 hn6
              have en6 := own_st (k := 5) h0 rfl en5 hn6
              refine C.lloadN (q := 70) d3_69 rfl rfl ?_
              refine C.aloadN (q := 71) d3_70 rfl rfl rfl ?_
              refine C.bipush (q := 73) (z := (7 : Int32)) d3_71 rfl rfl ?_
              refine C.laload (q := 74) 0 (v := .long (10000000 : Int64)) d3_73 rfl (by decide) rfl rfl ?_
              have J74 : ∀ (n7 : Int32), n7 = (if a < (10000000 : Int64) then n6 else (n6 + (1 : Int32))) → G 0 0 [(o, .inl (.long, [.long (1 : Int64), .long (10 : Int64), .long (100 : Int64), .long (1000 : Int64), .long (10000 : Int64), .long (100000 : Int64), .long (1000000 : Int64), .long (10000000 : Int64), .long (100000000 : Int64), .long (1000000000 : Int64), .long (10000000000 : Int64), .long (100000000000 : Int64), .long (1000000000000 : Int64), .long (10000000000000 : Int64), .long (100000000000000 : Int64), .long (1000000000000000 : Int64), .long (10000000000000000 : Int64), .long (100000000000000000 : Int64), .long (1000000000000000000 : Int64)]))] 81 [.val (.long a), .second, .val (.ref o), .val (.int n7)] [] := by
                intro n7 hn7
                have en7 := own_st (k := 6) h0 rfl en6 hn7
                refine C.lloadN (q := 82) d3_81 rfl rfl ?_
                refine C.aloadN (q := 83) d3_82 rfl rfl rfl ?_
                refine C.bipush (q := 85) (z := (8 : Int32)) d3_83 rfl rfl ?_
                refine C.laload (q := 86) 0 (v := .long (100000000 : Int64)) d3_85 rfl (by decide) rfl rfl ?_
                have J86 : ∀ (n8 : Int32), n8 = (if a < (100000000 : Int64) then n7 else (n7 + (1 : Int32))) → G 0 0 [(o, .inl (.long, [.long (1 : Int64), .long (10 : Int64), .long (100 : Int64), .long (1000 : Int64), .long (10000 : Int64), .long (100000 : Int64), .long (1000000 : Int64), .long (10000000 : Int64), .long (100000000 : Int64), .long (1000000000 : Int64), .long (10000000000 : Int64), .long (100000000000 : Int64), .long (1000000000000 : Int64), .long (10000000000000 : Int64), .long (100000000000000 : Int64), .long (1000000000000000 : Int64), .long (10000000000000000 : Int64), .long (100000000000000000 : Int64), .long (1000000000000000000 : Int64)]))] 93 [.val (.long a), .second, .val (.ref o), .val (.int n8)] [] := by
                  intro n8 hn8
                  have en8 := own_st (k := 7) h0 rfl en7 hn8
                  refine C.lloadN (q := 94) d3_93 rfl rfl ?_
                  refine C.aloadN (q := 95) d3_94 rfl rfl rfl ?_
                  refine C.bipush (q := 97) (z := (9 : Int32)) d3_95 rfl rfl ?_
                  refine C.laload (q := 98) 0 (v := .long (1000000000 : Int64)) d3_97 rfl (by decide) rfl rfl ?_
                  have J98 : ∀ (n9 : Int32), n9 = (if a < (1000000000 : Int64) then n8 else (n8 + (1 : Int32))) → G 0 0 [(o, .inl (.long, [.long (1 : Int64), .long (10 : Int64), .long (100 : Int64), .long (1000 : Int64), .long (10000 : Int64), .long (100000 : Int64), .long (1000000 : Int64), .long (10000000 : Int64), .long (100000000 : Int64), .long (1000000000 : Int64), .long (10000000000 : Int64), .long (100000000000 : Int64), .long (1000000000000 : Int64), .long (10000000000000 : Int64), .long (100000000000000 : Int64), .long (1000000000000000 : Int64), .long (10000000000000000 : Int64), .long (100000000000000000 : Int64), .long (1000000000000000000 : Int64)]))] 105 [.val (.long a), .second, .val (.ref o), .val (.int n9)] [] := by
                    intro n9 hn9
                    have en9 := own_st (k := 8) h0 rfl en8 hn9
                    refine C.lloadN (q := 106) d3_105 rfl rfl ?_
                    refine C.aloadN (q := 107) d3_106 rfl rfl rfl ?_
                    refine C.bipush (q := 109) (z := (10 : Int32)) d3_107 rfl rfl ?_
                    refine C.laload (q := 110) 0 (v := .long (10000000000 : Int64)) d3_109 rfl (by decide) rfl rfl ?_
                    have J110 : ∀ (n10 : Int32), n10 = (if a < (10000000000 : Int64) then n9 else (n9 + (1 : Int32))) → G 0 0 [(o, .inl (.long, [.long (1 : Int64), .long (10 : Int64), .long (100 : Int64), .long (1000 : Int64), .long (10000 : Int64), .long (100000 : Int64), .long (1000000 : Int64), .long (10000000 : Int64), .long (100000000 : Int64), .long (1000000000 : Int64), .long (10000000000 : Int64), .long (100000000000 : Int64), .long (1000000000000 : Int64), .long (10000000000000 : Int64), .long (100000000000000 : Int64), .long (1000000000000000 : Int64), .long (10000000000000000 : Int64), .long (100000000000000000 : Int64), .long (1000000000000000000 : Int64)]))] 117 [.val (.long a), .second, .val (.ref o), .val (.int n10)] [] := by
                      intro n10 hn10
                      have en10 := own_st (k := 9) h0 rfl en9 hn10
                      refine C.lloadN (q := 118) d3_117 rfl rfl ?_
                      refine C.aloadN (q := 119) d3_118 rfl rfl rfl ?_
                      refine C.bipush (q := 121) (z := (11 : Int32)) d3_119 rfl rfl ?_
                      refine C.laload (q := 122) 0 (v := .long (100000000000 : Int64)) d3_121 rfl (by decide) rfl rfl ?_
                      have J122 : ∀ (n11 : Int32), n11 = (if a < (100000000000 : Int64) then n10 else (n10 + (1 : Int32))) → G 0 0 [(o, .inl (.long, [.long (1 : Int64), .long (10 : Int64), .long (100 : Int64), .long (1000 : Int64), .long (10000 : Int64), .long (100000 : Int64), .long (1000000 : Int64), .long (10000000 : Int64), .long (100000000 : Int64), .long (1000000000 : Int64), .long (10000000000 : Int64), .long (100000000000 : Int64), .long (1000000000000 : Int64), .long (10000000000000 : Int64), .long (100000000000000 : Int64), .long (1000000000000000 : Int64), .long (10000000000000000 : Int64), .long (100000000000000000 : Int64), .long (1000000000000000000 : Int64)]))] 129 [.val (.long a), .second, .val (.ref o), .val (.int n11)] [] := by
                        intro n11 hn11
                        have en11 := own_st (k := 10) h0 rfl en10 hn11
                        refine C.lloadN (q := 130) d3_129 rfl rfl ?_
                        refine C.aloadN (q := 131) d3_130 rfl rfl rfl ?_
                        refine C.bipush (q := 133) (z := (12 : Int32)) d3_131 rfl rfl ?_
                        refine C.laload (q := 134) 0 (v := .long (1000000000000 : Int64)) d3_133 rfl (by decide) rfl rfl ?_
                        have J134 : ∀ (n12 : Int32), n12 = (if a < (1000000000000 : Int64) then n11 else (n11 + (1 : Int32))) → G 0 0 [(o, .inl (.long, [.long (1 : Int64), .long (10 : Int64), .long (100 : Int64), .long (1000 : Int64), .long (10000 : Int64), .long (100000 : Int64), .long (1000000 : Int64), .long (10000000 : Int64), .long (100000000 : Int64), .long (1000000000 : Int64), .long (10000000000 : Int64), .long (100000000000 : Int64), .long (1000000000000 : Int64), .long (10000000000000 : Int64), .long (100000000000000 : Int64), .long (1000000000000000 : Int64), .long (10000000000000000 : Int64), .long (100000000000000000 : Int64), .long (1000000000000000000 : Int64)]))] 141 [.val (.long a), .second, .val (.ref o), .val (.int n12)] [] := by
                          intro n12 hn12
                          have en12 := own_st (k := 11) h0 rfl en11 hn12
                          refine C.lloadN (q := 142) d3_141 rfl rfl ?_
                          refine C.aloadN (q := 143) d3_142 rfl rfl rfl ?_
                          refine C.bipush (q := 145) (z := (13 : Int32)) d3_143 rfl rfl ?_
                          refine C.laload (q := 146) 0 (v := .long (10000000000000 : Int64)) d3_145 rfl (by decide) rfl rfl ?_
                          have J146 : ∀ (n13 : Int32), n13 = (if a < (10000000000000 : Int64) then n12 else (n12 + (1 : Int32))) → G 0 0 [(o, .inl (.long, [.long (1 : Int64), .long (10 : Int64), .long (100 : Int64), .long (1000 : Int64), .long (10000 : Int64), .long (100000 : Int64), .long (1000000 : Int64), .long (10000000 : Int64), .long (100000000 : Int64), .long (1000000000 : Int64), .long (10000000000 : Int64), .long (100000000000 : Int64), .long (1000000000000 : Int64), .long (10000000000000 : Int64), .long (100000000000000 : Int64), .long (1000000000000000 : Int64), .long (10000000000000000 : Int64), .long (100000000000000000 : Int64), .long (1000000000000000000 : Int64)]))] 153 [.val (.long a), .second, .val (.ref o), .val (.int n13)] [] := by
                            intro n13 hn13
                            have en13 := own_st (k := 12) h0 rfl en12 hn13
                            refine C.lloadN (q := 154) d3_153 rfl rfl ?_
                            refine C.aloadN (q := 155) d3_154 rfl rfl rfl ?_
                            refine C.bipush (q := 157) (z := (14 : Int32)) d3_155 rfl rfl ?_
                            refine C.laload (q := 158) 0 (v := .long (100000000000000 : Int64)) d3_157 rfl (by decide) rfl rfl ?_
                            have J158 : ∀ (n14 : Int32), n14 = (if a < (100000000000000 : Int64) then n13 else (n13 + (1 : Int32))) → G 0 0 [(o, .inl (.long, [.long (1 : Int64), .long (10 : Int64), .long (100 : Int64), .long (1000 : Int64), .long (10000 : Int64), .long (100000 : Int64), .long (1000000 : Int64), .long (10000000 : Int64), .long (100000000 : Int64), .long (1000000000 : Int64), .long (10000000000 : Int64), .long (100000000000 : Int64), .long (1000000000000 : Int64), .long (10000000000000 : Int64), .long (100000000000000 : Int64), .long (1000000000000000 : Int64), .long (10000000000000000 : Int64), .long (100000000000000000 : Int64), .long (1000000000000000000 : Int64)]))] 165 [.val (.long a), .second, .val (.ref o), .val (.int n14)] [] := by
                              intro n14 hn14
                              have en14 := own_st (k := 13) h0 rfl en13 hn14
                              refine C.lloadN (q := 166) d3_165 rfl rfl ?_
                              refine C.aloadN (q := 167) d3_166 rfl rfl rfl ?_
                              refine C.bipush (q := 169) (z := (15 : Int32)) d3_167 rfl rfl ?_
                              refine C.laload (q := 170) 0 (v := .long (1000000000000000 : Int64)) d3_169 rfl (by decide) rfl rfl ?_
                              have J170 : ∀ (n15 : Int32), n15 = (if a < (1000000000000000 : Int64) then n14 else (n14 + (1 : Int32))) → G 0 0 [(o, .inl (.long, [.long (1 : Int64), .long (10 : Int64), .long (100 : Int64), .long (1000 : Int64), .long (10000 : Int64), .long (100000 : Int64), .long (1000000 : Int64), .long (10000000 : Int64), .long (100000000 : Int64), .long (1000000000 : Int64), .long (10000000000 : Int64), .long (100000000000 : Int64), .long (1000000000000 : Int64), .long (10000000000000 : Int64), .long (100000000000000 : Int64), .long (1000000000000000 : Int64), .long (10000000000000000 : Int64), .long (100000000000000000 : Int64), .long (1000000000000000000 : Int64)]))] 177 [.val (.long a), .second, .val (.ref o), .val (.int n15)] [] := by
                                intro n15 hn15
                                have en15 := own_st (k := 14) h0 rfl en14 hn15
                                refine C.lloadN (q := 178) d3_177 rfl rfl ?_
                                refine C.aloadN (q := 179) d3_178 rfl rfl rfl ?_
                                refine C.bipush (q := 181) (z := (16 : Int32)) d3_179 rfl rfl ?_
                                refine C.laload (q := 182) 0 (v := .long (10000000000000000 : Int64)) d3_181 rfl (by decide) rfl rfl ?_
                                have J182 : ∀ (n16 : Int32), n16 = (if a < (10000000000000000 : Int64) then n15 else (n15 + (1 : Int32))) → G 0 0 [(o, .inl (.long, [.long (1 : Int64), .long (10 : Int64), .long (100 : Int64), .long (1000 : Int64), .long (10000 : Int64), .long (100000 : Int64), .long (1000000 : Int64), .long (10000000 : Int64), .long (100000000 : Int64), .long (1000000000 : Int64), .long (10000000000 : Int64), .long (100000000000 : Int64), .long (1000000000000 : Int64), .long (10000000000000 : Int64), .long (100000000000000 : Int64), .long (1000000000000000 : Int64), .long (10000000000000000 : Int64), .long (100000000000000000 : Int64), .long (1000000000000000000 : Int64)]))] 189 [.val (.long a), .second, .val (.ref o), .val (.int n16)] [] := by
                                  intro n16 hn16
                                  have en16 := own_st (k := 15) h0 rfl en15 hn16
                                  refine C.lloadN (q := 190) d3_189 rfl rfl ?_
                                  refine C.aloadN (q := 191) d3_190 rfl rfl rfl ?_
                                  refine C.bipush (q := 193) (z := (17 : Int32)) d3_191 rfl rfl ?_
                                  refine C.laload (q := 194) 0 (v := .long (100000000000000000 : Int64)) d3_193 rfl (by decide) rfl rfl ?_
                                  have J194 : ∀ (n17 : Int32), n17 = (if a < (100000000000000000 : Int64) then n16 else (n16 + (1 : Int32))) → G 0 0 [(o, .inl (.long, [.long (1 : Int64), .long (10 : Int64), .long (100 : Int64), .long (1000 : Int64), .long (10000 : Int64), .long (100000 : Int64), .long (1000000 : Int64), .long (10000000 : Int64), .long (100000000 : Int64), .long (1000000000 : Int64), .long (10000000000 : Int64), .long (100000000000 : Int64), .long (1000000000000 : Int64), .long (10000000000000 : Int64), .long (100000000000000 : Int64), .long (1000000000000000 : Int64), .long (10000000000000000 : Int64), .long (100000000000000000 : Int64), .long (1000000000000000000 : Int64)]))] 201 [.val (.long a), .second, .val (.ref o), .val (.int n17)] [] := by
                                    intro n17 hn17
                                    have en17 := own_st (k := 16) h0 rfl en16 hn17
                                    refine C.lloadN (q := 202) d3_201 rfl rfl ?_
                                    refine C.aloadN (q := 203) d3_202 rfl rfl rfl ?_
                                    refine C.bipush (q := 205) (z := (18 : Int32)) d3_203 rfl rfl ?_
                                    refine C.laload (q := 206) 0 (v := .long (1000000000000000000 : Int64)) d3_205 rfl (by decide) rfl rfl ?_
                                    have J206 : ∀ (n18 : Int32), n18 = (if a < (1000000000000000000 : Int64) then n17 else (n17 + (1 : Int32))) → G 0 0 [(o, .inl (.long, [.long (1 : Int64), .long (10 : Int64), .long (100 : Int64), .long (1000 : Int64), .long (10000 : Int64), .long (100000 : Int64), .long (1000000 : Int64), .long (10000000 : Int64), .long (100000000 : Int64), .long (1000000000 : Int64), .long (10000000000 : Int64), .long (100000000000 : Int64), .long (1000000000000 : Int64), .long (10000000000000 : Int64), .long (100000000000000 : Int64), .long (1000000000000000 : Int64), .long (10000000000000000 : Int64), .long (100000000000000000 : Int64), .long (1000000000000000000 : Int64)]))] 213 [.val (.long a), .second, .val (.ref o), .val (.int n18)] [] := by
                                      intro n18 hn18
                                      have en18 := own_st (k := 17) h0 rfl en17 hn18
                                      refine C.iloadN (q := 214) d3_213 rfl rfl ?_
                                      exact C.retI d3_214 (by decide) (by decide) ⟨congrArg (fun z => some (Value.int z)) en18, rfl⟩
                                    refine C.lcmpLt (q := 213) (q' := 210) (q1 := 207) d3_206 rfl d3_207 (by decide) (by decide) rfl (fun h206 => ?_) (fun h206 => ?_)
                                    · skip
                                      exact J206 _ (if_pos h206).symm
                                    · refine C.iinc (q := 213) (z := (1 : Int32)) (ls' := [.val (.long a), .second, .val (.ref o), .val (.int (n17 + (1 : Int32)))]) d3_210 rfl rfl rfl rfl ?_
                                      exact J206 _ (if_neg h206).symm
                                  refine C.lcmpLt (q := 201) (q' := 198) (q1 := 195) d3_194 rfl d3_195 (by decide) (by decide) rfl (fun h194 => ?_) (fun h194 => ?_)
                                  · skip
                                    exact J194 _ (if_pos h194).symm
                                  · refine C.iinc (q := 201) (z := (1 : Int32)) (ls' := [.val (.long a), .second, .val (.ref o), .val (.int (n16 + (1 : Int32)))]) d3_198 rfl rfl rfl rfl ?_
                                    exact J194 _ (if_neg h194).symm
                                refine C.lcmpLt (q := 189) (q' := 186) (q1 := 183) d3_182 rfl d3_183 (by decide) (by decide) rfl (fun h182 => ?_) (fun h182 => ?_)
                                · skip
                                  exact J182 _ (if_pos h182).symm
                                · refine C.iinc (q := 189) (z := (1 : Int32)) (ls' := [.val (.long a), .second, .val (.ref o), .val (.int (n15 + (1 : Int32)))]) d3_186 rfl rfl rfl rfl ?_
                                  exact J182 _ (if_neg h182).symm
                              refine C.lcmpLt (q := 177) (q' := 174) (q1 := 171) d3_170 rfl d3_171 (by decide) (by decide) rfl (fun h170 => ?_) (fun h170 => ?_)
                              · skip
                                exact J170 _ (if_pos h170).symm
                              · refine C.iinc (q := 177) (z := (1 : Int32)) (ls' := [.val (.long a), .second, .val (.ref o), .val (.int (n14 + (1 : Int32)))]) d3_174 rfl rfl rfl rfl ?_
                                exact J170 _ (if_neg h170).symm
                            refine C.lcmpLt (q := 165) (q' := 162) (q1 := 159) d3_158 rfl d3_159 (by decide) (by decide) rfl (fun h158 => ?_) (fun h158 => ?_)
                            · skip
                              exact J158 _ (if_pos h158).symm
                            · refine C.iinc (q := 165) (z := (1 : Int32)) (ls' := [.val (.long a), .second, .val (.ref o), .val (.int (n13 + (1 : Int32)))]) d3_162 rfl rfl rfl rfl ?_
                              exact J158 _ (if_neg h158).symm
                          refine C.lcmpLt (q := 153) (q' := 150) (q1 := 147) d3_146 rfl d3_147 (by decide) (by decide) rfl (fun h146 => ?_) (fun h146 => ?_)
                          · skip
                            exact J146 _ (if_pos h146).symm
                          · refine C.iinc (q := 153) (z := (1 : Int32)) (ls' := [.val (.long a), .second, .val (.ref o), .val (.int (n12 + (1 : Int32)))]) d3_150 rfl rfl rfl rfl ?_
                            exact J146 _ (if_neg h146).symm
                        refine C.lcmpLt (q := 141) (q' := 138) (q1 := 135) d3_134 rfl d3_135 (by decide) (by decide) rfl (fun h134 => ?_) (fun h134 => ?_)
                        · skip
                          exact J134 _ (if_pos h134).symm
                        · refine C.iinc (q := 141) (z := (1 : Int32)) (ls' := [.val (.long a), .second, .val (.ref o), .val (.int (n11 + (1 : Int32)))]) d3_138 rfl rfl rfl rfl ?_
                          exact J134 _ (if_neg h134).symm
                      refine C.lcmpLt (q := 129) (q' := 126) (q1 := 123) d3_122 rfl d3_123 (by decide) (by decide) rfl (fun h122 => ?_) (fun h122 => ?_)
                      · skip
                        exact J122 _ (if_pos h122).symm
                      · refine C.iinc (q := 129) (z := (1 : Int32)) (ls' := [.val (.long a), .second, .val (.ref o), .val (.int (n10 + (1 : Int32)))]) d3_126 rfl rfl rfl rfl ?_
                        exact J122 _ (if_neg h122).symm
                    refine C.lcmpLt (q := 117) (q' := 114) (q1 := 111) d3_110 rfl d3_111 (by decide) (by decide) rfl (fun h110 => ?_) (fun h110 => ?_)
                    · skip
                      exact J110 _ (if_pos h110).symm
                    · refine C.iinc (q := 117) (z := (1 : Int32)) (ls' := [.val (.long a), .second, .val (.ref o), .val (.int (n9 + (1 : Int32)))]) d3_114 rfl rfl rfl rfl ?_
                      exact J110 _ (if_neg h110).symm
                  refine C.lcmpLt (q := 105) (q' := 102) (q1 := 99) d3_98 rfl d3_99 (by decide) (by decide) rfl (fun h98 => ?_) (fun h98 => ?_)
                  · skip
                    exact J98 _ (if_pos h98).symm
                  · refine C.iinc (q := 105) (z := (1 : Int32)) (ls' := [.val (.long a), .second, .val (.ref o), .val (.int (n8 + (1 : Int32)))]) d3_102 rfl rfl rfl rfl ?_
                    exact J98 _ (if_neg h98).symm
                refine C.lcmpLt (q := 93) (q' := 90) (q1 := 87) d3_86 rfl d3_87 (by decide) (by decide) rfl (fun h86 => ?_) (fun h86 => ?_)
                · skip
                  exact J86 _ (if_pos h86).symm
                · refine C.iinc (q := 93) (z := (1 : Int32)) (ls' := [.val (.long a), .second, .val (.ref o), .val (.int (n7 + (1 : Int32)))]) d3_90 rfl rfl rfl rfl ?_
                  exact J86 _ (if_neg h86).symm
              refine C.lcmpLt (q := 81) (q' := 78) (q1 := 75) d3_74 rfl d3_75 (by decide) (by decide) rfl (fun h74 => ?_) (fun h74 => ?_)
              · skip
                exact J74 _ (if_pos h74).symm
              · refine C.iinc (q := 81) (z := (1 : Int32)) (ls' := [.val (.long a), .second, .val (.ref o), .val (.int (n6 + (1 : Int32)))]) d3_78 rfl rfl rfl rfl ?_
                exact J74 _ (if_neg h74).symm
            refine C.lcmpLt (q := 69) (q' := 66) (q1 := 63) d3_62 rfl d3_63 (by decide) (by decide) rfl (fun h62 => ?_) (fun h62 => ?_)
            · skip
              exact J62 _ (if_pos h62).symm
            · refine C.iinc (q := 69) (z := (1 : Int32)) (ls' := [.val (.long a), .second, .val (.ref o), .val (.int (n5 + (1 : Int32)))]) d3_66 rfl rfl rfl rfl ?_
              exact J62 _ (if_neg h62).symm
          refine C.lcmpLt (q := 57) (q' := 54) (q1 := 51) d3_50 rfl d3_51 (by decide) (by decide) rfl (fun h50 => ?_) (fun h50 => ?_)
          · skip
            exact J50 _ (if_pos h50).symm
          · refine C.iinc (q := 57) (z := (1 : Int32)) (ls' := [.val (.long a), .second, .val (.ref o), .val (.int (n4 + (1 : Int32)))]) d3_54 rfl rfl rfl rfl ?_
            exact J50 _ (if_neg h50).symm
        refine C.lcmpLt (q := 46) (q' := 43) (q1 := 40) d3_39 rfl d3_40 (by decide) (by decide) rfl (fun h39 => ?_) (fun h39 => ?_)
        · skip
          exact J39 _ (if_pos h39).symm
        · refine C.iinc (q := 46) (z := (1 : Int32)) (ls' := [.val (.long a), .second, .val (.ref o), .val (.int (n3 + (1 : Int32)))]) d3_43 rfl rfl rfl rfl ?_
          exact J39 _ (if_neg h39).symm
      refine C.lcmpLt (q := 35) (q' := 32) (q1 := 29) d3_28 rfl d3_29 (by decide) (by decide) rfl (fun h28 => ?_) (fun h28 => ?_)
      · skip
        exact J28 _ (if_pos h28).symm
      · refine C.iinc (q := 35) (z := (1 : Int32)) (ls' := [.val (.long a), .second, .val (.ref o), .val (.int (n2 + (1 : Int32)))]) d3_32 rfl rfl rfl rfl ?_
        exact J28 _ (if_neg h28).symm
    refine C.lcmpLt (q := 24) (q' := 21) (q1 := 18) d3_17 rfl d3_18 (by decide) (by decide) rfl (fun h17 => ?_) (fun h17 => ?_)
    · skip
      exact J17 _ (if_pos h17).symm
    · refine C.iinc (q := 24) (z := (1 : Int32)) (ls' := [.val (.long a), .second, .val (.ref o), .val (.int (n1 + (1 : Int32)))]) d3_21 rfl rfl rfl rfl ?_
      exact J17 _ (if_neg h17).symm
  refine C.lcmpLt (q := 13) (q' := 10) (q1 := 7) d3_6 rfl d3_7 (by decide) (by decide) rfl (fun h6 => ?_) (fun h6 => ?_)
  · skip
    exact J6 _ (if_pos h6).symm
  · refine C.iinc (q := 13) (z := (1 : Int32)) (ls' := [.val (.long a), .second, .val (.ref o), .val (.int ((1 : Int32) + (1 : Int32)))]) d3_10 rfl rfl rfl rfl ?_
    show G 0 0 [(o, .inl (.long, [.long (1 : Int64), .long (10 : Int64), .long (100 : Int64), .long (1000 : Int64), .long (10000 : Int64), .long (100000 : Int64), .long (1000000 : Int64), .long (10000000 : Int64), .long (100000000 : Int64), .long (1000000000 : Int64), .long (10000000000 : Int64), .long (100000000000 : Int64), .long (1000000000000 : Int64), .long (10000000000000 : Int64), .long (100000000000000 : Int64), .long (1000000000000000 : Int64), .long (10000000000000000 : Int64), .long (100000000000000000 : Int64), .long (1000000000000000000 : Int64)]))] 13 [.val (.long a), .second, .val (.ref o), .val (.int (2 : Int32))] []
    exact J6 _ (if_neg h6).symm
theorem own_pnlaw : plainFor x = true := by first | exact plainFor_of_name (by first | (simp [plainName, overriddenIn]; done) | decide +kernel) | decide +kernel
set_option maxHeartbeats 4000000 in
theorem own_eflaw (m : MethodId) (x0 : Int64) (x1 : Int32) (x2 : Int32) (x3 : Int32) : entryFrame m #[.long x0, .int x1, .int x2, .int x3] maxLocals = mkF m 0 #[.val (.long x0), .second, .val (.int x1), .val (.int x2), .val (.int x3), .unset, .unset, .unset, .unset] [] := by first | (simp [entryFrame, mkF, argsToLocals, Value.category, maxLocals]; done) | rfl
set_option maxRecDepth 65536 in
set_option maxHeartbeats 40000000 in
theorem own_claw (l : Launch) (Z : State) (a0 : Array Value) (n0 : Nat) (hw : ∀ d ∈ tables_1, d.before a0 Z = true) (ws : List Jvm.Cond) (a : Int64) (b c d : Int32)  :
    own_Con l Z n0 x code maxLocals ret ws room_1 #[.long a, .int b, .int c, .int d] [] (fun v _ => v = some (.int 1)) := by
  refine own_con own_pnlaw (fun m_ => own_eflaw m_ a b c d) ?_
  intro G C
  refine C.callS (q := 3) 0 [] [] at_0 (hw _ (List.mem_of_getElem? (i := 0) rfl)) (hw _ (List.mem_of_getElem? (i := 1) rfl)) (hw _ (List.mem_of_getElem? (i := 2) rfl)) (hw _ (List.mem_of_getElem? (i := 3) rfl)) (own_c1 l Z a0 n0 hw []) (by decide) (by decide) (by decide) own_pd0 rfl rfl rfl (Nat.le_of_eq rfl) (by decide) (by decide) rfl ?_
  rintro _ _ ⟨pp, rfl, rfl⟩
  show G 1 19 [(pp, .inl (.long, [.long (1 : Int64), .long (10 : Int64), .long (100 : Int64), .long (1000 : Int64), .long (10000 : Int64), .long (100000 : Int64), .long (1000000 : Int64), .long (10000000 : Int64), .long (100000000 : Int64), .long (1000000000 : Int64), .long (10000000000 : Int64), .long (100000000000 : Int64), .long (1000000000000 : Int64), .long (10000000000000 : Int64), .long (100000000000000 : Int64), .long (1000000000000000 : Int64), .long (10000000000000000 : Int64), .long (100000000000000000 : Int64), .long (1000000000000000000 : Int64)]))] 3 [.val (.long a), .second, .val (.int b), .val (.int c), .val (.int d), .unset, .unset, .unset, .unset] [.ref pp]
  refine C.astore (q := 5) (ls' := [.val (.long a), .second, .val (.int b), .val (.int c), .val (.int d), .val (.ref pp), .unset, .unset, .unset]) at_3 rfl rfl rfl ?_
  refine C.iload (q := 7) at_5 rfl rfl ?_
  refine C.iconst (q := 8) (z := (1 : Int32)) at_7 rfl rfl ?_
  refine C.iand (q := 9) at_8 rfl ?_
  have J9 : ∀ (v : Int64) (s9_1 : Slot), (0 ≤ v.toInt) → G 1 19 [(pp, .inl (.long, [.long (1 : Int64), .long (10 : Int64), .long (100 : Int64), .long (1000 : Int64), .long (10000 : Int64), .long (100000 : Int64), .long (1000000 : Int64), .long (10000000 : Int64), .long (100000000 : Int64), .long (1000000000 : Int64), .long (10000000000 : Int64), .long (100000000000 : Int64), .long (1000000000000 : Int64), .long (10000000000000 : Int64), .long (100000000000000 : Int64), .long (1000000000000000 : Int64), .long (10000000000000000 : Int64), .long (100000000000000000 : Int64), .long (1000000000000000000 : Int64)]))] 53 [.val (.long a), .second, .val (.int b), .val (.int c), .val (.int d), .val (.ref pp), .val (.long v), .second, s9_1] [] := by
    intro v s9_1 hv
    refine C.lload (q := 55) at_53 rfl rfl ?_
    refine C.callS (q := 58) 0 [.long v] [] at_55 (hw _ (List.mem_of_getElem? (i := 15) rfl)) (hw _ (List.mem_of_getElem? (i := 16) rfl)) (hw _ (List.mem_of_getElem? (i := 17) rfl)) (hw _ (List.mem_of_getElem? (i := 18) rfl)) (own_c2 l Z a0 n0 hw [] v [(pp, .inl (.long, [.long (1 : Int64), .long (10 : Int64), .long (100 : Int64), .long (1000 : Int64), .long (10000 : Int64), .long (100000 : Int64), .long (1000000 : Int64), .long (10000000 : Int64), .long (100000000 : Int64), .long (1000000000 : Int64), .long (10000000000 : Int64), .long (100000000000 : Int64), .long (1000000000000 : Int64), .long (10000000000000 : Int64), .long (100000000000000 : Int64), .long (1000000000000000 : Int64), .long (10000000000000000 : Int64), .long (100000000000000000 : Int64), .long (1000000000000000000 : Int64)]))] hv) (by decide) (by decide) (by decide) own_pd1 rfl rfl rfl (Nat.le_of_eq rfl) (by decide) (by decide) rfl ?_
    rintro _ _ ⟨rfl, hE⟩
    rw [hE]
    show G 1 19 [(pp, .inl (.long, [.long (1 : Int64), .long (10 : Int64), .long (100 : Int64), .long (1000 : Int64), .long (10000 : Int64), .long (100000 : Int64), .long (1000000 : Int64), .long (10000000 : Int64), .long (100000000 : Int64), .long (1000000000 : Int64), .long (10000000000 : Int64), .long (100000000000 : Int64), .long (1000000000000 : Int64), .long (10000000000000 : Int64), .long (100000000000000 : Int64), .long (1000000000000000 : Int64), .long (10000000000000000 : Int64), .long (100000000000000000 : Int64), .long (1000000000000000000 : Int64)]))] 58 [.val (.long a), .second, .val (.int b), .val (.int c), .val (.int d), .val (.ref pp), .val (.long v), .second, s9_1] [.int (Int32.ofNat (own_r 18 v.toInt.toNat))]
    refine C.lload (q := 60) at_58 rfl rfl ?_
    refine C.aload (q := 62) at_60 rfl rfl rfl ?_
    refine C.callS (q := 65) 1 [.long v, .ref pp] [.int (Int32.ofNat (own_r 18 v.toInt.toNat))] at_62 (hw _ (List.mem_of_getElem? (i := 20) rfl)) (hw _ (List.mem_of_getElem? (i := 21) rfl)) (hw _ (List.mem_of_getElem? (i := 2) rfl)) (hw _ (List.mem_of_getElem? (i := 22) rfl)) (own_c3 l Z a0 n0 hw [] v pp hv) (by decide) (by decide) (by decide) own_pd2 rfl rfl rfl (Nat.le_of_eq rfl) (by decide) (by decide) rfl ?_
    rintro _ _ ⟨rfl, hE⟩
    rw [hE]
    show G 1 19 [(pp, .inl (.long, [.long (1 : Int64), .long (10 : Int64), .long (100 : Int64), .long (1000 : Int64), .long (10000 : Int64), .long (100000 : Int64), .long (1000000 : Int64), .long (10000000 : Int64), .long (100000000 : Int64), .long (1000000000 : Int64), .long (10000000000 : Int64), .long (100000000000 : Int64), .long (1000000000000 : Int64), .long (10000000000000 : Int64), .long (100000000000000 : Int64), .long (1000000000000000 : Int64), .long (10000000000000000 : Int64), .long (100000000000000000 : Int64), .long (1000000000000000000 : Int64)]))] 65 [.val (.long a), .second, .val (.int b), .val (.int c), .val (.int d), .val (.ref pp), .val (.long v), .second, s9_1] [.int (Int32.ofNat (own_r 18 v.toInt.toNat)), .int (Int32.ofNat (own_r 18 v.toInt.toNat))]
    refine C.icmpNe (q := 72) (q' := 68) at_65 (by decide) (by decide) rfl (fun h65 => ?_) (fun h65 => absurd (rfl) h65)
    refine C.iconst (q := 69) (z := (1 : Int32)) at_68 rfl rfl ?_
    refine C.goto (q := 73) at_69 (by decide) (by decide) ?_
    exact C.retB (by simp) at_73 (by decide) (by decide) rfl
  refine C.ifEq (q := 41) (q' := 12) at_9 (by decide) (by decide) rfl (fun h9 => ?_) (fun h9 => ?_)
  · refine C.lloadN (q := 42) at_41 rfl rfl ?_
    refine C.ldc2 (q := 45) (v := (9223372036854775807 : Int64)) at_42 (hw _ (List.mem_of_getElem? (i := 14) rfl)) rfl ?_
    refine C.land (q := 46) at_45 rfl ?_
    refine C.iloadN (q := 47) at_46 rfl rfl ?_
    refine C.bipush (q := 49) (z := (63 : Int32)) at_47 rfl rfl ?_
    refine C.iand (q := 50) at_49 rfl ?_
    refine C.lushr (q := 51) at_50 rfl ?_
    refine C.lstore (q := 53) (ls' := [.val (.long a), .second, .val (.int b), .val (.int c), .val (.int d), .val (.ref pp), .val (.long (((a &&& (9223372036854775807 : Int64)).toUInt64 >>> ((b &&& (63 : Int32)) &&& 0x3f).toInt64.toUInt64).toInt64)), .second, .unset]) at_51 rfl rfl ?_
    exact J9 _ _ (own_ush (own_nn a) _)
  · refine C.iloadN (q := 13) at_12 rfl rfl ?_
    refine C.ldc (q := 15) (v := (2147483647 : Int32)) at_13 (hw _ (List.mem_of_getElem? (i := 23) rfl)) rfl ?_
    refine C.iand (q := 16) at_15 rfl ?_
    refine C.bipush (q := 18) (z := (19 : Int32)) at_16 rfl rfl ?_
    refine C.irem (q := 19) at_18 (by decide) rfl ?_
    refine C.istore (q := 21) (ls' := [.val (.long a), .second, .val (.int b), .val (.int c), .val (.int d), .val (.ref pp), .unset, .unset, .val (.int ((c &&& (2147483647 : Int32)) % (19 : Int32)))]) at_19 rfl rfl ?_
    generalize hii : ((c &&& (2147483647 : Int32)) % (19 : Int32)) = ii
    have hi := own_i19 c
    rw [hii] at hi
    refine C.aload (q := 23) at_21 rfl rfl rfl ?_
    refine C.iload (q := 25) at_23 rfl rfl ?_
    obtain ⟨z, hz1, hz2⟩ := own_at19 hi.1 hi.2
    refine C.laload (q := 26) 0 (v := .long z) at_25 rfl (by rw [Int32.lt_iff_toInt_lt]; simp only [Int32.reduceToInt]; omega) hz2 rfl ?_
    refine C.lconst (q := 27) (z := (1 : Int64)) at_26 rfl rfl ?_
    refine C.lsub (q := 28) at_27 rfl ?_
    refine C.iload (q := 30) at_28 rfl rfl ?_
    refine C.iconst (q := 31) (z := (1 : Int32)) at_30 rfl rfl ?_
    refine C.ishr (q := 32) at_31 rfl ?_
    refine C.iconst (q := 33) (z := (1 : Int32)) at_32 rfl rfl ?_
    refine C.iand (q := 34) at_33 rfl ?_
    refine C.i2l (q := 35) at_34 rfl ?_
    refine C.ladd (q := 36) at_35 rfl ?_
    refine C.lstore (q := 38) (ls' := [.val (.long a), .second, .val (.int b), .val (.int c), .val (.int d), .val (.ref pp), .val (.long ((z - (1 : Int64)) + (((d >>> ((1 : Int32) &&& 31)) &&& (1 : Int32)).toInt64))), .second, .val (.int ii)]) at_36 rfl rfl ?_
    refine C.goto (q := 53) at_38 (by decide) (by decide) ?_
    exact J9 _ _ (own_v1 hz1 _)
set_option maxRecDepth 65536 in
set_option maxHeartbeats 40000000 in
theorem comes_1 {Post : Tables → Env → Array Value → State → Outcome → State → Prop} (hpost : ∀ tb e args s v u, (limb_1_1.after args s (.returned v) u = true ∧ limb_1_2.after args s (.returned v) u = true ∧ True) → FrameEnd s (.returned v) u (Jvm.fieldLocs frame_1_writes args s ++ Jvm.arrayLocs frame_1_arrays args s ++ Jvm.staticLocs frame_1_statics s) 16 128 → Post tb e args s (.returned v) u) :
    ArmFor flags0 classFile x code maxLocals ret World_1 tables_1 room_1 Calls_1 rest_1 Pre_1 Post := by
  intro l hfl _ _ p e ha hc hk s m args below hf hA hF happ hP
  obtain ⟨hcalls, hrest, hpre⟩ := hP
  obtain ⟨-, -, -, hnamed, -, -, -, hat⟩ := (Spec.applies_iff hf).mp happ
  obtain ⟨hg, hn⟩ := and_e (Cond.before_iff.mp (show (Jvm.Cond.and given_1 narrow_1).before args s = true from hpre))
  obtain ⟨hcnt, g0⟩ := and_e hg
  obtain ⟨q0, g1⟩ := and_e g0
  obtain ⟨q1, g2⟩ := and_e g1
  obtain ⟨q2, g3⟩ := and_e g2
  obtain ⟨w0, w1, w2, w3, rfl⟩ : ∃ w0 w1 w2 w3 : Value, args = #[w0, w1, w2, w3] := by
    have hs : args.size = 4 := by simpa [Cond.value, given_1] using hcnt
    obtain ⟨L⟩ := args
    match L, hs with
    | [w0, w1, w2, w3], _ => exact ⟨w0, w1, w2, w3, rfl⟩
  have hw := fun d (hd : d ∈ tables_1) => atoms_spec (ws := Jvm.Cond.code x code maxLocals ret :: tables_1) hat d (List.mem_cons_of_mem _ hd)
  obtain ⟨i0, e0⟩ := isL_v q0
  obtain rfl : w0 = (.long i0) := Option.some.inj e0
  obtain ⟨i1, e1⟩ := is_v q1
  obtain rfl : w1 = (.int i1) := Option.some.inj e1
  obtain ⟨i2, e2⟩ := is_v q2
  obtain rfl : w2 = (.int i2) := Option.some.inj e2
  obtain ⟨i3, e3⟩ := is_v g3
  obtain rfl : w3 = (.int i3) := Option.some.inj e3
  obtain ⟨n, o, h1, h2, h3, _, L, rfl, ⟨N, H', hH', hv⟩, hq⟩ := own_claw l s _ s.heap.size hw tables_1 i0 i1 i2 i3  s.heap ⟨Nat.le_refl _, fun i j a o o' z => by simp at z, fun i a o z => by simp at z⟩ p e ha hc hk s m _ below hf ((Spec.applies_iff_loose hf).mp happ).1 ⟨rfl, State.Warmed39.refl s, rfl⟩ trivial
  cases hv
  refine ⟨n, _, h1, h2, h3, hpost _ _ _ _ _ _ ⟨Cond.after_iff.mpr rfl, Cond.after_iff.mpr (eq_i res_at (Term.int_eval (1)) rfl), trivial⟩ ⟨hq.1, hq.2.1, (hq.2.2.sift fun y hy => Or.inr (N y hy)).mono (by decide) (by decide)⟩⟩
theorem main_1_1 : Claimed_1_1 := comes_1 fun _ _ _ _ _ _ h hF => ⟨h.1, hF⟩
theorem main_1_2 : Claimed_1_2 := comes_1 fun _ _ _ _ _ _ h hF => ⟨h.2.1, hF⟩
end Jvm.Pilot.@@N@@
namespace Jvm.Pilot.@@N@@
open Jvm Jvm.ClassFile Sem Op Lib Jvm.Free Jvm.Stand Jvm.Pilot.@@N@@.Jvm.D
/-! MADE BY PROGRAM (witnessworld.py) out of the Statement's table words and the real class files: 11 classes; the members and pool entries that the words name. The judged class is class 1, her method 3. -/
namespace start1
open Jvm.ClassFile
def u (s : String) : CpInfo := .utf8 (stringToUtf16 s)
/-- a pool by its gaps: so many unusable entries, then the entry; so many at the end -/
def gap : Nat → List CpInfo → List CpInfo
  | 0, r => r
  | n + 1, r => .unusable :: gap n r
def poolList (es : List (Nat × CpInfo)) (last : Nat) : List CpInfo := es.foldr (fun e r => gap e.1 (e.2 :: r)) (gap last [])
def pool (es : List (Nat × CpInfo)) (last : Nat) : Array CpInfo := ⟨poolList es last⟩
def fileOf (pool : Array CpInfo) (this : Nat) (attrs : Array Attribute := #[]) (ms : Array MethodInfo := #[]) (fl : Nat := 33) (sup : Nat := 0) (ifs : Array Nat := #[]) (fds : Array FieldInfo := #[]) : ClassFile where
  minorVersion := 0
  majorVersion := 65
  constantPool := pool
  accessFlags := fl
  thisClass := this
  superClass := sup
  interfaces := ifs
  fields := fds
  methods := ms
  attributes := attrs
def plain (name : String) (sup : Option ClassId) : Class where
  name := name
  kind := .ordinary
  loader := none
  accessFlags := 33
  super := sup
  interfaces := #[]
  cf := none
  fields := #[]
  methods := #[]
  instanceTypes := #[]
  staticTypes := #[]
  resolved := #[]
  callSites := []
  init := .initialized
  statics := none
  mirror := none

def pool0 : Array CpInfo := pool [(5, u "<init>"), (0, u "()V"), (1, .class_ 10), (1, u "java/lang/Object")] 113

def k0m0 : Method := { name := "<init>", desc := "()V", sig := { parameters := [], returnType := none }, accessFlags := 1, code := none }
/-- java/lang/Object -/
def k0 : Class := { plain "java/lang/Object" none with
  accessFlags := 33
  interfaces := #[]
  cf := some (fileOf pool0 8 #[] #[{ accessFlags := 1, nameIndex := 5, descriptorIndex := 6, attributes := #[] }] 33 0 #[] #[])
  fields := #[]
  methods := #[k0m0]
  instanceTypes := #[]
  staticTypes := #[]
  resolved := Array.replicate 124 none
  statics := none }

def pool1 : Array CpInfo := pool [(2, .class_ 4), (1, u "java/lang/Object"), (0, u "<init>"), (0, u "()V"), (0, .long 1000000000), (1, .long 10), (1, .long 100), (1, .long 1000), (1, .long 10000), (1, .long 100000), (1, .long 1000000), (1, .long 10000000), (1, .long 100000000), (1, .methodref 26 27), (0, .class_ 28), (0, .nameAndType 29 30), (0, u "com/example/bowerbird/bowerbird/http/server/AsciiDigitsCountPinLaw"), (0, u "powers"), (0, u "()[J"), (0, .integer 2147483647), (2, .long 9223372036854775807), (1, .methodref 37 38), (0, .class_ 39), (0, .nameAndType 40 41), (0, u "com/example/bowerbird/bowerbird/http/server/AsciiDigits"), (0, u "count"), (0, u "(J)I"), (0, .methodref 26 43), (0, .nameAndType 44 45), (0, u "ref"), (0, u "(J[J)I"), (3, u "law"), (0, u "(JIII)Z")] 4

def k1m0 : Method := { name := "<init>", desc := "()V", sig := { parameters := [], returnType := none }, accessFlags := 2, code := none }
def k1c1 : Code := { maxStack := 7, maxLocals := 3, code := method_2_code, exceptionTable := #[], attributes := #[] }
def k1m1 : Method := { name := "powers", desc := "()[J", sig := { parameters := [], returnType := some (.array .long) }, accessFlags := 10, code := some k1c1 }
def k1c2 : Code := { maxStack := 4, maxLocals := 4, code := method_3_code, exceptionTable := #[], attributes := #[] }
def k1m2 : Method := { name := "ref", desc := "(J[J)I", sig := { parameters := [.long, (.array .long)], returnType := some .int }, accessFlags := 10, code := some k1c2 }
def k1c3 : Code := { maxStack := 4, maxLocals := 9, code := code, exceptionTable := #[], attributes := #[] }
def k1m3 : Method := { name := "law", desc := "(JIII)Z", sig := { parameters := [.long, .int, .int, .int], returnType := some .boolean }, accessFlags := 9, code := some k1c3 }
/-- com/example/bowerbird/bowerbird/http/server/AsciiDigitsCountPinLaw -/
def k1 : Class := { plain "com/example/bowerbird/bowerbird/http/server/AsciiDigitsCountPinLaw" (some 0) with
  accessFlags := 49
  interfaces := #[]
  cf := some (fileOf pool1 26 #[] #[{ accessFlags := 2, nameIndex := 5, descriptorIndex := 6, attributes := #[] }, { accessFlags := 10, nameIndex := 29, descriptorIndex := 30, attributes := #[] }, { accessFlags := 10, nameIndex := 44, descriptorIndex := 45, attributes := #[] }, { accessFlags := 9, nameIndex := 49, descriptorIndex := 50, attributes := #[] }] 49 2 #[] #[])
  fields := #[]
  methods := #[k1m0, k1m1, k1m2, k1m3]
  instanceTypes := #[]
  staticTypes := #[]
  resolved := Array.replicate 55 none
  statics := none }

def pool2 : Array CpInfo := pool [(2, .class_ 4), (1, u "java/lang/Object"), (0, u "<init>"), (0, u "()V"), (0, .long 10), (2, .class_ 12), (1, u "com/example/bowerbird/bowerbird/http/server/AsciiDigits"), (0, u "count"), (0, u "(J)I")] 9

def k2m0 : Method := { name := "<init>", desc := "()V", sig := { parameters := [], returnType := none }, accessFlags := 2, code := none }
def k2c1 : Code := { maxStack := 4, maxLocals := 5, code := prog_64_method_2_code, exceptionTable := #[], attributes := #[] }
def k2m1 : Method := { name := "count", desc := "(J)I", sig := { parameters := [.long], returnType := some .int }, accessFlags := 9, code := some k2c1 }
/-- com/example/bowerbird/bowerbird/http/server/AsciiDigits -/
def k2 : Class := { plain "com/example/bowerbird/bowerbird/http/server/AsciiDigits" (some 0) with
  accessFlags := 33
  interfaces := #[]
  cf := some (fileOf pool2 10 #[] #[{ accessFlags := 2, nameIndex := 5, descriptorIndex := 6, attributes := #[] }, { accessFlags := 9, nameIndex := 13, descriptorIndex := 14, attributes := #[] }] 33 2 #[] #[])
  fields := #[]
  methods := #[k2m0, k2m1]
  instanceTypes := #[]
  staticTypes := #[]
  resolved := Array.replicate 24 none
  statics := none }

def pool3 : Array CpInfo := pool [(1, u "java/lang/Cloneable"), (0, .class_ 1), (0, u "java/lang/Object"), (0, .class_ 3)] 3

/-- java/lang/Cloneable -/
def k3 : Class := { plain "java/lang/Cloneable" (some 0) with
  accessFlags := 1537
  interfaces := #[]
  cf := some (fileOf pool3 2 #[] #[] 1537 4 #[] #[])
  fields := #[]
  methods := #[]
  instanceTypes := #[]
  staticTypes := #[]
  resolved := Array.replicate 8 none
  statics := none }

def pool4 : Array CpInfo := pool [(1, u "java/io/Serializable"), (0, .class_ 1), (0, u "java/lang/Object"), (0, .class_ 3)] 3

/-- java/io/Serializable -/
def k4 : Class := { plain "java/io/Serializable" (some 0) with
  accessFlags := 1537
  interfaces := #[]
  cf := some (fileOf pool4 2 #[] #[] 1537 4 #[] #[])
  fields := #[]
  methods := #[]
  instanceTypes := #[]
  staticTypes := #[]
  resolved := Array.replicate 8 none
  statics := none }

/-- the primitive byte -/
def k5 : Class := { plain "byte" none with kind := .primitive 'B', accessFlags := 0x411 }
/-- [B -/
def k6 : Class := { plain "[B" (some 0) with kind := .array 5 .byte, interfaces := #[3, 4], accessFlags := 1041 }

/-- the primitive int -/
def k7 : Class := { plain "int" none with kind := .primitive 'I', accessFlags := 0x411 }
/-- [I -/
def k8 : Class := { plain "[I" (some 0) with kind := .array 7 .int, interfaces := #[3, 4], accessFlags := 1041 }

/-- the primitive long -/
def k9 : Class := { plain "long" none with kind := .primitive 'J', accessFlags := 0x411 }
/-- [J -/
def k10 : Class := { plain "[J" (some 0) with kind := .array 9 .long, interfaces := #[3, 4], accessFlags := 1041 }

def heap : Heap := #[]
def classes : Array Class := #[k0, k1, k2, k3, k4, k5, k6, k7, k8, k9, k10]
def interned : List (Array UInt16 × Addr) := []
def slotsUsed : Nat := 0
def theMethod : MethodId := ⟨1, 3⟩
def args0 : Array Value := #[.long 5, .int 1, .int 2, .int 3]
def aboutOver (below : List Frame) : State where
  vm := { classes := classes, interned := interned.toArray }
  heap := heap
  slotsUsed := slotsUsed
  threads := #[{ frames := .invoking theMethod args0 :: below }]
def below0 : List Frame := [.native { method := ⟨0, 0⟩, args := #[] }]
def about1 : State := aboutOver below0
def p0 : Program := .bare "" "" ""
def e0 : Env := launch0.env 0 0 0
theorem w_frames : about1.frames = Frame.invoking theMethod args0 :: below0 := rfl
set_option maxRecDepth 65536 in
theorem w_args : argsFit about1.vm theMethod args0 = true := by decide +kernel
set_option maxRecDepth 65536 in
theorem w_heap : heapFits about1 = true := by decide +kernel
set_option maxRecDepth 65536 in
theorem w_runnable : about1.curStatus? = some .runnable := by decide +kernel
set_option maxRecDepth 65536 in
theorem w_alone : about1.alone = true := by decide +kernel
set_option maxRecDepth 65536 in
theorem w_named : about1.methodNamed? x = some theMethod := by decide +kernel
set_option maxRecDepth 65536 in
theorem w_hears : about1.hears theMethod below0 = true := by decide +kernel
set_option maxRecDepth 65536 in
theorem w_ripe : about1.ripe theMethod args0 below0 = true := by decide +kernel
theorem w_running : about1.status = .running := rfl
set_option maxRecDepth 65536 in
theorem w_room : about1.hasRoom e0.platform room_1 = true :=
  launch0.hasRoom_least _ room_1 (by decide +kernel) (by decide +kernel) (by decide +kernel) (by decide +kernel) (by decide +kernel) (by decide +kernel)
theorem allAtoms_all (ts : List Jvm.Cond) (a : Array Jvm.Value) (st : Jvm.State) : (allAtoms ts).before a st = ts.all (fun c => c.before a st) := by
  induction ts with
  | nil => rfl
  | cons c t ih =>
    show (Jvm.Cond.and c (allAtoms t)).before a st = _
    rw [Jvm.Cond.before_and, ih, List.all_cons]
def words1 : List Jvm.Cond := Jvm.Cond.code x code maxLocals ret :: tables_1
/-- a 'code' word, met by the world's own term for the bytes: nothing is compared byte by byte -/
theorem code_word {y : MethodName} {bytes : ByteArray} {mx : Nat} {rt : Option FieldType} {a : Array Value} {s : State} {m : MethodId} {meth : Method} {c : Code} (h1 : s.methodNamed? y = some m) (h2 : s.vm.method? m = some meth) (h3 : meth.code = some c) (h4 : c.code = bytes)
    (h5 : (c.maxLocals == mx && c.exceptionTable.isEmpty && decide (c.maxStack ≤ mostOperands) && decide (meth.sig.returnType = rt) && !meth.locks && decide (parseMethodDescriptor y.desc = some meth.sig)) = true) : (Jvm.Cond.code y bytes mx rt).before a s = true := by
  simp only [Bool.and_eq_true, beq_iff_eq, Bool.not_eq_true', decide_eq_true_eq] at h5
  obtain ⟨⟨⟨⟨⟨g1, g2⟩, g3⟩, g4⟩, g5⟩, g6⟩ := h5
  simp [Cond.before, Cond.holds, Cond.value, h1, h2, h3, h4, g1, g2, g3, g4, g5, g6]
def isCode : Jvm.Cond → Bool
  | .code _ _ _ _ => true
  | _ => false
theorem all_split {L : List Jvm.Cond} {P : Jvm.Cond → Bool} (h1 : L.all (fun c => isCode c || P c) = true) (h2 : ∀ c ∈ L.filter isCode, P c = true) : L.all P = true := by
  refine List.all_eq_true.mpr fun c hc => ?_
  have h := List.all_eq_true.mp h1 c hc
  rcases Bool.eq_false_or_eq_true (isCode c) with hi | hi
  · exact h2 c (List.mem_filter.mpr ⟨hc, hi⟩)
  · simpa [hi] using h
set_option maxRecDepth 65536 in
theorem w_c0 : (Jvm.Cond.code x code maxLocals ret).before args0 about1 = true := code_word (m := ⟨1, 3⟩) (meth := k1m3) (c := k1c3) (by decide +kernel) rfl rfl rfl (by decide +kernel)
set_option maxRecDepth 65536 in
theorem w_c1 : (Jvm.Cond.code ({ cls := "com/example/bowerbird/bowerbird/http/server/AsciiDigitsCountPinLaw", name := "powers", desc := "()[J" } : Jvm.MethodName) method_2_code (3 : Nat) (Option.some (Jvm.ClassFile.FieldType.array Jvm.ClassFile.FieldType.long))).before args0 about1 = true := code_word (m := ⟨1, 1⟩) (meth := k1m1) (c := k1c1) (by decide +kernel) rfl rfl rfl (by decide +kernel)
set_option maxRecDepth 65536 in
theorem w_c2 : (Jvm.Cond.code ({ cls := "com/example/bowerbird/bowerbird/http/server/AsciiDigits", name := "count", desc := "(J)I" } : Jvm.MethodName) prog_64_method_2_code (5 : Nat) (Option.some Jvm.ClassFile.FieldType.int)).before args0 about1 = true := code_word (m := ⟨2, 1⟩) (meth := k2m1) (c := k2c1) (by decide +kernel) rfl rfl rfl (by decide +kernel)
set_option maxRecDepth 65536 in
theorem w_c3 : (Jvm.Cond.code ({ cls := "com/example/bowerbird/bowerbird/http/server/AsciiDigitsCountPinLaw", name := "ref", desc := "(J[J)I" } : Jvm.MethodName) method_3_code (4 : Nat) (Option.some Jvm.ClassFile.FieldType.int)).before args0 about1 = true := code_word (m := ⟨1, 2⟩) (meth := k1m2) (c := k1c2) (by decide +kernel) rfl rfl rfl (by decide +kernel)
def codes1 : List Jvm.Cond := [Jvm.Cond.code x code maxLocals ret, Jvm.Cond.code ({ cls := "com/example/bowerbird/bowerbird/http/server/AsciiDigitsCountPinLaw", name := "powers", desc := "()[J" } : Jvm.MethodName) method_2_code (3 : Nat) (Option.some (Jvm.ClassFile.FieldType.array Jvm.ClassFile.FieldType.long)), Jvm.Cond.code ({ cls := "com/example/bowerbird/bowerbird/http/server/AsciiDigits", name := "count", desc := "(J)I" } : Jvm.MethodName) prog_64_method_2_code (5 : Nat) (Option.some Jvm.ClassFile.FieldType.int), Jvm.Cond.code ({ cls := "com/example/bowerbird/bowerbird/http/server/AsciiDigitsCountPinLaw", name := "ref", desc := "(J[J)I" } : Jvm.MethodName) method_3_code (4 : Nat) (Option.some Jvm.ClassFile.FieldType.int)]
set_option maxRecDepth 65536 in
theorem codes_eq : words1.filter isCode = codes1 := rfl
theorem w_codes : ∀ c ∈ words1.filter isCode, c.before args0 about1 = true := by
  rw [codes_eq]
  intro c hc
  simp only [codes1, List.mem_cons, List.not_mem_nil, or_false] at hc
  rcases hc with rfl | rfl | rfl | rfl
  · exact w_c0
  · exact w_c1
  · exact w_c2
  · exact w_c3
set_option maxRecDepth 65536 in
theorem w_t1 : (words1.take 24).all (fun c => isCode c || c.before args0 about1) = true := by decide +kernel
set_option maxRecDepth 65536 in
theorem w_t2 : (words1.drop 24).all (fun c => isCode c || c.before args0 about1) = true := by decide +kernel
theorem w_tables : (allAtoms (Jvm.Cond.code x code maxLocals ret :: tables_1)).before args0 about1 = true := by
  rw [allAtoms_all]
  show words1.all (fun c => c.before args0 about1) = true
  refine all_split ?_ w_codes
  rw [← List.take_append_drop 24 words1, List.all_append, w_t1, w_t2]
  rfl
set_option maxRecDepth 65536 in
theorem w_case : (Jvm.Cond.and given_1 narrow_1).before args0 about1 = true := by decide +kernel
theorem w_applies : (headSpec (Jvm.Cond.code x code maxLocals ret :: tables_1) room_1).applies x e0.platform about1 = true :=
  (Spec.applies_iff w_frames).mpr ⟨w_running, w_runnable, w_alone, w_named, w_hears, w_ripe, w_room, w_tables⟩
theorem atStart : AtStart classFile x code maxLocals ret World_1 tables_1 room_1 Calls_1 rest_1 Pre_1 launch0 p0 e0 about1 theMethod args0 below0 :=
  ⟨lists_1, trivial, launch0.admits_env _ _ _, launch0.least_env, fairChoices_fair.cas, fairChoices_fair.clock, w_frames, w_args, w_heap, w_applies, trivial, trivial, w_case⟩
end start1
theorem witness_1 : WitnessClaimed_1 := ⟨start1.p0, start1.e0, start1.about1, start1.theMethod, start1.args0, start1.below0, start1.atStart⟩
end Jvm.Pilot.@@N@@
